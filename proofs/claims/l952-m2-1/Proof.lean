import JvmDerived
import JvmDerived.Pilot.@@N@@Statement
import JvmDerived.Pilot.@@N@@Code
set_option linter.unusedVariables false
set_option linter.unusedSimpArgs false
namespace Jvm.RoadKit
open Sem ClassFile Op Lib Jvm.Stand Jvm.Free Jvm.LawKit
section New
variable {p : Program} {l : Launch} {e : Env} {R : Room} {s : State} {m : MethodId} {args : Array Value} {below : List Frame} {meth : Method} {c : Code} {T : State} {locs : List Loc} {cells slots : Nat}
theorem retI (X : Stand p l e R s m args below meth c T locs cells slots) (hx : p.tables.exec = Jvm.exec) {pc : Nat} {Ls : Array Slot} {z : Int32} {rest : List Value} (hret : meth.sig.returnType = some .int) (hd : decode c.code pc = .ok (.ireturn, 1)) {fs : List Frame}
    (hl : ∀ (f : JFrame) (acts : List Action), f.method = m → f.locked = none → f.entered = [] → (doReturn e (T.setTop f) acts (some (.int z))).1 = T.setFrames fs) : Steps p.tables e below (T.setTop (mkF m pc Ls (.int z :: rest))) (T.setFrames fs) := by
  have hm' : T.vm.method? m = some meth := X.method'
  have hn : narrow .int (.int z) = .int z := rfl
  show Steps p.tables e below (T.setTop { method := m, pc := pc, locals := Ls, stack := _ :: rest, locked := none }) _
  jvm_step X.here [X.here.top, hx, hd, hm', hret, hn]
  first | (intro acts; rw [hl _ acts rfl rfl rfl]) | rw [hl _ _ rfl rfl rfl]
  exact Steps.refl _
theorem own_retZ (X : Stand p l e R s m args below meth c T locs cells slots) (hx : p.tables.exec = Jvm.exec) {pc : Nat} {Ls : Array Slot} {z : Int32} {rest : List Value} (hret : meth.sig.returnType = some .boolean) (hz : z &&& 1 = z) (hd : decode c.code pc = .ok (.ireturn, 1)) {fs : List Frame}
    (hl : ∀ (f : JFrame) (acts : List Action), f.method = m → f.locked = none → f.entered = [] → (doReturn e (T.setTop f) acts (some (.int z))).1 = T.setFrames fs) : Steps p.tables e below (T.setTop (mkF m pc Ls (.int z :: rest))) (T.setFrames fs) :=
  retN X hx (t := .boolean) hret (Or.inl rfl) hd (by have q : nar .boolean z = z := hz; rw [q]; exact hl)
theorem own_lrem {g : JFrame} {target : State} (X : Stand p l e R s m args below meth c T locs cells slots) (hx : p.tables.exec = Jvm.exec) (hg : g.method = m) {x y : Int64} {rest : List Value} (hd : decode c.code g.pc = .ok (.lrem, 1)) (hs : g.stack = .long y :: .long x :: rest) (hy : y ≠ 0)
    (hr : Steps p.tables e below (T.setTop { g with pc := g.pc + 1, stack := .long (x % y) :: rest }) target) : Steps p.tables e below (T.setTop g) target :=
  XS.lrem X.here hx hg hd hs hy (by rw [lrem_mod x y]; exact hr)
end New
end Jvm.RoadKit
namespace Jvm.Pilot.@@N@@
open Jvm Jvm.ClassFile Sem Op Lib Jvm.Free Jvm.Stand Jvm.LawKit Jvm.RoadKit Bundle Jvm.Pilot.@@N@@.Jvm.D
section Own
variable {p : Program} {l : Launch} {e : Env} {R : Room} {s : State} {m : MethodId} {args : Array Value} {below : List Frame} {meth : Method} {c : Code} {T : State} {locs : List Loc} {cells slots : Nat} {Z : State} {h h' : Heap} {a b : Addr} {ty : FieldType} {vs : List Value}
/-- the array at a, of elements of kind ty, holds just vs -/
def LA (Z : State) (h : Heap) (a : Addr) (ty : FieldType) (vs : List Value) : Prop := ∃ c : Cell, Arr Z h a c ty ∧ c.slots.toList = vs
theorem LA.lt (F : LA Z h a ty vs) : a < h.size := by obtain ⟨c, A, -⟩ := F; exact A.lt
theorem LA.ext (F : LA Z h a ty vs) (E : Ext h h') : LA Z h' a ty vs := by obtain ⟨c, A, r⟩ := F; exact ⟨c, A.ext E, r⟩
theorem LA.other {sl : Nat} {v : Value} (F : LA Z h b ty vs) (W : Wr h h' a sl v) (q : b ≠ a) : LA Z h' b ty vs := by obtain ⟨c, A, r⟩ := F; exact ⟨c, A.other W q, r⟩
theorem LA.keep {ws : List Addr} (F : LA Z h a ty vs) (K : Keep h h' ws) (q : a ∉ ws) : LA Z h' a ty vs := by obtain ⟨c, A, r⟩ := F; exact ⟨c, ⟨K.2.1 a c A.1 q, A.2⟩, r⟩
theorem LA.new {k : ClassId} {z : Int32} (A : Arr Z h a (newA k ty z) ty) (n : Nat) (q : z.toNatClampNeg = n) : LA Z h a ty (List.replicate n (defaultValue ty)) := ⟨_, A, by subst q; simp [newA]⟩
theorem own_stI (X : Stand p l e R s m args below meth c T locs cells slots) (hx : p.tables.exec = Jvm.exec) (hZ : Z.Warmed39 s.vm) (eT : T.heap = h) (A : LA Z h a .int vs) {j x : Int32} {i : Nat} (hj : j.toNatClampNeg = i) (hi : ¬ j < 0 ∧ i < vs.length) {g : JFrame} (hg : g.method = m) {rest : List Value} (hs : g.stack = .int x :: .int j :: .ref a :: rest) (hd : decode c.code g.pc = .ok (.iastore, 1)) :
    ∃ T' h', Stand p l e R s m args below meth c T' (locs ++ [⟨a, j.toNatClampNeg⟩]) cells slots ∧ T'.heap = h' ∧ Wr h h' a j.toNatClampNeg (.int x) ∧ LA Z h' a .int (vs.set i (.int x)) ∧ ∀ target, Steps p.tables e below (T'.setTop { g with pc := g.pc + 1, stack := rest }) target → Steps p.tables e below (T.setTop g) target := by
  obtain ⟨cl, A, rfl⟩ := A
  subst hj
  have hb : ¬ (j < 0 ∨ cl.slots.size ≤ j.toNatClampNeg) := fun q => q.elim hi.1 fun r => by have := hi.2; rw [Array.length_toList] at this; omega
  obtain ⟨T', h', X', e', W, st⟩ := stI X hx hZ eT A hb hg hs hd
  exact ⟨T', h', X', e', W, ⟨_, A.same W, by simp [Cell.setSlot]⟩, st⟩
theorem own_stJ (X : Stand p l e R s m args below meth c T locs cells slots) (hx : p.tables.exec = Jvm.exec) (hZ : Z.Warmed39 s.vm) (eT : T.heap = h) (A : LA Z h a .long vs) {j : Int32} {x : Int64} {i : Nat} (hj : j.toNatClampNeg = i) (hi : ¬ j < 0 ∧ i < vs.length) {g : JFrame} (hg : g.method = m) {rest : List Value} (hs : g.stack = .long x :: .int j :: .ref a :: rest) (hd : decode c.code g.pc = .ok (.lastore, 1)) :
    ∃ T' h', Stand p l e R s m args below meth c T' (locs ++ [⟨a, j.toNatClampNeg⟩]) cells slots ∧ T'.heap = h' ∧ Wr h h' a j.toNatClampNeg (.long x) ∧ LA Z h' a .long (vs.set i (.long x)) ∧ ∀ target, Steps p.tables e below (T'.setTop { g with pc := g.pc + 1, stack := rest }) target → Steps p.tables e below (T.setTop g) target := by
  obtain ⟨cl, A, rfl⟩ := A
  subst hj
  have hb : ¬ (j < 0 ∨ cl.slots.size ≤ j.toNatClampNeg) := fun q => q.elim hi.1 fun r => by have := hi.2; rw [Array.length_toList] at this; omega
  obtain ⟨T', h', X', e', W, st⟩ := stJ X hx hZ eT A hb hg hs hd
  exact ⟨T', h', X', e', W, ⟨_, A.same W, by simp [Cell.setSlot]⟩, st⟩
theorem own_at {cl : Cell} {j : Int32} {v : Value} (hn : ¬ j < 0) (hat : cl.slots.toList[j.toNatClampNeg]? = some v) : ¬ (j < 0 ∨ cl.slots.size ≤ j.toNatClampNeg) ∧ cl.slots[j.toNatClampNeg]? = some v := by
  have q : cl.slots[j.toNatClampNeg]? = some v := by rw [← Array.getElem?_toList]; exact hat
  exact ⟨fun r => r.elim hn fun z => absurd (Array.getElem?_eq_some_iff.mp q).1 (Nat.not_lt.mpr z), q⟩
theorem own_ldI (X : Stand p l e R s m args below meth c T locs cells slots) (hx : p.tables.exec = Jvm.exec) (hZ : Z.Warmed39 s.vm) (eT : T.heap = h) (A : LA Z h a .int vs) {j x : Int32} (hn : ¬ j < 0) (hat : vs[j.toNatClampNeg]? = some (.int x)) {g : JFrame} (hg : g.method = m) {rest : List Value} (hs : g.stack = .int j :: .ref a :: rest) (hd : decode c.code g.pc = .ok (.iaload, 1)) (target : State)
    (hr : Steps p.tables e below (T.setTop { g with pc := g.pc + 1, stack := .int x :: rest }) target) : Steps p.tables e below (T.setTop g) target := by
  obtain ⟨cl, A, rfl⟩ := A
  exact X.iaload hx (by rw [eT]; exact A.1) (State.isArrayOf_alike hZ.alike A.2.1) A.2.2 (own_at hn hat).1 (own_at hn hat).2 hg hs hd target hr
theorem own_ldJ (X : Stand p l e R s m args below meth c T locs cells slots) (hx : p.tables.exec = Jvm.exec) (hZ : Z.Warmed39 s.vm) (eT : T.heap = h) (A : LA Z h a .long vs) {j : Int32} {x : Int64} (hn : ¬ j < 0) (hat : vs[j.toNatClampNeg]? = some (.long x)) {g : JFrame} (hg : g.method = m) {rest : List Value} (hs : g.stack = .int j :: .ref a :: rest) (hd : decode c.code g.pc = .ok (.laload, 1)) (target : State)
    (hr : Steps p.tables e below (T.setTop { g with pc := g.pc + 1, stack := .long x :: rest }) target) : Steps p.tables e below (T.setTop g) target := by
  obtain ⟨cl, A, rfl⟩ := A
  exact X.laload hx (by rw [eT]; exact A.1) (State.isArrayOf_alike hZ.alike A.2.1) A.2.2 (own_at hn hat).1 (own_at hn hat).2 hg hs hd target hr
theorem own_len (X : Stand p l e R s m args below meth c T locs cells slots) (hx : p.tables.exec = Jvm.exec) (hZ : Z.Warmed39 s.vm) (eT : T.heap = h) (A : LA Z h a ty vs) {n : Int32} (hn : vs.length.toInt32 = n) {g : JFrame} (hg : g.method = m) {rest : List Value} (hs : g.stack = .ref a :: rest) (hd : decode c.code g.pc = .ok (.arraylength, 1)) (target : State)
    (hr : Steps p.tables e below (T.setTop { g with pc := g.pc + 1, stack := .int n :: rest }) target) : Steps p.tables e below (T.setTop g) target := by
  obtain ⟨cl, A, rfl⟩ := A
  refine X.arraylength hx (by rw [eT]; exact A.1) (State.isArrayOf_alike hZ.alike A.2.1) hg hs hd target ?_
  have q : cl.slots.size.toInt32 = n := by rw [← hn, Array.length_toList]
  rw [q]; exact hr
theorem own_clone {a0 : Array Value} (X : Stand p l e R s m args below meth c T locs cells slots) (hx : p.tables.exec = Jvm.exec) (hZ : Z.Warmed39 s.vm) {own ad : String} {index : Nat} (hown : s.vm.findClass own = some m.cls)
    (w1 : (Cond.methodLink own index ⟨ad, "clone", "()Ljava/lang/Object;"⟩).before a0 Z = true) (w2 : (Cond.sameMethod ad "java/lang/Object" "clone" "()Ljava/lang/Object;").before a0 Z = true) (w3 : (Cond.native ⟨"java/lang/Object", "clone", "()Ljava/lang/Object;"⟩).before a0 Z = true)
    (w4 : (Cond.instanceMethod ⟨"java/lang/Object", "clone", "()Ljava/lang/Object;"⟩).before a0 Z = true) (w5 : (Cond.selects ad ⟨ad, "clone", "()Ljava/lang/Object;"⟩ ⟨"java/lang/Object", "clone", "()Ljava/lang/Object;"⟩).before a0 Z = true) (w6 : (Cond.castable ad "java/lang/Cloneable").before a0 Z = true)
    (eT : T.heap = h) (A : LA Z h a ty vs) (E : Exa Z h a ad) (F : ∀ v ∈ vs, fits ty v = true) {g : JFrame} (hg : g.method = m) (hsize : g.locals.size = c.maxLocals) {rest : List Value} (hs : g.stack = .ref a :: rest) (hd : decode c.code g.pc = .ok (.invokevirtual index, 3))
    (hf : 1 ≤ R.frames) {W cap : Nat} (hW : 2 * g.monitorRoom + (rest.map fun v => v.category).sum ≤ W) (hl : W + 14 ≤ R.locals) (hcap : vs.length ≤ cap) (hc : cells + 1 ≤ R.cells) (hsl : slots + cap ≤ R.slots) :
    ∃ T' h', Stand p l e R s m args below meth c T' locs (cells + 1) (slots + cap) ∧ T'.heap = h' ∧ Ext h h' ∧ LA Z h' h.size ty vs ∧ Exa Z h' h.size ad ∧
      ∀ target, Steps p.tables e below (T'.setTop { g with pc := g.pc + 3, stack := .ref h.size :: rest }) target → Steps p.tables e below (T.setTop g) target := by
  obtain ⟨cl, A, rfl⟩ := A
  have FC : FitC Z cl := fitC_of A fun i hi v hv => F v (Array.mem_toList_iff.mpr (Array.mem_of_getElem? hv))
  obtain ⟨T', h', X', e', ex, A', E', st⟩ := cloneA X hx hZ hown w1 w2 w3 w4 w5 w6 eT A E FC hg hsize hs hd hf hW hl (by rw [Array.length_toList] at hcap; exact hcap) hc hsl
  exact ⟨T', h', X', e', ex, ⟨cloneOf cl, A', rfl⟩, E', st⟩
theorem own_fitsJ (xs : List Int64) : ∀ v ∈ xs.map Value.long, fits .long v = true := fun v hv => by
  obtain ⟨x, -, rfl⟩ := List.mem_map.mp hv
  rfl
theorem own_readJ {xs pr rest : List Int64} {x : Int64} {k : Nat} (e : xs = pr ++ x :: rest) (hk : k = pr.length) : (xs.map Value.long)[k]? = some (.long x) := by
  subst e hk
  simp
end Own
theorem own_idx {j : Int32} {n : Nat} (h0 : 0 ≤ j.toInt) (h1 : j.toInt < n) : ¬ j < 0 ∧ j.toNatClampNeg < n := by
  have q : ¬ j < 0 := fun q => by have := Int32.lt_iff_toInt_lt.mp q; have z : (0 : Int32).toInt = 0 := (by decide); omega
  have r := nat_of q
  exact ⟨q, by omega⟩
theorem own_get {vs : List Value} (L : List Int32) (e : vs = L.map Value.int) {k : Nat} (hk : k < L.length) : ∃ x, vs[k]? = some (.int x) := by
  subst e
  exact ⟨L[k], by simp [hk]⟩
def own_min (x y : Int32) : Int32 := if y < x then y else x
def own_max (x y : Int32) : Int32 := if x < y then y else x
theorem own_minI (x y : Int32) : (own_min x y).toInt = min x.toInt y.toInt := by
  unfold own_min
  by_cases h : y < x
  · rw [if_pos h]; have := Int32.lt_iff_toInt_lt.mp h; omega
  · rw [if_neg h]; have : ¬ y.toInt < x.toInt := fun q => h (Int32.lt_iff_toInt_lt.mpr q); omega
theorem own_maxI (x y : Int32) : (own_max x y).toInt = max x.toInt y.toInt := by
  unfold own_max
  by_cases h : x < y
  · rw [if_pos h]; have := Int32.lt_iff_toInt_lt.mp h; omega
  · rw [if_neg h]; have : ¬ x.toInt < y.toInt := fun q => h (Int32.lt_iff_toInt_lt.mpr q); omega

theorem own_half (x y : Int32) (hx : 0 ≤ x.toInt) (hy : 0 ≤ y.toInt) (h : x.toInt + y.toInt < 1000) : ((((x + y) + (1 : Int32)).toUInt32 >>> ((1 : Int32) &&& 31).toUInt32).toInt32).toInt = (x.toInt + y.toInt + 1) / 2 := by
  rw [c_iushr ((x + y) + (1 : Int32)) (1 : Int32) 1 (by decide) (by decide)]
  have c := c_iadd x y
  have r := rng32 (x + y)
  have c2 := c_iadd (x + y) (1 : Int32)
  have r2 := rng32 ((x + y) + (1 : Int32))
  have o : (1 : Int32).toInt = 1 := by decide
  omega
theorem own_dec (x : Int32) (h : 0 ≤ x.toInt) : (x - (1 : Int32)).toInt = x.toInt - 1 := by
  have c := c_isub x (1 : Int32)
  have r := rng32 (x - (1 : Int32))
  have q := rng32 x
  have o : (1 : Int32).toInt = 1 := by decide
  omega
theorem own_read (f : Nat → Int32) (N : Nat) (j : Int32) (h0 : 0 ≤ j.toInt) (h1 : j.toInt < N) : ((List.range N).map fun i => Value.int (f i))[j.toNatClampNeg]? = some (.int (f j.toNatClampNeg)) := by
  have h := (own_idx h0 h1).2
  simp [h]
theorem own_ite {P : Prop} [Decidable P] {x y u : Int32} (h : u = if P then x else y) : u.toInt = x.toInt ∨ u.toInt = y.toInt := by
  subst h; by_cases q : P
  · rw [if_pos q]; exact Or.inl rfl
  · rw [if_neg q]; exact Or.inr rfl
theorem d1_0 : decode jdk_29_method_69_code 0 = .ok (.iload_n 0, 1) := by decide +kernel
theorem d1_1 : decode jdk_29_method_69_code 1 = .ok (.iload_n 1, 1) := by decide +kernel
theorem d1_2 : decode jdk_29_method_69_code 2 = .ok (.if_icmp .gt 7, 3) := by decide +kernel
theorem d1_9 : decode jdk_29_method_69_code 9 = .ok (.iload_n 1, 1) := by decide +kernel
theorem d1_10 : decode jdk_29_method_69_code 10 = .ok (.ireturn, 1) := by decide +kernel
theorem d1_5 : decode jdk_29_method_69_code 5 = .ok (.iload_n 0, 1) := by decide +kernel
theorem d1_6 : decode jdk_29_method_69_code 6 = .ok (.goto 4, 3) := by decide +kernel
theorem ef_rm1 (m : MethodId) (x0 : Int32) (x1 : Int32) : entryFrame m #[(.int x0), (.int x1)] 2 = mkF m 0 #[.val (.int x0), .val (.int x1)] [] := by first | (simp [entryFrame, mkF, argsToLocals, Value.category]; done) | rfl
def Q1 (Z : State) (x : Int32) (y : Int32) (h0 : Heap) (n0 : Nat) (v : Option Value) (h : Heap) (L : List Loc) : Prop := v = some (.int (own_min x y)) ∧ Fr n0 L ∧ h = h0
set_option maxRecDepth 65536 in
set_option maxHeartbeats 40000000 in
theorem rm1 (l : Launch) (Z : State) (a0 : Array Value) (hw : ∀ d ∈ tables_1, d.before a0 Z = true) (ws : List Jvm.Cond) (x : Int32) (y : Int32) (h0 : Heap) (n0 : Nat) (Z0 : n0 ≤ h0.size) :
    MetFree l (⟨"java/lang/Math", "min", "(II)I"⟩ : MethodName) (head1 (Jvm.Cond.code (⟨"java/lang/Math", "min", "(II)I"⟩ : MethodName) jdk_29_method_69_code 2 (some .int) :: ws) ({ frames := 0, cells := 0, slots := 0, locals := 0 } : Room)) (fun aa U => aa = #[(.int x), (.int y)] ∧ Z.Warmed39 U.vm ∧ U.heap = h0) (fun _ _ _ _ _ => True) (fun _ U o U' => ∃ v L, o = .returned v ∧ Q1 Z x y h0 n0 v U'.heap L ∧ FrameEnd U o U' L ({ frames := 0, cells := 0, slots := 0, locals := 0 } : Room).cells ({ frames := 0, cells := 0, slots := 0, locals := 0 } : Room).slots) := by
  refine MetFree.of_bodySF (Jvm.Free.JP.mathPlain rfl (by decide +kernel)) hisR ?_
  intro p e s m args below meth c s₁ Bd hml0 hP hK
  obtain ⟨rfl, hZ, hh⟩ := hP
  have hx := Bd.exec
  have hby := Bd.bytes
  have hml : c.maxLocals = 2 := hml0
  have hown : s.vm.findClass "java/lang/Math" = some m.cls := findClass_of_methodNamed Bd.named
  have hnm := (name_of_methodNamed Bd.named Bd.method).1
  have X0 : Stand p l e ({ frames := 0, cells := 0, slots := 0, locals := 0 } : Room) s m #[(.int x), (.int y)] below meth c s₁ [] 0 0 := Stand.of_body Bd
  have e0 : s₁.heap = h0 := by rw [← hh, Bd.state]; rfl
  have N0 := Fr.nil n0
  obtain ⟨Ω, hΩ⟩ : ∃ z, z = s₁.setTop (entryFrame m #[(.int x), (.int y)] 2) := ⟨_, rfl⟩
  have S0 : Steps p.tables e below Ω (s₁.setTop (mkF m 0 #[.val (.int x), .val (.int y)] [])) := by rw [hΩ]; exact castTop (ef_rm1 m x y) (Steps.refl _)
  have S1 : Steps p.tables e below Ω (s₁.setTop (mkF m 2 #[.val (.int x), .val (.int y)] [(.int y), (.int x)])) := by
    refine S0.trans ?_
    refine XS.iloadN X0.here hx rfl (hb hby d1_0) rfl ?_
    show Steps p.tables e below (s₁.setTop (mkF m 1 #[.val (.int x), .val (.int y)] [(.int x)])) _
    refine XS.iloadN X0.here hx rfl (hb hby d1_1) rfl ?_
    exact Steps.refl _
  by_cases hc : y < x
  · have qhc : y.toInt < x.toInt := Int32.lt_iff_toInt_lt.mp hc
    have S2 : Steps p.tables e below Ω (s₁.setTop (mkF m 10 #[.val (.int x), .val (.int y)] [(.int y)])) := by
      refine S1.trans ?_
      refine XS.icmpYes X0.here hx rfl (pc0 := 2) (pc' := 9) rfl (hb hby d1_2) rfl (XT.ii_gt_t hc) (by decide) (by decide) ?_
      show Steps p.tables e below (s₁.setTop (mkF m 9 #[.val (.int x), .val (.int y)] [])) _
      refine XS.iloadN X0.here hx rfl (hb hby d1_9) rfl ?_
      exact Steps.refl _
    obtain ⟨fs, hr, hrun, hended, hW, hsame⟩ := X0.leave (v := some (.int y)) (fun h => by rw [Bd.returns] at h; cases h)
    have hfin : Steps p.tables e below Ω (s₁.setFrames fs) := by
      refine S2.trans ?_
      exact retI X0 hx Bd.returns (hb hby d1_10) hr
    rw [hΩ] at hfin
    refine ⟨_, _, hfin, hrun, hended, _, _, rfl, ?_, ⟨_, rfl⟩, hW, hsame.mono (by decide) (by decide)⟩
    show Q1 Z x y h0 n0 _ s₁.heap _
    rw [e0]
    exact ⟨by rw [own_min, if_pos hc], N0, rfl⟩
  · have qhc : ¬ y.toInt < x.toInt := fun q => hc (Int32.lt_iff_toInt_lt.mpr q)
    have S3 : Steps p.tables e below Ω (s₁.setTop (mkF m 10 #[.val (.int x), .val (.int y)] [(.int x)])) := by
      refine S1.trans ?_
      refine XS.icmpNo X0.here hx rfl (hb hby d1_2) rfl (XT.ii_gt_f hc) ?_
      show Steps p.tables e below (s₁.setTop (mkF m 5 #[.val (.int x), .val (.int y)] [])) _
      refine XS.iloadN X0.here hx rfl (hb hby d1_5) rfl ?_
      show Steps p.tables e below (s₁.setTop (mkF m 6 #[.val (.int x), .val (.int y)] [(.int x)])) _
      refine XS.goto X0.here hx rfl (pc0 := 6) (pc' := 10) rfl (hb hby d1_6) (by decide) (by decide) ?_
      exact Steps.refl _
    obtain ⟨fs, hr, hrun, hended, hW, hsame⟩ := X0.leave (v := some (.int x)) (fun h => by rw [Bd.returns] at h; cases h)
    have hfin : Steps p.tables e below Ω (s₁.setFrames fs) := by
      refine S3.trans ?_
      exact retI X0 hx Bd.returns (hb hby d1_10) hr
    rw [hΩ] at hfin
    refine ⟨_, _, hfin, hrun, hended, _, _, rfl, ?_, ⟨_, rfl⟩, hW, hsame.mono (by decide) (by decide)⟩
    show Q1 Z x y h0 n0 _ s₁.heap _
    rw [e0]
    exact ⟨by rw [own_min, if_neg hc], N0, rfl⟩
theorem d2_0 : decode jdk_29_method_65_code 0 = .ok (.iload_n 0, 1) := by decide +kernel
theorem d2_1 : decode jdk_29_method_65_code 1 = .ok (.iload_n 1, 1) := by decide +kernel
theorem d2_2 : decode jdk_29_method_65_code 2 = .ok (.if_icmp .lt 7, 3) := by decide +kernel
theorem d2_9 : decode jdk_29_method_65_code 9 = .ok (.iload_n 1, 1) := by decide +kernel
theorem d2_10 : decode jdk_29_method_65_code 10 = .ok (.ireturn, 1) := by decide +kernel
theorem d2_5 : decode jdk_29_method_65_code 5 = .ok (.iload_n 0, 1) := by decide +kernel
theorem d2_6 : decode jdk_29_method_65_code 6 = .ok (.goto 4, 3) := by decide +kernel
theorem ef_rm2 (m : MethodId) (x0 : Int32) (x1 : Int32) : entryFrame m #[(.int x0), (.int x1)] 2 = mkF m 0 #[.val (.int x0), .val (.int x1)] [] := by first | (simp [entryFrame, mkF, argsToLocals, Value.category]; done) | rfl
def Q2 (Z : State) (x : Int32) (y : Int32) (h0 : Heap) (n0 : Nat) (v : Option Value) (h : Heap) (L : List Loc) : Prop := v = some (.int (own_max x y)) ∧ Fr n0 L ∧ h = h0
set_option maxRecDepth 65536 in
set_option maxHeartbeats 40000000 in
theorem rm2 (l : Launch) (Z : State) (a0 : Array Value) (hw : ∀ d ∈ tables_1, d.before a0 Z = true) (ws : List Jvm.Cond) (x : Int32) (y : Int32) (h0 : Heap) (n0 : Nat) (Z0 : n0 ≤ h0.size) :
    MetFree l (⟨"java/lang/Math", "max", "(II)I"⟩ : MethodName) (head1 (Jvm.Cond.code (⟨"java/lang/Math", "max", "(II)I"⟩ : MethodName) jdk_29_method_65_code 2 (some .int) :: ws) ({ frames := 0, cells := 0, slots := 0, locals := 0 } : Room)) (fun aa U => aa = #[(.int x), (.int y)] ∧ Z.Warmed39 U.vm ∧ U.heap = h0) (fun _ _ _ _ _ => True) (fun _ U o U' => ∃ v L, o = .returned v ∧ Q2 Z x y h0 n0 v U'.heap L ∧ FrameEnd U o U' L ({ frames := 0, cells := 0, slots := 0, locals := 0 } : Room).cells ({ frames := 0, cells := 0, slots := 0, locals := 0 } : Room).slots) := by
  refine MetFree.of_bodySF (Jvm.Free.JP.mathPlain rfl (by decide +kernel)) hisR ?_
  intro p e s m args below meth c s₁ Bd hml0 hP hK
  obtain ⟨rfl, hZ, hh⟩ := hP
  have hx := Bd.exec
  have hby := Bd.bytes
  have hml : c.maxLocals = 2 := hml0
  have hown : s.vm.findClass "java/lang/Math" = some m.cls := findClass_of_methodNamed Bd.named
  have hnm := (name_of_methodNamed Bd.named Bd.method).1
  have X0 : Stand p l e ({ frames := 0, cells := 0, slots := 0, locals := 0 } : Room) s m #[(.int x), (.int y)] below meth c s₁ [] 0 0 := Stand.of_body Bd
  have e0 : s₁.heap = h0 := by rw [← hh, Bd.state]; rfl
  have N0 := Fr.nil n0
  obtain ⟨Ω, hΩ⟩ : ∃ z, z = s₁.setTop (entryFrame m #[(.int x), (.int y)] 2) := ⟨_, rfl⟩
  have S0 : Steps p.tables e below Ω (s₁.setTop (mkF m 0 #[.val (.int x), .val (.int y)] [])) := by rw [hΩ]; exact castTop (ef_rm2 m x y) (Steps.refl _)
  have S1 : Steps p.tables e below Ω (s₁.setTop (mkF m 2 #[.val (.int x), .val (.int y)] [(.int y), (.int x)])) := by
    refine S0.trans ?_
    refine XS.iloadN X0.here hx rfl (hb hby d2_0) rfl ?_
    show Steps p.tables e below (s₁.setTop (mkF m 1 #[.val (.int x), .val (.int y)] [(.int x)])) _
    refine XS.iloadN X0.here hx rfl (hb hby d2_1) rfl ?_
    exact Steps.refl _
  by_cases hc : x < y
  · have qhc : x.toInt < y.toInt := Int32.lt_iff_toInt_lt.mp hc
    have S2 : Steps p.tables e below Ω (s₁.setTop (mkF m 10 #[.val (.int x), .val (.int y)] [(.int y)])) := by
      refine S1.trans ?_
      refine XS.icmpYes X0.here hx rfl (pc0 := 2) (pc' := 9) rfl (hb hby d2_2) rfl (XT.ii_lt_t hc) (by decide) (by decide) ?_
      show Steps p.tables e below (s₁.setTop (mkF m 9 #[.val (.int x), .val (.int y)] [])) _
      refine XS.iloadN X0.here hx rfl (hb hby d2_9) rfl ?_
      exact Steps.refl _
    obtain ⟨fs, hr, hrun, hended, hW, hsame⟩ := X0.leave (v := some (.int y)) (fun h => by rw [Bd.returns] at h; cases h)
    have hfin : Steps p.tables e below Ω (s₁.setFrames fs) := by
      refine S2.trans ?_
      exact retI X0 hx Bd.returns (hb hby d2_10) hr
    rw [hΩ] at hfin
    refine ⟨_, _, hfin, hrun, hended, _, _, rfl, ?_, ⟨_, rfl⟩, hW, hsame.mono (by decide) (by decide)⟩
    show Q2 Z x y h0 n0 _ s₁.heap _
    rw [e0]
    exact ⟨by rw [own_max, if_pos hc], N0, rfl⟩
  · have qhc : ¬ x.toInt < y.toInt := fun q => hc (Int32.lt_iff_toInt_lt.mpr q)
    have S3 : Steps p.tables e below Ω (s₁.setTop (mkF m 10 #[.val (.int x), .val (.int y)] [(.int x)])) := by
      refine S1.trans ?_
      refine XS.icmpNo X0.here hx rfl (hb hby d2_2) rfl (XT.ii_lt_f hc) ?_
      show Steps p.tables e below (s₁.setTop (mkF m 5 #[.val (.int x), .val (.int y)] [])) _
      refine XS.iloadN X0.here hx rfl (hb hby d2_5) rfl ?_
      show Steps p.tables e below (s₁.setTop (mkF m 6 #[.val (.int x), .val (.int y)] [(.int x)])) _
      refine XS.goto X0.here hx rfl (pc0 := 6) (pc' := 10) rfl (hb hby d2_6) (by decide) (by decide) ?_
      exact Steps.refl _
    obtain ⟨fs, hr, hrun, hended, hW, hsame⟩ := X0.leave (v := some (.int x)) (fun h => by rw [Bd.returns] at h; cases h)
    have hfin : Steps p.tables e below Ω (s₁.setFrames fs) := by
      refine S3.trans ?_
      exact retI X0 hx Bd.returns (hb hby d2_10) hr
    rw [hΩ] at hfin
    refine ⟨_, _, hfin, hrun, hended, _, _, rfl, ?_, ⟨_, rfl⟩, hW, hsame.mono (by decide) (by decide)⟩
    show Q2 Z x y h0 n0 _ s₁.heap _
    rw [e0]
    exact ⟨by rw [own_max, if_neg hc], N0, rfl⟩
theorem d3_0 : decode prog_15_method_3_code 0 = .ok (.iconst 0, 1) := by decide +kernel
theorem d3_1 : decode prog_15_method_3_code 1 = .ok (.istore_n 3, 1) := by decide +kernel
theorem d3_2 : decode prog_15_method_3_code 2 = .ok (.iload_n 1, 1) := by decide +kernel
theorem d3_3 : decode prog_15_method_3_code 3 = .ok (.istore 4, 2) := by decide +kernel
theorem d3_5 : decode prog_15_method_3_code 5 = .ok (.iload_n 3, 1) := by decide +kernel
theorem d3_6 : decode prog_15_method_3_code 6 = .ok (.iload 4, 2) := by decide +kernel
theorem d3_8 : decode prog_15_method_3_code 8 = .ok (.if_icmp .ge 36, 3) := by decide +kernel
theorem d3_11 : decode prog_15_method_3_code 11 = .ok (.iload_n 3, 1) := by decide +kernel
theorem d3_12 : decode prog_15_method_3_code 12 = .ok (.iload 4, 2) := by decide +kernel
theorem d3_14 : decode prog_15_method_3_code 14 = .ok (.iadd, 1) := by decide +kernel
theorem d3_15 : decode prog_15_method_3_code 15 = .ok (.iconst 1, 1) := by decide +kernel
theorem d3_16 : decode prog_15_method_3_code 16 = .ok (.iadd, 1) := by decide +kernel
theorem d3_17 : decode prog_15_method_3_code 17 = .ok (.iconst 1, 1) := by decide +kernel
theorem d3_18 : decode prog_15_method_3_code 18 = .ok (.iushr, 1) := by decide +kernel
theorem d3_19 : decode prog_15_method_3_code 19 = .ok (.istore 5, 2) := by decide +kernel
theorem d3_21 : decode prog_15_method_3_code 21 = .ok (.aload_n 0, 1) := by decide +kernel
theorem d3_22 : decode prog_15_method_3_code 22 = .ok (.iload 5, 2) := by decide +kernel
theorem d3_24 : decode prog_15_method_3_code 24 = .ok (.iaload, 1) := by decide +kernel
theorem d3_25 : decode prog_15_method_3_code 25 = .ok (.iload_n 2, 1) := by decide +kernel
theorem d3_26 : decode prog_15_method_3_code 26 = .ok (.if_icmp .gt 9, 3) := by decide +kernel
theorem d3_35 : decode prog_15_method_3_code 35 = .ok (.iload 5, 2) := by decide +kernel
theorem d3_37 : decode prog_15_method_3_code 37 = .ok (.iconst 1, 1) := by decide +kernel
theorem d3_38 : decode prog_15_method_3_code 38 = .ok (.isub, 1) := by decide +kernel
theorem d3_39 : decode prog_15_method_3_code 39 = .ok (.istore 4, 2) := by decide +kernel
theorem d3_41 : decode prog_15_method_3_code 41 = .ok (.goto (-36), 3) := by decide +kernel
theorem d3_29 : decode prog_15_method_3_code 29 = .ok (.iload 5, 2) := by decide +kernel
theorem d3_31 : decode prog_15_method_3_code 31 = .ok (.istore_n 3, 1) := by decide +kernel
theorem d3_32 : decode prog_15_method_3_code 32 = .ok (.goto 9, 3) := by decide +kernel
theorem d3_44 : decode prog_15_method_3_code 44 = .ok (.iload_n 3, 1) := by decide +kernel
theorem d3_45 : decode prog_15_method_3_code 45 = .ok (.ireturn, 1) := by decide +kernel
theorem pn_0 : plainName "com/example/arcspan/arcspan/index/SortedInts" = true := by first | (simp [plainName, overriddenIn]; done) | decide +kernel
theorem ef_rm3 (m : MethodId) (x0 : Addr) (x1 : Int32) (x2 : Int32) : entryFrame m #[(.ref x0), (.int x1), (.int x2)] 6 = mkF m 0 #[.val (.ref x0), .val (.int x1), .val (.int x2), .unset, .unset, .unset] [] := by first | (simp [entryFrame, mkF, argsToLocals, Value.category]; done) | rfl
def Q3 (Z : State) (a : Addr) (p1 : Int32) (p2 : Int32) (f : Nat → Int32) (h0 : Heap) (n0 : Nat) (v : Option Value) (h : Heap) (L : List Loc) : Prop := ∃ r : Int32, v = some (.int r) ∧ Fr n0 L ∧ h = h0 ∧ 0 ≤ r.toInt ∧ r.toInt ≤ p1.toInt ∧ (∀ i : Nat, 0 < i → (i : Int) = r.toInt → ¬ p2.toInt < (f i).toInt) ∧ (∀ i : Nat, r.toInt < i → (i : Int) ≤ p1.toInt → p2.toInt < (f i).toInt)
set_option maxRecDepth 65536 in
set_option maxHeartbeats 40000000 in
theorem rm3 (l : Launch) (Z : State) (a0 : Array Value) (hw : ∀ d ∈ tables_1, d.before a0 Z = true) (ws : List Jvm.Cond) (a : Addr) (p1 : Int32) (p2 : Int32) (f : Nat → Int32) (h0 : Heap) (n0 : Nat) (Z0 : n0 ≤ h0.size) (A : LA Z h0 a .int ((List.range 4).map fun i => Value.int (f i))) (b1 : 0 ≤ p1.toInt) (b2 : p1.toInt < 4) (srt : ∀ i j : Nat, i ≤ j → j < 4 → (f i).toInt ≤ (f j).toInt) :
    MetFree l (⟨"com/example/arcspan/arcspan/index/SortedInts", "lastAtOrBefore", "([III)I"⟩ : MethodName) (head1 (Jvm.Cond.code (⟨"com/example/arcspan/arcspan/index/SortedInts", "lastAtOrBefore", "([III)I"⟩ : MethodName) prog_15_method_3_code 6 (some .int) :: ws) ({ frames := 0, cells := 0, slots := 0, locals := 0 } : Room)) (fun aa U => aa = #[(.ref a), (.int p1), (.int p2)] ∧ Z.Warmed39 U.vm ∧ U.heap = h0) (fun _ _ _ _ _ => True) (fun _ U o U' => ∃ v L, o = .returned v ∧ Q3 Z a p1 p2 f h0 n0 v U'.heap L ∧ FrameEnd U o U' L ({ frames := 0, cells := 0, slots := 0, locals := 0 } : Room).cells ({ frames := 0, cells := 0, slots := 0, locals := 0 } : Room).slots) := by
  refine MetFree.of_bodySF (plainFor_of_name pn_0) hisR ?_
  intro p e s m args below meth c s₁ Bd hml0 hP hK
  obtain ⟨rfl, hZ, hh⟩ := hP
  have hx := Bd.exec
  have hby := Bd.bytes
  have hml : c.maxLocals = 6 := hml0
  have hown : s.vm.findClass "com/example/arcspan/arcspan/index/SortedInts" = some m.cls := findClass_of_methodNamed Bd.named
  have hnm := (name_of_methodNamed Bd.named Bd.method).1
  have X0 : Stand p l e ({ frames := 0, cells := 0, slots := 0, locals := 0 } : Room) s m #[(.ref a), (.int p1), (.int p2)] below meth c s₁ [] 0 0 := Stand.of_body Bd
  have e0 : s₁.heap = h0 := by rw [← hh, Bd.state]; rfl
  have N0 := Fr.nil n0
  obtain ⟨Ω, hΩ⟩ : ∃ z, z = s₁.setTop (entryFrame m #[(.ref a), (.int p1), (.int p2)] 6) := ⟨_, rfl⟩
  have S0 : Steps p.tables e below Ω (s₁.setTop (mkF m 0 #[.val (.ref a), .val (.int p1), .val (.int p2), .unset, .unset, .unset] [])) := by rw [hΩ]; exact castTop (ef_rm3 m a p1 p2) (Steps.refl _)
  have S1 : Steps p.tables e below Ω (s₁.setTop (mkF m 5 #[.val (.ref a), .val (.int p1), .val (.int p2), .val (.int (0 : Int32)), .val (.int p1), .unset] [])) := by
    refine S0.trans ?_
    refine XS.iconst X0.here hx rfl (hb hby d3_0) ?_
    show Steps p.tables e below (s₁.setTop (mkF m 1 #[.val (.ref a), .val (.int p1), .val (.int p2), .unset, .unset, .unset] [(.int (0 : Int32))])) _
    refine XS.istoreN X0.here hx rfl (hb hby d3_1) rfl (l' := #[.val (.ref a), .val (.int p1), .val (.int p2), .val (.int (0 : Int32)), .unset, .unset]) rfl ?_
    show Steps p.tables e below (s₁.setTop (mkF m 2 #[.val (.ref a), .val (.int p1), .val (.int p2), .val (.int (0 : Int32)), .unset, .unset] [])) _
    refine XS.iloadN X0.here hx rfl (hb hby d3_2) rfl ?_
    show Steps p.tables e below (s₁.setTop (mkF m 3 #[.val (.ref a), .val (.int p1), .val (.int p2), .val (.int (0 : Int32)), .unset, .unset] [(.int p1)])) _
    refine XS.istore X0.here hx rfl (hb hby d3_3) rfl (l' := #[.val (.ref a), .val (.int p1), .val (.int p2), .val (.int (0 : Int32)), .val (.int p1), .unset]) rfl ?_
    exact Steps.refl _
  have LOOP : ∀ (k : Nat) (lo hi : Int32) (s6 : Slot), One s6 → 0 ≤ lo.toInt → lo.toInt ≤ hi.toInt → hi.toInt ≤ p1.toInt → (∀ i : Nat, 0 < i → (i : Int) = lo.toInt → ¬ p2.toInt < (f i).toInt) → (∀ i : Nat, hi.toInt < i → (i : Int) ≤ p1.toInt → p2.toInt < (f i).toInt) → hi.toInt - lo.toInt < k → ∃ (r : Int32) (s5 s6' : Slot), (0 ≤ r.toInt ∧ r.toInt ≤ p1.toInt ∧ (∀ i : Nat, 0 < i → (i : Int) = r.toInt → ¬ p2.toInt < (f i).toInt) ∧ (∀ i : Nat, r.toInt < i → (i : Int) ≤ p1.toInt → p2.toInt < (f i).toInt)) ∧ Steps p.tables e below (s₁.setTop (mkF m 5 #[.val (.ref a), .val (.int p1), .val (.int p2), .val (.int lo), .val (.int hi), s6] [])) (s₁.setTop (mkF m 44 #[.val (.ref a), .val (.int p1), .val (.int p2), .val (.int r), s5, s6'] [])) := by
    intro k
    induction k with
    | zero => intro lo hi s6 hs6 i1 i2 i3 i4 i5 i6; exfalso; omega
    | succ k ih =>
      intro lo hi s6 hs6 i1 i2 i3 i4 i5 i6
      have P2 : Steps p.tables e below (s₁.setTop (mkF m 5 #[.val (.ref a), .val (.int p1), .val (.int p2), .val (.int lo), .val (.int hi), s6] [])) (s₁.setTop (mkF m 5 #[.val (.ref a), .val (.int p1), .val (.int p2), .val (.int lo), .val (.int hi), s6] [])) := Steps.refl _
      have S3 : Steps p.tables e below (s₁.setTop (mkF m 5 #[.val (.ref a), .val (.int p1), .val (.int p2), .val (.int lo), .val (.int hi), s6] [])) (s₁.setTop (mkF m 8 #[.val (.ref a), .val (.int p1), .val (.int p2), .val (.int lo), .val (.int hi), s6] [(.int hi), (.int lo)])) := by
        refine P2.trans ?_
        refine XS.iloadN X0.here hx rfl (hb hby d3_5) rfl ?_
        show Steps p.tables e below (s₁.setTop (mkF m 6 #[.val (.ref a), .val (.int p1), .val (.int p2), .val (.int lo), .val (.int hi), s6] [(.int lo)])) _
        refine XS.iload X0.here hx rfl (hb hby d3_6) rfl ?_
        exact Steps.refl _
      by_cases hc : lo < hi
      · have qhc : lo.toInt < hi.toInt := Int32.lt_iff_toInt_lt.mp hc
        have S4 : Steps p.tables e below (s₁.setTop (mkF m 5 #[.val (.ref a), .val (.int p1), .val (.int p2), .val (.int lo), .val (.int hi), s6] [])) (s₁.setTop (mkF m 19 #[.val (.ref a), .val (.int p1), .val (.int p2), .val (.int lo), .val (.int hi), s6] [(.int ((((lo + hi) + (1 : Int32)).toUInt32 >>> ((1 : Int32) &&& 31).toUInt32).toInt32))])) := by
          refine S3.trans ?_
          refine XS.icmpNo X0.here hx rfl (hb hby d3_8) rfl (XT.ii_ge_f hc) ?_
          show Steps p.tables e below (s₁.setTop (mkF m 11 #[.val (.ref a), .val (.int p1), .val (.int p2), .val (.int lo), .val (.int hi), s6] [])) _
          refine XS.iloadN X0.here hx rfl (hb hby d3_11) rfl ?_
          show Steps p.tables e below (s₁.setTop (mkF m 12 #[.val (.ref a), .val (.int p1), .val (.int p2), .val (.int lo), .val (.int hi), s6] [(.int lo)])) _
          refine XS.iload X0.here hx rfl (hb hby d3_12) rfl ?_
          show Steps p.tables e below (s₁.setTop (mkF m 14 #[.val (.ref a), .val (.int p1), .val (.int p2), .val (.int lo), .val (.int hi), s6] [(.int hi), (.int lo)])) _
          refine XS.iadd X0.here hx rfl (hb hby d3_14) rfl ?_
          show Steps p.tables e below (s₁.setTop (mkF m 15 #[.val (.ref a), .val (.int p1), .val (.int p2), .val (.int lo), .val (.int hi), s6] [(.int (lo + hi))])) _
          refine XS.iconst X0.here hx rfl (hb hby d3_15) ?_
          show Steps p.tables e below (s₁.setTop (mkF m 16 #[.val (.ref a), .val (.int p1), .val (.int p2), .val (.int lo), .val (.int hi), s6] [(.int (1 : Int32)), (.int (lo + hi))])) _
          refine XS.iadd X0.here hx rfl (hb hby d3_16) rfl ?_
          show Steps p.tables e below (s₁.setTop (mkF m 17 #[.val (.ref a), .val (.int p1), .val (.int p2), .val (.int lo), .val (.int hi), s6] [(.int ((lo + hi) + (1 : Int32)))])) _
          refine XS.iconst X0.here hx rfl (hb hby d3_17) ?_
          show Steps p.tables e below (s₁.setTop (mkF m 18 #[.val (.ref a), .val (.int p1), .val (.int p2), .val (.int lo), .val (.int hi), s6] [(.int (1 : Int32)), (.int ((lo + hi) + (1 : Int32)))])) _
          refine XS.iushr X0.here hx rfl (hb hby d3_18) rfl ?_
          exact Steps.refl _
        obtain ⟨mi, h_mi⟩ : ∃ z : Int32, z = ((((lo + hi) + (1 : Int32)).toUInt32 >>> ((1 : Int32) &&& 31).toUInt32).toInt32) := ⟨_, rfl⟩
        rw [← h_mi] at S4
        have hmi := own_half lo hi (by omega) (by omega) (by omega)
        rw [← h_mi] at hmi
        have hin := own_idx (j := mi) (n := 4) (by omega) (by omega)
        have hnat := nat_of hin.1
        have hrd := own_read f 4 mi (by omega) (by omega)
        have S5 : Steps p.tables e below (s₁.setTop (mkF m 5 #[.val (.ref a), .val (.int p1), .val (.int p2), .val (.int lo), .val (.int hi), s6] [])) (s₁.setTop (mkF m 24 #[.val (.ref a), .val (.int p1), .val (.int p2), .val (.int lo), .val (.int hi), .val (.int mi)] [(.int mi), (.ref a)])) := by
          refine S4.trans ?_
          refine XS.istoreS X0.here hx rfl (hb hby d3_19) rfl rfl hs6 ?_
          show Steps p.tables e below (s₁.setTop (mkF m 21 #[.val (.ref a), .val (.int p1), .val (.int p2), .val (.int lo), .val (.int hi), .val (.int mi)] [])) _
          refine XS.aloadN X0.here hx rfl (hb hby d3_21) rfl rfl ?_
          show Steps p.tables e below (s₁.setTop (mkF m 22 #[.val (.ref a), .val (.int p1), .val (.int p2), .val (.int lo), .val (.int hi), .val (.int mi)] [(.ref a)])) _
          refine XS.iload X0.here hx rfl (hb hby d3_22) rfl ?_
          exact Steps.refl _
        have S6 : Steps p.tables e below (s₁.setTop (mkF m 5 #[.val (.ref a), .val (.int p1), .val (.int p2), .val (.int lo), .val (.int hi), s6] [])) (s₁.setTop (mkF m 25 #[.val (.ref a), .val (.int p1), .val (.int p2), .val (.int lo), .val (.int hi), .val (.int mi)] [(.int (f mi.toNatClampNeg))])) := S5.trans (own_ldI X0 hx hZ e0 A (j := mi) (x := (f mi.toNatClampNeg)) hin.1 hrd (g := (mkF m 24 #[.val (.ref a), .val (.int p1), .val (.int p2), .val (.int lo), .val (.int hi), .val (.int mi)] [(.int mi), (.ref a)])) rfl rfl (hb hby d3_24) _ (Steps.refl _))
        have S7 : Steps p.tables e below (s₁.setTop (mkF m 5 #[.val (.ref a), .val (.int p1), .val (.int p2), .val (.int lo), .val (.int hi), s6] [])) (s₁.setTop (mkF m 26 #[.val (.ref a), .val (.int p1), .val (.int p2), .val (.int lo), .val (.int hi), .val (.int mi)] [(.int p2), (.int (f mi.toNatClampNeg))])) := by
          refine S6.trans ?_
          refine XS.iloadN X0.here hx rfl (hb hby d3_25) rfl ?_
          exact Steps.refl _
        by_cases hd : p2 < (f mi.toNatClampNeg)
        · have qhd : p2.toInt < (f mi.toNatClampNeg).toInt := Int32.lt_iff_toInt_lt.mp hd
          have S8 : Steps p.tables e below (s₁.setTop (mkF m 5 #[.val (.ref a), .val (.int p1), .val (.int p2), .val (.int lo), .val (.int hi), s6] [])) (s₁.setTop (mkF m 5 #[.val (.ref a), .val (.int p1), .val (.int p2), .val (.int lo), .val (.int (mi - (1 : Int32))), .val (.int mi)] [])) := by
            refine S7.trans ?_
            refine XS.icmpYes X0.here hx rfl (pc0 := 26) (pc' := 35) rfl (hb hby d3_26) rfl (XT.ii_gt_t hd) (by decide) (by decide) ?_
            show Steps p.tables e below (s₁.setTop (mkF m 35 #[.val (.ref a), .val (.int p1), .val (.int p2), .val (.int lo), .val (.int hi), .val (.int mi)] [])) _
            refine XS.iload X0.here hx rfl (hb hby d3_35) rfl ?_
            show Steps p.tables e below (s₁.setTop (mkF m 37 #[.val (.ref a), .val (.int p1), .val (.int p2), .val (.int lo), .val (.int hi), .val (.int mi)] [(.int mi)])) _
            refine XS.iconst X0.here hx rfl (hb hby d3_37) ?_
            show Steps p.tables e below (s₁.setTop (mkF m 38 #[.val (.ref a), .val (.int p1), .val (.int p2), .val (.int lo), .val (.int hi), .val (.int mi)] [(.int (1 : Int32)), (.int mi)])) _
            refine XS.isub X0.here hx rfl (hb hby d3_38) rfl ?_
            show Steps p.tables e below (s₁.setTop (mkF m 39 #[.val (.ref a), .val (.int p1), .val (.int p2), .val (.int lo), .val (.int hi), .val (.int mi)] [(.int (mi - (1 : Int32)))])) _
            refine XS.istore X0.here hx rfl (hb hby d3_39) rfl (l' := #[.val (.ref a), .val (.int p1), .val (.int p2), .val (.int lo), .val (.int (mi - (1 : Int32))), .val (.int mi)]) rfl ?_
            show Steps p.tables e below (s₁.setTop (mkF m 41 #[.val (.ref a), .val (.int p1), .val (.int p2), .val (.int lo), .val (.int (mi - (1 : Int32))), .val (.int mi)] [])) _
            refine XS.goto X0.here hx rfl (pc0 := 41) (pc' := 5) rfl (hb hby d3_41) (by decide) (by decide) ?_
            exact Steps.refl _
          have hdec := own_dec mi (by omega)
          obtain ⟨r, s5, s6', hp, SL⟩ := ih lo (mi - (1 : Int32)) (.val (.int mi)) (One.val rfl) i1 (by omega) (by omega) i4 (fun i j1 j2 => by have := srt mi.toNatClampNeg i (by omega) (by omega); omega) (by omega)
          exact ⟨r, s5, s6', hp, S8.trans SL⟩
        · have qhd : ¬ p2.toInt < (f mi.toNatClampNeg).toInt := fun q => hd (Int32.lt_iff_toInt_lt.mpr q)
          have S9 : Steps p.tables e below (s₁.setTop (mkF m 5 #[.val (.ref a), .val (.int p1), .val (.int p2), .val (.int lo), .val (.int hi), s6] [])) (s₁.setTop (mkF m 5 #[.val (.ref a), .val (.int p1), .val (.int p2), .val (.int mi), .val (.int hi), .val (.int mi)] [])) := by
            refine S7.trans ?_
            refine XS.icmpNo X0.here hx rfl (hb hby d3_26) rfl (XT.ii_gt_f hd) ?_
            show Steps p.tables e below (s₁.setTop (mkF m 29 #[.val (.ref a), .val (.int p1), .val (.int p2), .val (.int lo), .val (.int hi), .val (.int mi)] [])) _
            refine XS.iload X0.here hx rfl (hb hby d3_29) rfl ?_
            show Steps p.tables e below (s₁.setTop (mkF m 31 #[.val (.ref a), .val (.int p1), .val (.int p2), .val (.int lo), .val (.int hi), .val (.int mi)] [(.int mi)])) _
            refine XS.istoreN X0.here hx rfl (hb hby d3_31) rfl (l' := #[.val (.ref a), .val (.int p1), .val (.int p2), .val (.int mi), .val (.int hi), .val (.int mi)]) rfl ?_
            show Steps p.tables e below (s₁.setTop (mkF m 32 #[.val (.ref a), .val (.int p1), .val (.int p2), .val (.int mi), .val (.int hi), .val (.int mi)] [])) _
            refine XS.goto X0.here hx rfl (pc0 := 32) (pc' := 41) rfl (hb hby d3_32) (by decide) (by decide) ?_
            show Steps p.tables e below (s₁.setTop (mkF m 41 #[.val (.ref a), .val (.int p1), .val (.int p2), .val (.int mi), .val (.int hi), .val (.int mi)] [])) _
            refine XS.goto X0.here hx rfl (pc0 := 41) (pc' := 5) rfl (hb hby d3_41) (by decide) (by decide) ?_
            exact Steps.refl _
          obtain ⟨r, s5, s6', hp, SL⟩ := ih mi hi (.val (.int mi)) (One.val rfl) (by omega) (by omega) i3 (fun i j1 j2 => by have e : i = mi.toNatClampNeg := (by omega); rw [e]; exact qhd) i5 (by omega)
          exact ⟨r, s5, s6', hp, S9.trans SL⟩
      · have qhc : ¬ lo.toInt < hi.toInt := fun q => hc (Int32.lt_iff_toInt_lt.mpr q)
        have S10 : Steps p.tables e below (s₁.setTop (mkF m 5 #[.val (.ref a), .val (.int p1), .val (.int p2), .val (.int lo), .val (.int hi), s6] [])) (s₁.setTop (mkF m 44 #[.val (.ref a), .val (.int p1), .val (.int p2), .val (.int lo), .val (.int hi), s6] [])) := by
          refine S3.trans ?_
          refine XS.icmpYes X0.here hx rfl (pc0 := 8) (pc' := 44) rfl (hb hby d3_8) rfl (XT.ii_ge_t hc) (by decide) (by decide) ?_
          exact Steps.refl _
        have hq : lo.toInt = hi.toInt := by omega
        exact ⟨lo, _, _, ⟨i1, by omega, i4, fun i j1 j2 => i5 i (by omega) j2⟩, S10⟩
  have z0 : (0 : Int32).toInt = 0 := by decide
  obtain ⟨r, s5, s6', hp, SL⟩ := LOOP 5 (0 : Int32) p1 .unset One.u (by omega) (by omega) (by omega) (fun i j1 j2 => by omega) (fun i j1 j2 => by omega) (by omega)
  have S11 : Steps p.tables e below Ω (s₁.setTop (mkF m 44 #[.val (.ref a), .val (.int p1), .val (.int p2), .val (.int r), s5, s6'] [])) := S1.trans SL
  have S12 : Steps p.tables e below Ω (s₁.setTop (mkF m 45 #[.val (.ref a), .val (.int p1), .val (.int p2), .val (.int r), s5, s6'] [(.int r)])) := by
    refine S11.trans ?_
    refine XS.iloadN X0.here hx rfl (hb hby d3_44) rfl ?_
    exact Steps.refl _
  obtain ⟨fs, hr, hrun, hended, hW, hsame⟩ := X0.leave (v := some (.int r)) (fun h => by rw [Bd.returns] at h; cases h)
  have hfin : Steps p.tables e below Ω (s₁.setFrames fs) := by
    refine S12.trans ?_
    exact retI X0 hx Bd.returns (hb hby d3_45) hr
  rw [hΩ] at hfin
  refine ⟨_, _, hfin, hrun, hended, _, _, rfl, ?_, ⟨_, rfl⟩, hW, hsame.mono (by decide) (by decide)⟩
  show Q3 Z a p1 p2 f h0 n0 _ s₁.heap _
  rw [e0]
  exact ⟨r, rfl, N0, rfl, hp⟩
theorem pd_0 : parseMethodDescriptor "(II)I" = some ⟨[.int, .int], some .int⟩ := by decide +kernel
theorem pd_1 : parseMethodDescriptor "([III)I" = some ⟨[(.array .int), .int, .int], some .int⟩ := by decide +kernel
theorem pn_1 : plainName "com/example/arcspan/arcspan/index/SortedIntsLastAtOrBeforePinLaw" = true := by first | (simp [plainName, overriddenIn]; done) | decide +kernel
theorem ef_rm0 (m : MethodId) (x0 : Int32) (x1 : Int32) (x2 : Int32) (x3 : Int32) (x4 : Int32) (x5 : Int32) : entryFrame m #[(.int x0), (.int x1), (.int x2), (.int x3), (.int x4), (.int x5)] maxLocals = mkF m 0 #[.val (.int x0), .val (.int x1), .val (.int x2), .val (.int x3), .val (.int x4), .val (.int x5), .unset, .unset, .unset, .unset, .unset, .unset, .unset, .unset, .unset, .unset, .unset, .unset, .unset, .unset, .unset, .unset, .unset, .unset] [] := by first | (simp [entryFrame, mkF, argsToLocals, Value.category, maxLocals]; done) | rfl
def Q0 (Z : State) (a1 : Int32) (a2 : Int32) (a3 : Int32) (a4 : Int32) (ee : Int32) (vv : Int32) (h0 : Heap) (n0 : Nat) (v : Option Value) (h : Heap) (L : List Loc) : Prop := v = some (.int 1) ∧ Fr n0 L
set_option maxRecDepth 65536 in
set_option maxHeartbeats 40000000 in
theorem rm0 (l : Launch) (Z : State) (a0 : Array Value) (hw : ∀ d ∈ tables_1, d.before a0 Z = true) (ws : List Jvm.Cond) (a1 : Int32) (a2 : Int32) (a3 : Int32) (a4 : Int32) (ee : Int32) (vv : Int32) (h0 : Heap) (n0 : Nat) (Z0 : n0 ≤ h0.size) :
    MetFree l x (head1 (Jvm.Cond.code x code maxLocals ret :: ws) room_1) (fun aa U => aa = #[(.int a1), (.int a2), (.int a3), (.int a4), (.int ee), (.int vv)] ∧ Z.Warmed39 U.vm ∧ U.heap = h0) (fun _ _ _ _ _ => True) (fun _ U o U' => ∃ v L, o = .returned v ∧ Q0 Z a1 a2 a3 a4 ee vv h0 n0 v U'.heap L ∧ FrameEnd U o U' L room_1.cells room_1.slots) := by
  refine MetFree.of_bodySF (plainFor_of_name pn_1) hisR ?_
  intro p e s m args below meth c s₁ Bd hml0 hP hK
  obtain ⟨rfl, hZ, hh⟩ := hP
  have hx := Bd.exec
  have hby := Bd.bytes
  have hml : c.maxLocals = 24 := hml0
  have hown : s.vm.findClass "com/example/arcspan/arcspan/index/SortedIntsLastAtOrBeforePinLaw" = some m.cls := findClass_of_methodNamed Bd.named
  have hnm := (name_of_methodNamed Bd.named Bd.method).1
  have X0 : Stand p l e room_1 s m #[(.int a1), (.int a2), (.int a3), (.int a4), (.int ee), (.int vv)] below meth c s₁ [] 0 0 := Stand.of_body Bd
  have e0 : s₁.heap = h0 := by rw [← hh, Bd.state]; rfl
  have N0 := Fr.nil n0
  obtain ⟨Ω, hΩ⟩ : ∃ z, z = s₁.setTop (entryFrame m #[(.int a1), (.int a2), (.int a3), (.int a4), (.int ee), (.int vv)] maxLocals) := ⟨_, rfl⟩
  have S0 : Steps p.tables e below Ω (s₁.setTop (mkF m 0 #[.val (.int a1), .val (.int a2), .val (.int a3), .val (.int a4), .val (.int ee), .val (.int vv), .unset, .unset, .unset, .unset, .unset, .unset, .unset, .unset, .unset, .unset, .unset, .unset, .unset, .unset, .unset, .unset, .unset, .unset] [])) := by rw [hΩ]; exact castTop (ef_rm0 m a1 a2 a3 a4 ee vv) (Steps.refl _)
  have S1 : Steps p.tables e below Ω (s₁.setTop (mkF m 2 #[.val (.int a1), .val (.int a2), .val (.int a3), .val (.int a4), .val (.int ee), .val (.int vv), .unset, .unset, .unset, .unset, .unset, .unset, .unset, .unset, .unset, .unset, .unset, .unset, .unset, .unset, .unset, .unset, .unset, .unset] [(.int a2), (.int a1)])) := by
    refine S0.trans ?_
    refine XS.iloadN X0.here hx rfl (hb hby at_0) rfl ?_
    show Steps p.tables e below (s₁.setTop (mkF m 1 #[.val (.int a1), .val (.int a2), .val (.int a3), .val (.int a4), .val (.int ee), .val (.int vv), .unset, .unset, .unset, .unset, .unset, .unset, .unset, .unset, .unset, .unset, .unset, .unset, .unset, .unset, .unset, .unset, .unset, .unset] [(.int a1)])) _
    refine XS.iloadN X0.here hx rfl (hb hby at_1) rfl ?_
    exact Steps.refl _
  obtain ⟨_, _, ⟨T2, L2, k2, n2⟩, -, X2, ⟨Lc2, hQ2, l2, y2, z2⟩, st2⟩ := Jvm.LawKit.callS X0 hx (y := (⟨"java/lang/Math", "min", "(II)I"⟩ : MethodName)) hown (mvT hZ (hw _ (List.mem_of_getElem? (i := 0) rfl))) (mvT hZ (hw _ (List.mem_of_getElem? (i := 1) rfl))) (mvT hZ (hw _ (List.mem_of_getElem? (i := 2) rfl))) (mvT hZ (hw _ (List.mem_of_getElem? (i := 3) rfl))) (by decide) (backOf (W := 0) (rm1 l Z a0 hw [] a1 a2  h0 n0 Z0 ) hZ (hw _ (List.mem_of_getElem? (i := 3) rfl)) (hw _ (List.mem_of_getElem? (i := 2) rfl)) (by decide) (by decide)) (g := (mkF m 2 #[.val (.int a1), .val (.int a2), .val (.int a3), .val (.int a4), .val (.int ee), .val (.int vv), .unset, .unset, .unset, .unset, .unset, .unset, .unset, .unset, .unset, .unset, .unset, .unset, .unset, .unset, .unset, .unset, .unset, .unset] [(.int a2), (.int a1)])) rfl (by rw [hml]; rfl) (argsL := [(.int a1), (.int a2)]) (rest := []) (lenOf pd_0 rfl) rfl (by show 2 * 0 + _ ≤ _; exact Nat.le_of_eq rfl) (hb hby at_2) (fun _ _ => ⟨rfl, e0, (by decide : 0 + 0 ≤ _), (by decide : 0 + 0 ≤ _)⟩)
  dsimp only [Pt.U, Pt.locs, Pt.cells, Pt.slots] at X2 l2 y2 z2 st2 hQ2
  subst l2 y2 z2
  obtain ⟨rfl, N2q, e2⟩ := hQ2
  have N2 := Fr.app N0 N2q
  have S3 : Steps p.tables e below Ω (T2.setTop (mkF m 5 #[.val (.int a1), .val (.int a2), .val (.int a3), .val (.int a4), .val (.int ee), .val (.int vv), .unset, .unset, .unset, .unset, .unset, .unset, .unset, .unset, .unset, .unset, .unset, .unset, .unset, .unset, .unset, .unset, .unset, .unset] [(.int (own_min a1 a2))])) := S1.trans (st2 _ (Steps.refl _))
  obtain ⟨x0, h_x0⟩ : ∃ z : Int32, z = (own_min a1 a2) := ⟨_, rfl⟩
  rw [← h_x0] at S3
  have jx0 := own_minI a1 a2
  rw [← h_x0] at jx0
  have S4 : Steps p.tables e below Ω (T2.setTop (mkF m 9 #[.val (.int a1), .val (.int a2), .val (.int a3), .val (.int a4), .val (.int ee), .val (.int vv), .val (.int x0), .unset, .unset, .unset, .unset, .unset, .unset, .unset, .unset, .unset, .unset, .unset, .unset, .unset, .unset, .unset, .unset, .unset] [(.int a2), (.int a1)])) := by
    refine S3.trans ?_
    refine XS.istore X2.here hx rfl (hb hby at_5) rfl (l' := #[.val (.int a1), .val (.int a2), .val (.int a3), .val (.int a4), .val (.int ee), .val (.int vv), .val (.int x0), .unset, .unset, .unset, .unset, .unset, .unset, .unset, .unset, .unset, .unset, .unset, .unset, .unset, .unset, .unset, .unset, .unset]) rfl ?_
    show Steps p.tables e below (T2.setTop (mkF m 7 #[.val (.int a1), .val (.int a2), .val (.int a3), .val (.int a4), .val (.int ee), .val (.int vv), .val (.int x0), .unset, .unset, .unset, .unset, .unset, .unset, .unset, .unset, .unset, .unset, .unset, .unset, .unset, .unset, .unset, .unset, .unset] [])) _
    refine XS.iloadN X2.here hx rfl (hb hby at_7) rfl ?_
    show Steps p.tables e below (T2.setTop (mkF m 8 #[.val (.int a1), .val (.int a2), .val (.int a3), .val (.int a4), .val (.int ee), .val (.int vv), .val (.int x0), .unset, .unset, .unset, .unset, .unset, .unset, .unset, .unset, .unset, .unset, .unset, .unset, .unset, .unset, .unset, .unset, .unset] [(.int a1)])) _
    refine XS.iloadN X2.here hx rfl (hb hby at_8) rfl ?_
    exact Steps.refl _
  obtain ⟨_, _, ⟨T5, L5, k5, n5⟩, -, X5, ⟨Lc5, hQ5, l5, y5, z5⟩, st5⟩ := Jvm.LawKit.callS X2 hx (y := (⟨"java/lang/Math", "max", "(II)I"⟩ : MethodName)) hown (mvT hZ (hw _ (List.mem_of_getElem? (i := 4) rfl))) (mvT hZ (hw _ (List.mem_of_getElem? (i := 5) rfl))) (mvT hZ (hw _ (List.mem_of_getElem? (i := 2) rfl))) (mvT hZ (hw _ (List.mem_of_getElem? (i := 6) rfl))) (by decide) (backOf (W := 0) (rm2 l Z a0 hw [] a1 a2  h0 n0 Z0 ) hZ (hw _ (List.mem_of_getElem? (i := 6) rfl)) (hw _ (List.mem_of_getElem? (i := 2) rfl)) (by decide) (by decide)) (g := (mkF m 9 #[.val (.int a1), .val (.int a2), .val (.int a3), .val (.int a4), .val (.int ee), .val (.int vv), .val (.int x0), .unset, .unset, .unset, .unset, .unset, .unset, .unset, .unset, .unset, .unset, .unset, .unset, .unset, .unset, .unset, .unset, .unset] [(.int a2), (.int a1)])) rfl (by rw [hml]; rfl) (argsL := [(.int a1), (.int a2)]) (rest := []) (lenOf pd_0 rfl) rfl (by show 2 * 0 + _ ≤ _; exact Nat.le_of_eq rfl) (hb hby at_9) (fun _ _ => ⟨rfl, e2, (by decide : 0 + 0 ≤ _), (by decide : 0 + 0 ≤ _)⟩)
  dsimp only [Pt.U, Pt.locs, Pt.cells, Pt.slots] at X5 l5 y5 z5 st5 hQ5
  subst l5 y5 z5
  obtain ⟨rfl, N5q, e5⟩ := hQ5
  have N5 := Fr.app N2 N5q
  have S6 : Steps p.tables e below Ω (T5.setTop (mkF m 12 #[.val (.int a1), .val (.int a2), .val (.int a3), .val (.int a4), .val (.int ee), .val (.int vv), .val (.int x0), .unset, .unset, .unset, .unset, .unset, .unset, .unset, .unset, .unset, .unset, .unset, .unset, .unset, .unset, .unset, .unset, .unset] [(.int (own_max a1 a2))])) := S4.trans (st5 _ (Steps.refl _))
  obtain ⟨x1, h_x1⟩ : ∃ z : Int32, z = (own_max a1 a2) := ⟨_, rfl⟩
  rw [← h_x1] at S6
  have jx1 := own_maxI a1 a2
  rw [← h_x1] at jx1
  have S7 : Steps p.tables e below Ω (T5.setTop (mkF m 16 #[.val (.int a1), .val (.int a2), .val (.int a3), .val (.int a4), .val (.int ee), .val (.int vv), .val (.int x0), .val (.int x1), .unset, .unset, .unset, .unset, .unset, .unset, .unset, .unset, .unset, .unset, .unset, .unset, .unset, .unset, .unset, .unset] [(.int a4), (.int a3)])) := by
    refine S6.trans ?_
    refine XS.istore X5.here hx rfl (hb hby at_12) rfl (l' := #[.val (.int a1), .val (.int a2), .val (.int a3), .val (.int a4), .val (.int ee), .val (.int vv), .val (.int x0), .val (.int x1), .unset, .unset, .unset, .unset, .unset, .unset, .unset, .unset, .unset, .unset, .unset, .unset, .unset, .unset, .unset, .unset]) rfl ?_
    show Steps p.tables e below (T5.setTop (mkF m 14 #[.val (.int a1), .val (.int a2), .val (.int a3), .val (.int a4), .val (.int ee), .val (.int vv), .val (.int x0), .val (.int x1), .unset, .unset, .unset, .unset, .unset, .unset, .unset, .unset, .unset, .unset, .unset, .unset, .unset, .unset, .unset, .unset] [])) _
    refine XS.iloadN X5.here hx rfl (hb hby at_14) rfl ?_
    show Steps p.tables e below (T5.setTop (mkF m 15 #[.val (.int a1), .val (.int a2), .val (.int a3), .val (.int a4), .val (.int ee), .val (.int vv), .val (.int x0), .val (.int x1), .unset, .unset, .unset, .unset, .unset, .unset, .unset, .unset, .unset, .unset, .unset, .unset, .unset, .unset, .unset, .unset] [(.int a3)])) _
    refine XS.iloadN X5.here hx rfl (hb hby at_15) rfl ?_
    exact Steps.refl _
  obtain ⟨_, _, ⟨T8, L8, k8, n8⟩, -, X8, ⟨Lc8, hQ8, l8, y8, z8⟩, st8⟩ := Jvm.LawKit.callS X5 hx (y := (⟨"java/lang/Math", "min", "(II)I"⟩ : MethodName)) hown (mvT hZ (hw _ (List.mem_of_getElem? (i := 0) rfl))) (mvT hZ (hw _ (List.mem_of_getElem? (i := 1) rfl))) (mvT hZ (hw _ (List.mem_of_getElem? (i := 2) rfl))) (mvT hZ (hw _ (List.mem_of_getElem? (i := 3) rfl))) (by decide) (backOf (W := 0) (rm1 l Z a0 hw [] a3 a4  h0 n0 Z0 ) hZ (hw _ (List.mem_of_getElem? (i := 3) rfl)) (hw _ (List.mem_of_getElem? (i := 2) rfl)) (by decide) (by decide)) (g := (mkF m 16 #[.val (.int a1), .val (.int a2), .val (.int a3), .val (.int a4), .val (.int ee), .val (.int vv), .val (.int x0), .val (.int x1), .unset, .unset, .unset, .unset, .unset, .unset, .unset, .unset, .unset, .unset, .unset, .unset, .unset, .unset, .unset, .unset] [(.int a4), (.int a3)])) rfl (by rw [hml]; rfl) (argsL := [(.int a3), (.int a4)]) (rest := []) (lenOf pd_0 rfl) rfl (by show 2 * 0 + _ ≤ _; exact Nat.le_of_eq rfl) (hb hby at_16) (fun _ _ => ⟨rfl, e5, (by decide : 0 + 0 ≤ _), (by decide : 0 + 0 ≤ _)⟩)
  dsimp only [Pt.U, Pt.locs, Pt.cells, Pt.slots] at X8 l8 y8 z8 st8 hQ8
  subst l8 y8 z8
  obtain ⟨rfl, N8q, e8⟩ := hQ8
  have N8 := Fr.app N5 N8q
  have S9 : Steps p.tables e below Ω (T8.setTop (mkF m 19 #[.val (.int a1), .val (.int a2), .val (.int a3), .val (.int a4), .val (.int ee), .val (.int vv), .val (.int x0), .val (.int x1), .unset, .unset, .unset, .unset, .unset, .unset, .unset, .unset, .unset, .unset, .unset, .unset, .unset, .unset, .unset, .unset] [(.int (own_min a3 a4))])) := S7.trans (st8 _ (Steps.refl _))
  obtain ⟨x2, h_x2⟩ : ∃ z : Int32, z = (own_min a3 a4) := ⟨_, rfl⟩
  rw [← h_x2] at S9
  have jx2 := own_minI a3 a4
  rw [← h_x2] at jx2
  have S10 : Steps p.tables e below Ω (T8.setTop (mkF m 23 #[.val (.int a1), .val (.int a2), .val (.int a3), .val (.int a4), .val (.int ee), .val (.int vv), .val (.int x0), .val (.int x1), .val (.int x2), .unset, .unset, .unset, .unset, .unset, .unset, .unset, .unset, .unset, .unset, .unset, .unset, .unset, .unset, .unset] [(.int a4), (.int a3)])) := by
    refine S9.trans ?_
    refine XS.istore X8.here hx rfl (hb hby at_19) rfl (l' := #[.val (.int a1), .val (.int a2), .val (.int a3), .val (.int a4), .val (.int ee), .val (.int vv), .val (.int x0), .val (.int x1), .val (.int x2), .unset, .unset, .unset, .unset, .unset, .unset, .unset, .unset, .unset, .unset, .unset, .unset, .unset, .unset, .unset]) rfl ?_
    show Steps p.tables e below (T8.setTop (mkF m 21 #[.val (.int a1), .val (.int a2), .val (.int a3), .val (.int a4), .val (.int ee), .val (.int vv), .val (.int x0), .val (.int x1), .val (.int x2), .unset, .unset, .unset, .unset, .unset, .unset, .unset, .unset, .unset, .unset, .unset, .unset, .unset, .unset, .unset] [])) _
    refine XS.iloadN X8.here hx rfl (hb hby at_21) rfl ?_
    show Steps p.tables e below (T8.setTop (mkF m 22 #[.val (.int a1), .val (.int a2), .val (.int a3), .val (.int a4), .val (.int ee), .val (.int vv), .val (.int x0), .val (.int x1), .val (.int x2), .unset, .unset, .unset, .unset, .unset, .unset, .unset, .unset, .unset, .unset, .unset, .unset, .unset, .unset, .unset] [(.int a3)])) _
    refine XS.iloadN X8.here hx rfl (hb hby at_22) rfl ?_
    exact Steps.refl _
  obtain ⟨_, _, ⟨T11, L11, k11, n11⟩, -, X11, ⟨Lc11, hQ11, l11, y11, z11⟩, st11⟩ := Jvm.LawKit.callS X8 hx (y := (⟨"java/lang/Math", "max", "(II)I"⟩ : MethodName)) hown (mvT hZ (hw _ (List.mem_of_getElem? (i := 4) rfl))) (mvT hZ (hw _ (List.mem_of_getElem? (i := 5) rfl))) (mvT hZ (hw _ (List.mem_of_getElem? (i := 2) rfl))) (mvT hZ (hw _ (List.mem_of_getElem? (i := 6) rfl))) (by decide) (backOf (W := 0) (rm2 l Z a0 hw [] a3 a4  h0 n0 Z0 ) hZ (hw _ (List.mem_of_getElem? (i := 6) rfl)) (hw _ (List.mem_of_getElem? (i := 2) rfl)) (by decide) (by decide)) (g := (mkF m 23 #[.val (.int a1), .val (.int a2), .val (.int a3), .val (.int a4), .val (.int ee), .val (.int vv), .val (.int x0), .val (.int x1), .val (.int x2), .unset, .unset, .unset, .unset, .unset, .unset, .unset, .unset, .unset, .unset, .unset, .unset, .unset, .unset, .unset] [(.int a4), (.int a3)])) rfl (by rw [hml]; rfl) (argsL := [(.int a3), (.int a4)]) (rest := []) (lenOf pd_0 rfl) rfl (by show 2 * 0 + _ ≤ _; exact Nat.le_of_eq rfl) (hb hby at_23) (fun _ _ => ⟨rfl, e8, (by decide : 0 + 0 ≤ _), (by decide : 0 + 0 ≤ _)⟩)
  dsimp only [Pt.U, Pt.locs, Pt.cells, Pt.slots] at X11 l11 y11 z11 st11 hQ11
  subst l11 y11 z11
  obtain ⟨rfl, N11q, e11⟩ := hQ11
  have N11 := Fr.app N8 N11q
  have S12 : Steps p.tables e below Ω (T11.setTop (mkF m 26 #[.val (.int a1), .val (.int a2), .val (.int a3), .val (.int a4), .val (.int ee), .val (.int vv), .val (.int x0), .val (.int x1), .val (.int x2), .unset, .unset, .unset, .unset, .unset, .unset, .unset, .unset, .unset, .unset, .unset, .unset, .unset, .unset, .unset] [(.int (own_max a3 a4))])) := S10.trans (st11 _ (Steps.refl _))
  obtain ⟨x3, h_x3⟩ : ∃ z : Int32, z = (own_max a3 a4) := ⟨_, rfl⟩
  rw [← h_x3] at S12
  have jx3 := own_maxI a3 a4
  rw [← h_x3] at jx3
  have S13 : Steps p.tables e below Ω (T11.setTop (mkF m 32 #[.val (.int a1), .val (.int a2), .val (.int a3), .val (.int a4), .val (.int ee), .val (.int vv), .val (.int x0), .val (.int x1), .val (.int x2), .val (.int x3), .unset, .unset, .unset, .unset, .unset, .unset, .unset, .unset, .unset, .unset, .unset, .unset, .unset, .unset] [(.int x2), (.int x0)])) := by
    refine S12.trans ?_
    refine XS.istore X11.here hx rfl (hb hby at_26) rfl (l' := #[.val (.int a1), .val (.int a2), .val (.int a3), .val (.int a4), .val (.int ee), .val (.int vv), .val (.int x0), .val (.int x1), .val (.int x2), .val (.int x3), .unset, .unset, .unset, .unset, .unset, .unset, .unset, .unset, .unset, .unset, .unset, .unset, .unset, .unset]) rfl ?_
    show Steps p.tables e below (T11.setTop (mkF m 28 #[.val (.int a1), .val (.int a2), .val (.int a3), .val (.int a4), .val (.int ee), .val (.int vv), .val (.int x0), .val (.int x1), .val (.int x2), .val (.int x3), .unset, .unset, .unset, .unset, .unset, .unset, .unset, .unset, .unset, .unset, .unset, .unset, .unset, .unset] [])) _
    refine XS.iload X11.here hx rfl (hb hby at_28) rfl ?_
    show Steps p.tables e below (T11.setTop (mkF m 30 #[.val (.int a1), .val (.int a2), .val (.int a3), .val (.int a4), .val (.int ee), .val (.int vv), .val (.int x0), .val (.int x1), .val (.int x2), .val (.int x3), .unset, .unset, .unset, .unset, .unset, .unset, .unset, .unset, .unset, .unset, .unset, .unset, .unset, .unset] [(.int x0)])) _
    refine XS.iload X11.here hx rfl (hb hby at_30) rfl ?_
    exact Steps.refl _
  obtain ⟨_, _, ⟨T14, L14, k14, n14⟩, -, X14, ⟨Lc14, hQ14, l14, y14, z14⟩, st14⟩ := Jvm.LawKit.callS X11 hx (y := (⟨"java/lang/Math", "min", "(II)I"⟩ : MethodName)) hown (mvT hZ (hw _ (List.mem_of_getElem? (i := 0) rfl))) (mvT hZ (hw _ (List.mem_of_getElem? (i := 1) rfl))) (mvT hZ (hw _ (List.mem_of_getElem? (i := 2) rfl))) (mvT hZ (hw _ (List.mem_of_getElem? (i := 3) rfl))) (by decide) (backOf (W := 0) (rm1 l Z a0 hw [] x0 x2  h0 n0 Z0 ) hZ (hw _ (List.mem_of_getElem? (i := 3) rfl)) (hw _ (List.mem_of_getElem? (i := 2) rfl)) (by decide) (by decide)) (g := (mkF m 32 #[.val (.int a1), .val (.int a2), .val (.int a3), .val (.int a4), .val (.int ee), .val (.int vv), .val (.int x0), .val (.int x1), .val (.int x2), .val (.int x3), .unset, .unset, .unset, .unset, .unset, .unset, .unset, .unset, .unset, .unset, .unset, .unset, .unset, .unset] [(.int x2), (.int x0)])) rfl (by rw [hml]; rfl) (argsL := [(.int x0), (.int x2)]) (rest := []) (lenOf pd_0 rfl) rfl (by show 2 * 0 + _ ≤ _; exact Nat.le_of_eq rfl) (hb hby at_32) (fun _ _ => ⟨rfl, e11, (by decide : 0 + 0 ≤ _), (by decide : 0 + 0 ≤ _)⟩)
  dsimp only [Pt.U, Pt.locs, Pt.cells, Pt.slots] at X14 l14 y14 z14 st14 hQ14
  subst l14 y14 z14
  obtain ⟨rfl, N14q, e14⟩ := hQ14
  have N14 := Fr.app N11 N14q
  have S15 : Steps p.tables e below Ω (T14.setTop (mkF m 35 #[.val (.int a1), .val (.int a2), .val (.int a3), .val (.int a4), .val (.int ee), .val (.int vv), .val (.int x0), .val (.int x1), .val (.int x2), .val (.int x3), .unset, .unset, .unset, .unset, .unset, .unset, .unset, .unset, .unset, .unset, .unset, .unset, .unset, .unset] [(.int (own_min x0 x2))])) := S13.trans (st14 _ (Steps.refl _))
  obtain ⟨y0, h_y0⟩ : ∃ z : Int32, z = (own_min x0 x2) := ⟨_, rfl⟩
  rw [← h_y0] at S15
  have jy0 := own_minI x0 x2
  rw [← h_y0] at jy0
  have S16 : Steps p.tables e below Ω (T14.setTop (mkF m 41 #[.val (.int a1), .val (.int a2), .val (.int a3), .val (.int a4), .val (.int ee), .val (.int vv), .val (.int x0), .val (.int x1), .val (.int x2), .val (.int x3), .val (.int y0), .unset, .unset, .unset, .unset, .unset, .unset, .unset, .unset, .unset, .unset, .unset, .unset, .unset] [(.int x2), (.int x0)])) := by
    refine S15.trans ?_
    refine XS.istore X14.here hx rfl (hb hby at_35) rfl (l' := #[.val (.int a1), .val (.int a2), .val (.int a3), .val (.int a4), .val (.int ee), .val (.int vv), .val (.int x0), .val (.int x1), .val (.int x2), .val (.int x3), .val (.int y0), .unset, .unset, .unset, .unset, .unset, .unset, .unset, .unset, .unset, .unset, .unset, .unset, .unset]) rfl ?_
    show Steps p.tables e below (T14.setTop (mkF m 37 #[.val (.int a1), .val (.int a2), .val (.int a3), .val (.int a4), .val (.int ee), .val (.int vv), .val (.int x0), .val (.int x1), .val (.int x2), .val (.int x3), .val (.int y0), .unset, .unset, .unset, .unset, .unset, .unset, .unset, .unset, .unset, .unset, .unset, .unset, .unset] [])) _
    refine XS.iload X14.here hx rfl (hb hby at_37) rfl ?_
    show Steps p.tables e below (T14.setTop (mkF m 39 #[.val (.int a1), .val (.int a2), .val (.int a3), .val (.int a4), .val (.int ee), .val (.int vv), .val (.int x0), .val (.int x1), .val (.int x2), .val (.int x3), .val (.int y0), .unset, .unset, .unset, .unset, .unset, .unset, .unset, .unset, .unset, .unset, .unset, .unset, .unset] [(.int x0)])) _
    refine XS.iload X14.here hx rfl (hb hby at_39) rfl ?_
    exact Steps.refl _
  obtain ⟨_, _, ⟨T17, L17, k17, n17⟩, -, X17, ⟨Lc17, hQ17, l17, y17, z17⟩, st17⟩ := Jvm.LawKit.callS X14 hx (y := (⟨"java/lang/Math", "max", "(II)I"⟩ : MethodName)) hown (mvT hZ (hw _ (List.mem_of_getElem? (i := 4) rfl))) (mvT hZ (hw _ (List.mem_of_getElem? (i := 5) rfl))) (mvT hZ (hw _ (List.mem_of_getElem? (i := 2) rfl))) (mvT hZ (hw _ (List.mem_of_getElem? (i := 6) rfl))) (by decide) (backOf (W := 0) (rm2 l Z a0 hw [] x0 x2  h0 n0 Z0 ) hZ (hw _ (List.mem_of_getElem? (i := 6) rfl)) (hw _ (List.mem_of_getElem? (i := 2) rfl)) (by decide) (by decide)) (g := (mkF m 41 #[.val (.int a1), .val (.int a2), .val (.int a3), .val (.int a4), .val (.int ee), .val (.int vv), .val (.int x0), .val (.int x1), .val (.int x2), .val (.int x3), .val (.int y0), .unset, .unset, .unset, .unset, .unset, .unset, .unset, .unset, .unset, .unset, .unset, .unset, .unset] [(.int x2), (.int x0)])) rfl (by rw [hml]; rfl) (argsL := [(.int x0), (.int x2)]) (rest := []) (lenOf pd_0 rfl) rfl (by show 2 * 0 + _ ≤ _; exact Nat.le_of_eq rfl) (hb hby at_41) (fun _ _ => ⟨rfl, e14, (by decide : 0 + 0 ≤ _), (by decide : 0 + 0 ≤ _)⟩)
  dsimp only [Pt.U, Pt.locs, Pt.cells, Pt.slots] at X17 l17 y17 z17 st17 hQ17
  subst l17 y17 z17
  obtain ⟨rfl, N17q, e17⟩ := hQ17
  have N17 := Fr.app N14 N17q
  have S18 : Steps p.tables e below Ω (T17.setTop (mkF m 44 #[.val (.int a1), .val (.int a2), .val (.int a3), .val (.int a4), .val (.int ee), .val (.int vv), .val (.int x0), .val (.int x1), .val (.int x2), .val (.int x3), .val (.int y0), .unset, .unset, .unset, .unset, .unset, .unset, .unset, .unset, .unset, .unset, .unset, .unset, .unset] [(.int (own_max x0 x2))])) := S16.trans (st17 _ (Steps.refl _))
  obtain ⟨y2, h_y2⟩ : ∃ z : Int32, z = (own_max x0 x2) := ⟨_, rfl⟩
  rw [← h_y2] at S18
  have jy2 := own_maxI x0 x2
  rw [← h_y2] at jy2
  have S19 : Steps p.tables e below Ω (T17.setTop (mkF m 50 #[.val (.int a1), .val (.int a2), .val (.int a3), .val (.int a4), .val (.int ee), .val (.int vv), .val (.int x0), .val (.int x1), .val (.int x2), .val (.int x3), .val (.int y0), .val (.int y2), .unset, .unset, .unset, .unset, .unset, .unset, .unset, .unset, .unset, .unset, .unset, .unset] [(.int x3), (.int x1)])) := by
    refine S18.trans ?_
    refine XS.istore X17.here hx rfl (hb hby at_44) rfl (l' := #[.val (.int a1), .val (.int a2), .val (.int a3), .val (.int a4), .val (.int ee), .val (.int vv), .val (.int x0), .val (.int x1), .val (.int x2), .val (.int x3), .val (.int y0), .val (.int y2), .unset, .unset, .unset, .unset, .unset, .unset, .unset, .unset, .unset, .unset, .unset, .unset]) rfl ?_
    show Steps p.tables e below (T17.setTop (mkF m 46 #[.val (.int a1), .val (.int a2), .val (.int a3), .val (.int a4), .val (.int ee), .val (.int vv), .val (.int x0), .val (.int x1), .val (.int x2), .val (.int x3), .val (.int y0), .val (.int y2), .unset, .unset, .unset, .unset, .unset, .unset, .unset, .unset, .unset, .unset, .unset, .unset] [])) _
    refine XS.iload X17.here hx rfl (hb hby at_46) rfl ?_
    show Steps p.tables e below (T17.setTop (mkF m 48 #[.val (.int a1), .val (.int a2), .val (.int a3), .val (.int a4), .val (.int ee), .val (.int vv), .val (.int x0), .val (.int x1), .val (.int x2), .val (.int x3), .val (.int y0), .val (.int y2), .unset, .unset, .unset, .unset, .unset, .unset, .unset, .unset, .unset, .unset, .unset, .unset] [(.int x1)])) _
    refine XS.iload X17.here hx rfl (hb hby at_48) rfl ?_
    exact Steps.refl _
  obtain ⟨_, _, ⟨T20, L20, k20, n20⟩, -, X20, ⟨Lc20, hQ20, l20, y20, z20⟩, st20⟩ := Jvm.LawKit.callS X17 hx (y := (⟨"java/lang/Math", "min", "(II)I"⟩ : MethodName)) hown (mvT hZ (hw _ (List.mem_of_getElem? (i := 0) rfl))) (mvT hZ (hw _ (List.mem_of_getElem? (i := 1) rfl))) (mvT hZ (hw _ (List.mem_of_getElem? (i := 2) rfl))) (mvT hZ (hw _ (List.mem_of_getElem? (i := 3) rfl))) (by decide) (backOf (W := 0) (rm1 l Z a0 hw [] x1 x3  h0 n0 Z0 ) hZ (hw _ (List.mem_of_getElem? (i := 3) rfl)) (hw _ (List.mem_of_getElem? (i := 2) rfl)) (by decide) (by decide)) (g := (mkF m 50 #[.val (.int a1), .val (.int a2), .val (.int a3), .val (.int a4), .val (.int ee), .val (.int vv), .val (.int x0), .val (.int x1), .val (.int x2), .val (.int x3), .val (.int y0), .val (.int y2), .unset, .unset, .unset, .unset, .unset, .unset, .unset, .unset, .unset, .unset, .unset, .unset] [(.int x3), (.int x1)])) rfl (by rw [hml]; rfl) (argsL := [(.int x1), (.int x3)]) (rest := []) (lenOf pd_0 rfl) rfl (by show 2 * 0 + _ ≤ _; exact Nat.le_of_eq rfl) (hb hby at_50) (fun _ _ => ⟨rfl, e17, (by decide : 0 + 0 ≤ _), (by decide : 0 + 0 ≤ _)⟩)
  dsimp only [Pt.U, Pt.locs, Pt.cells, Pt.slots] at X20 l20 y20 z20 st20 hQ20
  subst l20 y20 z20
  obtain ⟨rfl, N20q, e20⟩ := hQ20
  have N20 := Fr.app N17 N20q
  have S21 : Steps p.tables e below Ω (T20.setTop (mkF m 53 #[.val (.int a1), .val (.int a2), .val (.int a3), .val (.int a4), .val (.int ee), .val (.int vv), .val (.int x0), .val (.int x1), .val (.int x2), .val (.int x3), .val (.int y0), .val (.int y2), .unset, .unset, .unset, .unset, .unset, .unset, .unset, .unset, .unset, .unset, .unset, .unset] [(.int (own_min x1 x3))])) := S19.trans (st20 _ (Steps.refl _))
  obtain ⟨y1, h_y1⟩ : ∃ z : Int32, z = (own_min x1 x3) := ⟨_, rfl⟩
  rw [← h_y1] at S21
  have jy1 := own_minI x1 x3
  rw [← h_y1] at jy1
  have S22 : Steps p.tables e below Ω (T20.setTop (mkF m 59 #[.val (.int a1), .val (.int a2), .val (.int a3), .val (.int a4), .val (.int ee), .val (.int vv), .val (.int x0), .val (.int x1), .val (.int x2), .val (.int x3), .val (.int y0), .val (.int y2), .val (.int y1), .unset, .unset, .unset, .unset, .unset, .unset, .unset, .unset, .unset, .unset, .unset] [(.int x3), (.int x1)])) := by
    refine S21.trans ?_
    refine XS.istore X20.here hx rfl (hb hby at_53) rfl (l' := #[.val (.int a1), .val (.int a2), .val (.int a3), .val (.int a4), .val (.int ee), .val (.int vv), .val (.int x0), .val (.int x1), .val (.int x2), .val (.int x3), .val (.int y0), .val (.int y2), .val (.int y1), .unset, .unset, .unset, .unset, .unset, .unset, .unset, .unset, .unset, .unset, .unset]) rfl ?_
    show Steps p.tables e below (T20.setTop (mkF m 55 #[.val (.int a1), .val (.int a2), .val (.int a3), .val (.int a4), .val (.int ee), .val (.int vv), .val (.int x0), .val (.int x1), .val (.int x2), .val (.int x3), .val (.int y0), .val (.int y2), .val (.int y1), .unset, .unset, .unset, .unset, .unset, .unset, .unset, .unset, .unset, .unset, .unset] [])) _
    refine XS.iload X20.here hx rfl (hb hby at_55) rfl ?_
    show Steps p.tables e below (T20.setTop (mkF m 57 #[.val (.int a1), .val (.int a2), .val (.int a3), .val (.int a4), .val (.int ee), .val (.int vv), .val (.int x0), .val (.int x1), .val (.int x2), .val (.int x3), .val (.int y0), .val (.int y2), .val (.int y1), .unset, .unset, .unset, .unset, .unset, .unset, .unset, .unset, .unset, .unset, .unset] [(.int x1)])) _
    refine XS.iload X20.here hx rfl (hb hby at_57) rfl ?_
    exact Steps.refl _
  obtain ⟨_, _, ⟨T23, L23, k23, n23⟩, -, X23, ⟨Lc23, hQ23, l23, y23, z23⟩, st23⟩ := Jvm.LawKit.callS X20 hx (y := (⟨"java/lang/Math", "max", "(II)I"⟩ : MethodName)) hown (mvT hZ (hw _ (List.mem_of_getElem? (i := 4) rfl))) (mvT hZ (hw _ (List.mem_of_getElem? (i := 5) rfl))) (mvT hZ (hw _ (List.mem_of_getElem? (i := 2) rfl))) (mvT hZ (hw _ (List.mem_of_getElem? (i := 6) rfl))) (by decide) (backOf (W := 0) (rm2 l Z a0 hw [] x1 x3  h0 n0 Z0 ) hZ (hw _ (List.mem_of_getElem? (i := 6) rfl)) (hw _ (List.mem_of_getElem? (i := 2) rfl)) (by decide) (by decide)) (g := (mkF m 59 #[.val (.int a1), .val (.int a2), .val (.int a3), .val (.int a4), .val (.int ee), .val (.int vv), .val (.int x0), .val (.int x1), .val (.int x2), .val (.int x3), .val (.int y0), .val (.int y2), .val (.int y1), .unset, .unset, .unset, .unset, .unset, .unset, .unset, .unset, .unset, .unset, .unset] [(.int x3), (.int x1)])) rfl (by rw [hml]; rfl) (argsL := [(.int x1), (.int x3)]) (rest := []) (lenOf pd_0 rfl) rfl (by show 2 * 0 + _ ≤ _; exact Nat.le_of_eq rfl) (hb hby at_59) (fun _ _ => ⟨rfl, e20, (by decide : 0 + 0 ≤ _), (by decide : 0 + 0 ≤ _)⟩)
  dsimp only [Pt.U, Pt.locs, Pt.cells, Pt.slots] at X23 l23 y23 z23 st23 hQ23
  subst l23 y23 z23
  obtain ⟨rfl, N23q, e23⟩ := hQ23
  have N23 := Fr.app N20 N23q
  have S24 : Steps p.tables e below Ω (T23.setTop (mkF m 62 #[.val (.int a1), .val (.int a2), .val (.int a3), .val (.int a4), .val (.int ee), .val (.int vv), .val (.int x0), .val (.int x1), .val (.int x2), .val (.int x3), .val (.int y0), .val (.int y2), .val (.int y1), .unset, .unset, .unset, .unset, .unset, .unset, .unset, .unset, .unset, .unset, .unset] [(.int (own_max x1 x3))])) := S22.trans (st23 _ (Steps.refl _))
  obtain ⟨y3, h_y3⟩ : ∃ z : Int32, z = (own_max x1 x3) := ⟨_, rfl⟩
  rw [← h_y3] at S24
  have jy3 := own_maxI x1 x3
  rw [← h_y3] at jy3
  have S25 : Steps p.tables e below Ω (T23.setTop (mkF m 72 #[.val (.int a1), .val (.int a2), .val (.int a3), .val (.int a4), .val (.int ee), .val (.int vv), .val (.int x0), .val (.int x1), .val (.int x2), .val (.int x3), .val (.int y0), .val (.int y2), .val (.int y1), .val (.int y3), .val (.int y0), .unset, .unset, .unset, .unset, .unset, .unset, .unset, .unset, .unset] [(.int y2), (.int y1)])) := by
    refine S24.trans ?_
    refine XS.istore X23.here hx rfl (hb hby at_62) rfl (l' := #[.val (.int a1), .val (.int a2), .val (.int a3), .val (.int a4), .val (.int ee), .val (.int vv), .val (.int x0), .val (.int x1), .val (.int x2), .val (.int x3), .val (.int y0), .val (.int y2), .val (.int y1), .val (.int y3), .unset, .unset, .unset, .unset, .unset, .unset, .unset, .unset, .unset, .unset]) rfl ?_
    show Steps p.tables e below (T23.setTop (mkF m 64 #[.val (.int a1), .val (.int a2), .val (.int a3), .val (.int a4), .val (.int ee), .val (.int vv), .val (.int x0), .val (.int x1), .val (.int x2), .val (.int x3), .val (.int y0), .val (.int y2), .val (.int y1), .val (.int y3), .unset, .unset, .unset, .unset, .unset, .unset, .unset, .unset, .unset, .unset] [])) _
    refine XS.iload X23.here hx rfl (hb hby at_64) rfl ?_
    show Steps p.tables e below (T23.setTop (mkF m 66 #[.val (.int a1), .val (.int a2), .val (.int a3), .val (.int a4), .val (.int ee), .val (.int vv), .val (.int x0), .val (.int x1), .val (.int x2), .val (.int x3), .val (.int y0), .val (.int y2), .val (.int y1), .val (.int y3), .unset, .unset, .unset, .unset, .unset, .unset, .unset, .unset, .unset, .unset] [(.int y0)])) _
    refine XS.istore X23.here hx rfl (hb hby at_66) rfl (l' := #[.val (.int a1), .val (.int a2), .val (.int a3), .val (.int a4), .val (.int ee), .val (.int vv), .val (.int x0), .val (.int x1), .val (.int x2), .val (.int x3), .val (.int y0), .val (.int y2), .val (.int y1), .val (.int y3), .val (.int y0), .unset, .unset, .unset, .unset, .unset, .unset, .unset, .unset, .unset]) rfl ?_
    show Steps p.tables e below (T23.setTop (mkF m 68 #[.val (.int a1), .val (.int a2), .val (.int a3), .val (.int a4), .val (.int ee), .val (.int vv), .val (.int x0), .val (.int x1), .val (.int x2), .val (.int x3), .val (.int y0), .val (.int y2), .val (.int y1), .val (.int y3), .val (.int y0), .unset, .unset, .unset, .unset, .unset, .unset, .unset, .unset, .unset] [])) _
    refine XS.iload X23.here hx rfl (hb hby at_68) rfl ?_
    show Steps p.tables e below (T23.setTop (mkF m 70 #[.val (.int a1), .val (.int a2), .val (.int a3), .val (.int a4), .val (.int ee), .val (.int vv), .val (.int x0), .val (.int x1), .val (.int x2), .val (.int x3), .val (.int y0), .val (.int y2), .val (.int y1), .val (.int y3), .val (.int y0), .unset, .unset, .unset, .unset, .unset, .unset, .unset, .unset, .unset] [(.int y1)])) _
    refine XS.iload X23.here hx rfl (hb hby at_70) rfl ?_
    exact Steps.refl _
  obtain ⟨_, _, ⟨T26, L26, k26, n26⟩, -, X26, ⟨Lc26, hQ26, l26, y26, z26⟩, st26⟩ := Jvm.LawKit.callS X23 hx (y := (⟨"java/lang/Math", "min", "(II)I"⟩ : MethodName)) hown (mvT hZ (hw _ (List.mem_of_getElem? (i := 0) rfl))) (mvT hZ (hw _ (List.mem_of_getElem? (i := 1) rfl))) (mvT hZ (hw _ (List.mem_of_getElem? (i := 2) rfl))) (mvT hZ (hw _ (List.mem_of_getElem? (i := 3) rfl))) (by decide) (backOf (W := 0) (rm1 l Z a0 hw [] y1 y2  h0 n0 Z0 ) hZ (hw _ (List.mem_of_getElem? (i := 3) rfl)) (hw _ (List.mem_of_getElem? (i := 2) rfl)) (by decide) (by decide)) (g := (mkF m 72 #[.val (.int a1), .val (.int a2), .val (.int a3), .val (.int a4), .val (.int ee), .val (.int vv), .val (.int x0), .val (.int x1), .val (.int x2), .val (.int x3), .val (.int y0), .val (.int y2), .val (.int y1), .val (.int y3), .val (.int y0), .unset, .unset, .unset, .unset, .unset, .unset, .unset, .unset, .unset] [(.int y2), (.int y1)])) rfl (by rw [hml]; rfl) (argsL := [(.int y1), (.int y2)]) (rest := []) (lenOf pd_0 rfl) rfl (by show 2 * 0 + _ ≤ _; exact Nat.le_of_eq rfl) (hb hby at_72) (fun _ _ => ⟨rfl, e23, (by decide : 0 + 0 ≤ _), (by decide : 0 + 0 ≤ _)⟩)
  dsimp only [Pt.U, Pt.locs, Pt.cells, Pt.slots] at X26 l26 y26 z26 st26 hQ26
  subst l26 y26 z26
  obtain ⟨rfl, N26q, e26⟩ := hQ26
  have N26 := Fr.app N23 N26q
  have S27 : Steps p.tables e below Ω (T26.setTop (mkF m 75 #[.val (.int a1), .val (.int a2), .val (.int a3), .val (.int a4), .val (.int ee), .val (.int vv), .val (.int x0), .val (.int x1), .val (.int x2), .val (.int x3), .val (.int y0), .val (.int y2), .val (.int y1), .val (.int y3), .val (.int y0), .unset, .unset, .unset, .unset, .unset, .unset, .unset, .unset, .unset] [(.int (own_min y1 y2))])) := S25.trans (st26 _ (Steps.refl _))
  obtain ⟨s1, h_s1⟩ : ∃ z : Int32, z = (own_min y1 y2) := ⟨_, rfl⟩
  rw [← h_s1] at S27
  have js1 := own_minI y1 y2
  rw [← h_s1] at js1
  have S28 : Steps p.tables e below Ω (T26.setTop (mkF m 81 #[.val (.int a1), .val (.int a2), .val (.int a3), .val (.int a4), .val (.int ee), .val (.int vv), .val (.int x0), .val (.int x1), .val (.int x2), .val (.int x3), .val (.int y0), .val (.int y2), .val (.int y1), .val (.int y3), .val (.int y0), .val (.int s1), .unset, .unset, .unset, .unset, .unset, .unset, .unset, .unset] [(.int y2), (.int y1)])) := by
    refine S27.trans ?_
    refine XS.istore X26.here hx rfl (hb hby at_75) rfl (l' := #[.val (.int a1), .val (.int a2), .val (.int a3), .val (.int a4), .val (.int ee), .val (.int vv), .val (.int x0), .val (.int x1), .val (.int x2), .val (.int x3), .val (.int y0), .val (.int y2), .val (.int y1), .val (.int y3), .val (.int y0), .val (.int s1), .unset, .unset, .unset, .unset, .unset, .unset, .unset, .unset]) rfl ?_
    show Steps p.tables e below (T26.setTop (mkF m 77 #[.val (.int a1), .val (.int a2), .val (.int a3), .val (.int a4), .val (.int ee), .val (.int vv), .val (.int x0), .val (.int x1), .val (.int x2), .val (.int x3), .val (.int y0), .val (.int y2), .val (.int y1), .val (.int y3), .val (.int y0), .val (.int s1), .unset, .unset, .unset, .unset, .unset, .unset, .unset, .unset] [])) _
    refine XS.iload X26.here hx rfl (hb hby at_77) rfl ?_
    show Steps p.tables e below (T26.setTop (mkF m 79 #[.val (.int a1), .val (.int a2), .val (.int a3), .val (.int a4), .val (.int ee), .val (.int vv), .val (.int x0), .val (.int x1), .val (.int x2), .val (.int x3), .val (.int y0), .val (.int y2), .val (.int y1), .val (.int y3), .val (.int y0), .val (.int s1), .unset, .unset, .unset, .unset, .unset, .unset, .unset, .unset] [(.int y1)])) _
    refine XS.iload X26.here hx rfl (hb hby at_79) rfl ?_
    exact Steps.refl _
  obtain ⟨_, _, ⟨T29, L29, k29, n29⟩, -, X29, ⟨Lc29, hQ29, l29, y29, z29⟩, st29⟩ := Jvm.LawKit.callS X26 hx (y := (⟨"java/lang/Math", "max", "(II)I"⟩ : MethodName)) hown (mvT hZ (hw _ (List.mem_of_getElem? (i := 4) rfl))) (mvT hZ (hw _ (List.mem_of_getElem? (i := 5) rfl))) (mvT hZ (hw _ (List.mem_of_getElem? (i := 2) rfl))) (mvT hZ (hw _ (List.mem_of_getElem? (i := 6) rfl))) (by decide) (backOf (W := 0) (rm2 l Z a0 hw [] y1 y2  h0 n0 Z0 ) hZ (hw _ (List.mem_of_getElem? (i := 6) rfl)) (hw _ (List.mem_of_getElem? (i := 2) rfl)) (by decide) (by decide)) (g := (mkF m 81 #[.val (.int a1), .val (.int a2), .val (.int a3), .val (.int a4), .val (.int ee), .val (.int vv), .val (.int x0), .val (.int x1), .val (.int x2), .val (.int x3), .val (.int y0), .val (.int y2), .val (.int y1), .val (.int y3), .val (.int y0), .val (.int s1), .unset, .unset, .unset, .unset, .unset, .unset, .unset, .unset] [(.int y2), (.int y1)])) rfl (by rw [hml]; rfl) (argsL := [(.int y1), (.int y2)]) (rest := []) (lenOf pd_0 rfl) rfl (by show 2 * 0 + _ ≤ _; exact Nat.le_of_eq rfl) (hb hby at_81) (fun _ _ => ⟨rfl, e26, (by decide : 0 + 0 ≤ _), (by decide : 0 + 0 ≤ _)⟩)
  dsimp only [Pt.U, Pt.locs, Pt.cells, Pt.slots] at X29 l29 y29 z29 st29 hQ29
  subst l29 y29 z29
  obtain ⟨rfl, N29q, e29⟩ := hQ29
  have N29 := Fr.app N26 N29q
  have S30 : Steps p.tables e below Ω (T29.setTop (mkF m 84 #[.val (.int a1), .val (.int a2), .val (.int a3), .val (.int a4), .val (.int ee), .val (.int vv), .val (.int x0), .val (.int x1), .val (.int x2), .val (.int x3), .val (.int y0), .val (.int y2), .val (.int y1), .val (.int y3), .val (.int y0), .val (.int s1), .unset, .unset, .unset, .unset, .unset, .unset, .unset, .unset] [(.int (own_max y1 y2))])) := S28.trans (st29 _ (Steps.refl _))
  obtain ⟨s2, h_s2⟩ : ∃ z : Int32, z = (own_max y1 y2) := ⟨_, rfl⟩
  rw [← h_s2] at S30
  have js2 := own_maxI y1 y2
  rw [← h_s2] at js2
  have S31 : Steps p.tables e below Ω (T29.setTop (mkF m 96 #[.val (.int a1), .val (.int a2), .val (.int a3), .val (.int a4), .val (.int ee), .val (.int vv), .val (.int x0), .val (.int x1), .val (.int x2), .val (.int x3), .val (.int y0), .val (.int y2), .val (.int y1), .val (.int y3), .val (.int y0), .val (.int s1), .val (.int s2), .val (.int y3), .unset, .unset, .unset, .unset, .unset, .unset] [(.int (((ee.toUInt32 >>> ((2 : Int32) &&& 31).toUInt32).toInt32) &&& (1 : Int32)))])) := by
    refine S30.trans ?_
    refine XS.istore X29.here hx rfl (hb hby at_84) rfl (l' := #[.val (.int a1), .val (.int a2), .val (.int a3), .val (.int a4), .val (.int ee), .val (.int vv), .val (.int x0), .val (.int x1), .val (.int x2), .val (.int x3), .val (.int y0), .val (.int y2), .val (.int y1), .val (.int y3), .val (.int y0), .val (.int s1), .val (.int s2), .unset, .unset, .unset, .unset, .unset, .unset, .unset]) rfl ?_
    show Steps p.tables e below (T29.setTop (mkF m 86 #[.val (.int a1), .val (.int a2), .val (.int a3), .val (.int a4), .val (.int ee), .val (.int vv), .val (.int x0), .val (.int x1), .val (.int x2), .val (.int x3), .val (.int y0), .val (.int y2), .val (.int y1), .val (.int y3), .val (.int y0), .val (.int s1), .val (.int s2), .unset, .unset, .unset, .unset, .unset, .unset, .unset] [])) _
    refine XS.iload X29.here hx rfl (hb hby at_86) rfl ?_
    show Steps p.tables e below (T29.setTop (mkF m 88 #[.val (.int a1), .val (.int a2), .val (.int a3), .val (.int a4), .val (.int ee), .val (.int vv), .val (.int x0), .val (.int x1), .val (.int x2), .val (.int x3), .val (.int y0), .val (.int y2), .val (.int y1), .val (.int y3), .val (.int y0), .val (.int s1), .val (.int s2), .unset, .unset, .unset, .unset, .unset, .unset, .unset] [(.int y3)])) _
    refine XS.istore X29.here hx rfl (hb hby at_88) rfl (l' := #[.val (.int a1), .val (.int a2), .val (.int a3), .val (.int a4), .val (.int ee), .val (.int vv), .val (.int x0), .val (.int x1), .val (.int x2), .val (.int x3), .val (.int y0), .val (.int y2), .val (.int y1), .val (.int y3), .val (.int y0), .val (.int s1), .val (.int s2), .val (.int y3), .unset, .unset, .unset, .unset, .unset, .unset]) rfl ?_
    show Steps p.tables e below (T29.setTop (mkF m 90 #[.val (.int a1), .val (.int a2), .val (.int a3), .val (.int a4), .val (.int ee), .val (.int vv), .val (.int x0), .val (.int x1), .val (.int x2), .val (.int x3), .val (.int y0), .val (.int y2), .val (.int y1), .val (.int y3), .val (.int y0), .val (.int s1), .val (.int s2), .val (.int y3), .unset, .unset, .unset, .unset, .unset, .unset] [])) _
    refine XS.iload X29.here hx rfl (hb hby at_90) rfl ?_
    show Steps p.tables e below (T29.setTop (mkF m 92 #[.val (.int a1), .val (.int a2), .val (.int a3), .val (.int a4), .val (.int ee), .val (.int vv), .val (.int x0), .val (.int x1), .val (.int x2), .val (.int x3), .val (.int y0), .val (.int y2), .val (.int y1), .val (.int y3), .val (.int y0), .val (.int s1), .val (.int s2), .val (.int y3), .unset, .unset, .unset, .unset, .unset, .unset] [(.int ee)])) _
    refine XS.iconst X29.here hx rfl (hb hby at_92) ?_
    show Steps p.tables e below (T29.setTop (mkF m 93 #[.val (.int a1), .val (.int a2), .val (.int a3), .val (.int a4), .val (.int ee), .val (.int vv), .val (.int x0), .val (.int x1), .val (.int x2), .val (.int x3), .val (.int y0), .val (.int y2), .val (.int y1), .val (.int y3), .val (.int y0), .val (.int s1), .val (.int s2), .val (.int y3), .unset, .unset, .unset, .unset, .unset, .unset] [(.int (2 : Int32)), (.int ee)])) _
    refine XS.iushr X29.here hx rfl (hb hby at_93) rfl ?_
    show Steps p.tables e below (T29.setTop (mkF m 94 #[.val (.int a1), .val (.int a2), .val (.int a3), .val (.int a4), .val (.int ee), .val (.int vv), .val (.int x0), .val (.int x1), .val (.int x2), .val (.int x3), .val (.int y0), .val (.int y2), .val (.int y1), .val (.int y3), .val (.int y0), .val (.int s1), .val (.int s2), .val (.int y3), .unset, .unset, .unset, .unset, .unset, .unset] [(.int ((ee.toUInt32 >>> ((2 : Int32) &&& 31).toUInt32).toInt32))])) _
    refine XS.iconst X29.here hx rfl (hb hby at_94) ?_
    show Steps p.tables e below (T29.setTop (mkF m 95 #[.val (.int a1), .val (.int a2), .val (.int a3), .val (.int a4), .val (.int ee), .val (.int vv), .val (.int x0), .val (.int x1), .val (.int x2), .val (.int x3), .val (.int y0), .val (.int y2), .val (.int y1), .val (.int y3), .val (.int y0), .val (.int s1), .val (.int s2), .val (.int y3), .unset, .unset, .unset, .unset, .unset, .unset] [(.int (1 : Int32)), (.int ((ee.toUInt32 >>> ((2 : Int32) &&& 31).toUInt32).toInt32))])) _
    refine XS.iand X29.here hx rfl (hb hby at_95) rfl ?_
    exact Steps.refl _
  obtain ⟨u1, h_u1, S33⟩ : ∃ (u1 : Int32), u1 = (if (((ee.toUInt32 >>> ((2 : Int32) &&& 31).toUInt32).toInt32) &&& (1 : Int32)) = (0 : Int32) then s1 else y0) ∧ Steps p.tables e below Ω (T29.setTop (mkF m 103 #[.val (.int a1), .val (.int a2), .val (.int a3), .val (.int a4), .val (.int ee), .val (.int vv), .val (.int x0), .val (.int x1), .val (.int x2), .val (.int x3), .val (.int y0), .val (.int y2), .val (.int y1), .val (.int y3), .val (.int y0), .val (.int u1), .val (.int s2), .val (.int y3), .unset, .unset, .unset, .unset, .unset, .unset] [])) := by
    by_cases c32 : (((ee.toUInt32 >>> ((2 : Int32) &&& 31).toUInt32).toInt32) &&& (1 : Int32)) = (0 : Int32)
    · refine ⟨s1, (by rw [if_pos c32]), S31.trans ?_⟩
      refine XS.ifYes X29.here hx rfl (pc0 := 96) (pc' := 103) rfl (hb hby at_96) rfl (XT.i0_eq_t c32) (by decide) (by decide) ?_
      exact Steps.refl _
    · refine ⟨y0, (by rw [if_neg c32]), S31.trans ?_⟩
      refine XS.ifNo X29.here hx rfl (hb hby at_96) rfl (XT.i0_eq_f c32) ?_
      show Steps p.tables e below (T29.setTop (mkF m 99 #[.val (.int a1), .val (.int a2), .val (.int a3), .val (.int a4), .val (.int ee), .val (.int vv), .val (.int x0), .val (.int x1), .val (.int x2), .val (.int x3), .val (.int y0), .val (.int y2), .val (.int y1), .val (.int y3), .val (.int y0), .val (.int s1), .val (.int s2), .val (.int y3), .unset, .unset, .unset, .unset, .unset, .unset] [])) _
      refine XS.iload X29.here hx rfl (hb hby at_99) rfl ?_
      show Steps p.tables e below (T29.setTop (mkF m 101 #[.val (.int a1), .val (.int a2), .val (.int a3), .val (.int a4), .val (.int ee), .val (.int vv), .val (.int x0), .val (.int x1), .val (.int x2), .val (.int x3), .val (.int y0), .val (.int y2), .val (.int y1), .val (.int y3), .val (.int y0), .val (.int s1), .val (.int s2), .val (.int y3), .unset, .unset, .unset, .unset, .unset, .unset] [(.int y0)])) _
      refine XS.istore X29.here hx rfl (hb hby at_101) rfl (l' := #[.val (.int a1), .val (.int a2), .val (.int a3), .val (.int a4), .val (.int ee), .val (.int vv), .val (.int x0), .val (.int x1), .val (.int x2), .val (.int x3), .val (.int y0), .val (.int y2), .val (.int y1), .val (.int y3), .val (.int y0), .val (.int y0), .val (.int s2), .val (.int y3), .unset, .unset, .unset, .unset, .unset, .unset]) rfl ?_
      exact Steps.refl _
  have o1 := own_ite h_u1
  have S34 : Steps p.tables e below Ω (T29.setTop (mkF m 109 #[.val (.int a1), .val (.int a2), .val (.int a3), .val (.int a4), .val (.int ee), .val (.int vv), .val (.int x0), .val (.int x1), .val (.int x2), .val (.int x3), .val (.int y0), .val (.int y2), .val (.int y1), .val (.int y3), .val (.int y0), .val (.int u1), .val (.int s2), .val (.int y3), .unset, .unset, .unset, .unset, .unset, .unset] [(.int (((ee.toUInt32 >>> ((3 : Int32) &&& 31).toUInt32).toInt32) &&& (1 : Int32)))])) := by
    refine S33.trans ?_
    refine XS.iload X29.here hx rfl (hb hby at_103) rfl ?_
    show Steps p.tables e below (T29.setTop (mkF m 105 #[.val (.int a1), .val (.int a2), .val (.int a3), .val (.int a4), .val (.int ee), .val (.int vv), .val (.int x0), .val (.int x1), .val (.int x2), .val (.int x3), .val (.int y0), .val (.int y2), .val (.int y1), .val (.int y3), .val (.int y0), .val (.int u1), .val (.int s2), .val (.int y3), .unset, .unset, .unset, .unset, .unset, .unset] [(.int ee)])) _
    refine XS.iconst X29.here hx rfl (hb hby at_105) ?_
    show Steps p.tables e below (T29.setTop (mkF m 106 #[.val (.int a1), .val (.int a2), .val (.int a3), .val (.int a4), .val (.int ee), .val (.int vv), .val (.int x0), .val (.int x1), .val (.int x2), .val (.int x3), .val (.int y0), .val (.int y2), .val (.int y1), .val (.int y3), .val (.int y0), .val (.int u1), .val (.int s2), .val (.int y3), .unset, .unset, .unset, .unset, .unset, .unset] [(.int (3 : Int32)), (.int ee)])) _
    refine XS.iushr X29.here hx rfl (hb hby at_106) rfl ?_
    show Steps p.tables e below (T29.setTop (mkF m 107 #[.val (.int a1), .val (.int a2), .val (.int a3), .val (.int a4), .val (.int ee), .val (.int vv), .val (.int x0), .val (.int x1), .val (.int x2), .val (.int x3), .val (.int y0), .val (.int y2), .val (.int y1), .val (.int y3), .val (.int y0), .val (.int u1), .val (.int s2), .val (.int y3), .unset, .unset, .unset, .unset, .unset, .unset] [(.int ((ee.toUInt32 >>> ((3 : Int32) &&& 31).toUInt32).toInt32))])) _
    refine XS.iconst X29.here hx rfl (hb hby at_107) ?_
    show Steps p.tables e below (T29.setTop (mkF m 108 #[.val (.int a1), .val (.int a2), .val (.int a3), .val (.int a4), .val (.int ee), .val (.int vv), .val (.int x0), .val (.int x1), .val (.int x2), .val (.int x3), .val (.int y0), .val (.int y2), .val (.int y1), .val (.int y3), .val (.int y0), .val (.int u1), .val (.int s2), .val (.int y3), .unset, .unset, .unset, .unset, .unset, .unset] [(.int (1 : Int32)), (.int ((ee.toUInt32 >>> ((3 : Int32) &&& 31).toUInt32).toInt32))])) _
    refine XS.iand X29.here hx rfl (hb hby at_108) rfl ?_
    exact Steps.refl _
  obtain ⟨u2, h_u2, S36⟩ : ∃ (u2 : Int32), u2 = (if (((ee.toUInt32 >>> ((3 : Int32) &&& 31).toUInt32).toInt32) &&& (1 : Int32)) = (0 : Int32) then s2 else u1) ∧ Steps p.tables e below Ω (T29.setTop (mkF m 116 #[.val (.int a1), .val (.int a2), .val (.int a3), .val (.int a4), .val (.int ee), .val (.int vv), .val (.int x0), .val (.int x1), .val (.int x2), .val (.int x3), .val (.int y0), .val (.int y2), .val (.int y1), .val (.int y3), .val (.int y0), .val (.int u1), .val (.int u2), .val (.int y3), .unset, .unset, .unset, .unset, .unset, .unset] [])) := by
    by_cases c35 : (((ee.toUInt32 >>> ((3 : Int32) &&& 31).toUInt32).toInt32) &&& (1 : Int32)) = (0 : Int32)
    · refine ⟨s2, (by rw [if_pos c35]), S34.trans ?_⟩
      refine XS.ifYes X29.here hx rfl (pc0 := 109) (pc' := 116) rfl (hb hby at_109) rfl (XT.i0_eq_t c35) (by decide) (by decide) ?_
      exact Steps.refl _
    · refine ⟨u1, (by rw [if_neg c35]), S34.trans ?_⟩
      refine XS.ifNo X29.here hx rfl (hb hby at_109) rfl (XT.i0_eq_f c35) ?_
      show Steps p.tables e below (T29.setTop (mkF m 112 #[.val (.int a1), .val (.int a2), .val (.int a3), .val (.int a4), .val (.int ee), .val (.int vv), .val (.int x0), .val (.int x1), .val (.int x2), .val (.int x3), .val (.int y0), .val (.int y2), .val (.int y1), .val (.int y3), .val (.int y0), .val (.int u1), .val (.int s2), .val (.int y3), .unset, .unset, .unset, .unset, .unset, .unset] [])) _
      refine XS.iload X29.here hx rfl (hb hby at_112) rfl ?_
      show Steps p.tables e below (T29.setTop (mkF m 114 #[.val (.int a1), .val (.int a2), .val (.int a3), .val (.int a4), .val (.int ee), .val (.int vv), .val (.int x0), .val (.int x1), .val (.int x2), .val (.int x3), .val (.int y0), .val (.int y2), .val (.int y1), .val (.int y3), .val (.int y0), .val (.int u1), .val (.int s2), .val (.int y3), .unset, .unset, .unset, .unset, .unset, .unset] [(.int u1)])) _
      refine XS.istore X29.here hx rfl (hb hby at_114) rfl (l' := #[.val (.int a1), .val (.int a2), .val (.int a3), .val (.int a4), .val (.int ee), .val (.int vv), .val (.int x0), .val (.int x1), .val (.int x2), .val (.int x3), .val (.int y0), .val (.int y2), .val (.int y1), .val (.int y3), .val (.int y0), .val (.int u1), .val (.int u1), .val (.int y3), .unset, .unset, .unset, .unset, .unset, .unset]) rfl ?_
      exact Steps.refl _
  have o2 := own_ite h_u2
  have S37 : Steps p.tables e below Ω (T29.setTop (mkF m 122 #[.val (.int a1), .val (.int a2), .val (.int a3), .val (.int a4), .val (.int ee), .val (.int vv), .val (.int x0), .val (.int x1), .val (.int x2), .val (.int x3), .val (.int y0), .val (.int y2), .val (.int y1), .val (.int y3), .val (.int y0), .val (.int u1), .val (.int u2), .val (.int y3), .unset, .unset, .unset, .unset, .unset, .unset] [(.int (((ee.toUInt32 >>> ((4 : Int32) &&& 31).toUInt32).toInt32) &&& (1 : Int32)))])) := by
    refine S36.trans ?_
    refine XS.iload X29.here hx rfl (hb hby at_116) rfl ?_
    show Steps p.tables e below (T29.setTop (mkF m 118 #[.val (.int a1), .val (.int a2), .val (.int a3), .val (.int a4), .val (.int ee), .val (.int vv), .val (.int x0), .val (.int x1), .val (.int x2), .val (.int x3), .val (.int y0), .val (.int y2), .val (.int y1), .val (.int y3), .val (.int y0), .val (.int u1), .val (.int u2), .val (.int y3), .unset, .unset, .unset, .unset, .unset, .unset] [(.int ee)])) _
    refine XS.iconst X29.here hx rfl (hb hby at_118) ?_
    show Steps p.tables e below (T29.setTop (mkF m 119 #[.val (.int a1), .val (.int a2), .val (.int a3), .val (.int a4), .val (.int ee), .val (.int vv), .val (.int x0), .val (.int x1), .val (.int x2), .val (.int x3), .val (.int y0), .val (.int y2), .val (.int y1), .val (.int y3), .val (.int y0), .val (.int u1), .val (.int u2), .val (.int y3), .unset, .unset, .unset, .unset, .unset, .unset] [(.int (4 : Int32)), (.int ee)])) _
    refine XS.iushr X29.here hx rfl (hb hby at_119) rfl ?_
    show Steps p.tables e below (T29.setTop (mkF m 120 #[.val (.int a1), .val (.int a2), .val (.int a3), .val (.int a4), .val (.int ee), .val (.int vv), .val (.int x0), .val (.int x1), .val (.int x2), .val (.int x3), .val (.int y0), .val (.int y2), .val (.int y1), .val (.int y3), .val (.int y0), .val (.int u1), .val (.int u2), .val (.int y3), .unset, .unset, .unset, .unset, .unset, .unset] [(.int ((ee.toUInt32 >>> ((4 : Int32) &&& 31).toUInt32).toInt32))])) _
    refine XS.iconst X29.here hx rfl (hb hby at_120) ?_
    show Steps p.tables e below (T29.setTop (mkF m 121 #[.val (.int a1), .val (.int a2), .val (.int a3), .val (.int a4), .val (.int ee), .val (.int vv), .val (.int x0), .val (.int x1), .val (.int x2), .val (.int x3), .val (.int y0), .val (.int y2), .val (.int y1), .val (.int y3), .val (.int y0), .val (.int u1), .val (.int u2), .val (.int y3), .unset, .unset, .unset, .unset, .unset, .unset] [(.int (1 : Int32)), (.int ((ee.toUInt32 >>> ((4 : Int32) &&& 31).toUInt32).toInt32))])) _
    refine XS.iand X29.here hx rfl (hb hby at_121) rfl ?_
    exact Steps.refl _
  obtain ⟨u3, h_u3, S39⟩ : ∃ (u3 : Int32), u3 = (if (((ee.toUInt32 >>> ((4 : Int32) &&& 31).toUInt32).toInt32) &&& (1 : Int32)) = (0 : Int32) then y3 else u2) ∧ Steps p.tables e below Ω (T29.setTop (mkF m 129 #[.val (.int a1), .val (.int a2), .val (.int a3), .val (.int a4), .val (.int ee), .val (.int vv), .val (.int x0), .val (.int x1), .val (.int x2), .val (.int x3), .val (.int y0), .val (.int y2), .val (.int y1), .val (.int y3), .val (.int y0), .val (.int u1), .val (.int u2), .val (.int u3), .unset, .unset, .unset, .unset, .unset, .unset] [])) := by
    by_cases c38 : (((ee.toUInt32 >>> ((4 : Int32) &&& 31).toUInt32).toInt32) &&& (1 : Int32)) = (0 : Int32)
    · refine ⟨y3, (by rw [if_pos c38]), S37.trans ?_⟩
      refine XS.ifYes X29.here hx rfl (pc0 := 122) (pc' := 129) rfl (hb hby at_122) rfl (XT.i0_eq_t c38) (by decide) (by decide) ?_
      exact Steps.refl _
    · refine ⟨u2, (by rw [if_neg c38]), S37.trans ?_⟩
      refine XS.ifNo X29.here hx rfl (hb hby at_122) rfl (XT.i0_eq_f c38) ?_
      show Steps p.tables e below (T29.setTop (mkF m 125 #[.val (.int a1), .val (.int a2), .val (.int a3), .val (.int a4), .val (.int ee), .val (.int vv), .val (.int x0), .val (.int x1), .val (.int x2), .val (.int x3), .val (.int y0), .val (.int y2), .val (.int y1), .val (.int y3), .val (.int y0), .val (.int u1), .val (.int u2), .val (.int y3), .unset, .unset, .unset, .unset, .unset, .unset] [])) _
      refine XS.iload X29.here hx rfl (hb hby at_125) rfl ?_
      show Steps p.tables e below (T29.setTop (mkF m 127 #[.val (.int a1), .val (.int a2), .val (.int a3), .val (.int a4), .val (.int ee), .val (.int vv), .val (.int x0), .val (.int x1), .val (.int x2), .val (.int x3), .val (.int y0), .val (.int y2), .val (.int y1), .val (.int y3), .val (.int y0), .val (.int u1), .val (.int u2), .val (.int y3), .unset, .unset, .unset, .unset, .unset, .unset] [(.int u2)])) _
      refine XS.istore X29.here hx rfl (hb hby at_127) rfl (l' := #[.val (.int a1), .val (.int a2), .val (.int a3), .val (.int a4), .val (.int ee), .val (.int vv), .val (.int x0), .val (.int x1), .val (.int x2), .val (.int x3), .val (.int y0), .val (.int y2), .val (.int y1), .val (.int y3), .val (.int y0), .val (.int u1), .val (.int u2), .val (.int u2), .unset, .unset, .unset, .unset, .unset, .unset]) rfl ?_
      exact Steps.refl _
  have o3 := own_ite h_u3
  have S40 : Steps p.tables e below Ω (T29.setTop (mkF m 135 #[.val (.int a1), .val (.int a2), .val (.int a3), .val (.int a4), .val (.int ee), .val (.int vv), .val (.int x0), .val (.int x1), .val (.int x2), .val (.int x3), .val (.int y0), .val (.int y2), .val (.int y1), .val (.int y3), .val (.int y0), .val (.int u1), .val (.int u2), .val (.int u3), .val (.int (ee &&& (3 : Int32))), .unset, .unset, .unset, .unset, .unset] [])) := by
    refine S39.trans ?_
    refine XS.iload X29.here hx rfl (hb hby at_129) rfl ?_
    show Steps p.tables e below (T29.setTop (mkF m 131 #[.val (.int a1), .val (.int a2), .val (.int a3), .val (.int a4), .val (.int ee), .val (.int vv), .val (.int x0), .val (.int x1), .val (.int x2), .val (.int x3), .val (.int y0), .val (.int y2), .val (.int y1), .val (.int y3), .val (.int y0), .val (.int u1), .val (.int u2), .val (.int u3), .unset, .unset, .unset, .unset, .unset, .unset] [(.int ee)])) _
    refine XS.iconst X29.here hx rfl (hb hby at_131) ?_
    show Steps p.tables e below (T29.setTop (mkF m 132 #[.val (.int a1), .val (.int a2), .val (.int a3), .val (.int a4), .val (.int ee), .val (.int vv), .val (.int x0), .val (.int x1), .val (.int x2), .val (.int x3), .val (.int y0), .val (.int y2), .val (.int y1), .val (.int y3), .val (.int y0), .val (.int u1), .val (.int u2), .val (.int u3), .unset, .unset, .unset, .unset, .unset, .unset] [(.int (3 : Int32)), (.int ee)])) _
    refine XS.iand X29.here hx rfl (hb hby at_132) rfl ?_
    show Steps p.tables e below (T29.setTop (mkF m 133 #[.val (.int a1), .val (.int a2), .val (.int a3), .val (.int a4), .val (.int ee), .val (.int vv), .val (.int x0), .val (.int x1), .val (.int x2), .val (.int x3), .val (.int y0), .val (.int y2), .val (.int y1), .val (.int y3), .val (.int y0), .val (.int u1), .val (.int u2), .val (.int u3), .unset, .unset, .unset, .unset, .unset, .unset] [(.int (ee &&& (3 : Int32)))])) _
    refine XS.istore X29.here hx rfl (hb hby at_133) rfl (l' := #[.val (.int a1), .val (.int a2), .val (.int a3), .val (.int a4), .val (.int ee), .val (.int vv), .val (.int x0), .val (.int x1), .val (.int x2), .val (.int x3), .val (.int y0), .val (.int y2), .val (.int y1), .val (.int y3), .val (.int y0), .val (.int u1), .val (.int u2), .val (.int u3), .val (.int (ee &&& (3 : Int32))), .unset, .unset, .unset, .unset, .unset]) rfl ?_
    exact Steps.refl _
  obtain ⟨la, h_la⟩ : ∃ z : Int32, z = (ee &&& (3 : Int32)) := ⟨_, rfl⟩
  rw [← h_la] at S40
  have S41 : Steps p.tables e below Ω (T29.setTop (mkF m 144 #[.val (.int a1), .val (.int a2), .val (.int a3), .val (.int a4), .val (.int ee), .val (.int vv), .val (.int x0), .val (.int x1), .val (.int x2), .val (.int x3), .val (.int y0), .val (.int y2), .val (.int y1), .val (.int y3), .val (.int y0), .val (.int u1), .val (.int u2), .val (.int u3), .val (.int la), .val (.int (((ee.toUInt32 >>> ((5 : Int32) &&& 31).toUInt32).toInt32) &&& (7 : Int32))), .unset, .unset, .unset, .unset] [])) := by
    refine S40.trans ?_
    refine XS.iload X29.here hx rfl (hb hby at_135) rfl ?_
    show Steps p.tables e below (T29.setTop (mkF m 137 #[.val (.int a1), .val (.int a2), .val (.int a3), .val (.int a4), .val (.int ee), .val (.int vv), .val (.int x0), .val (.int x1), .val (.int x2), .val (.int x3), .val (.int y0), .val (.int y2), .val (.int y1), .val (.int y3), .val (.int y0), .val (.int u1), .val (.int u2), .val (.int u3), .val (.int la), .unset, .unset, .unset, .unset, .unset] [(.int ee)])) _
    refine XS.iconst X29.here hx rfl (hb hby at_137) ?_
    show Steps p.tables e below (T29.setTop (mkF m 138 #[.val (.int a1), .val (.int a2), .val (.int a3), .val (.int a4), .val (.int ee), .val (.int vv), .val (.int x0), .val (.int x1), .val (.int x2), .val (.int x3), .val (.int y0), .val (.int y2), .val (.int y1), .val (.int y3), .val (.int y0), .val (.int u1), .val (.int u2), .val (.int u3), .val (.int la), .unset, .unset, .unset, .unset, .unset] [(.int (5 : Int32)), (.int ee)])) _
    refine XS.iushr X29.here hx rfl (hb hby at_138) rfl ?_
    show Steps p.tables e below (T29.setTop (mkF m 139 #[.val (.int a1), .val (.int a2), .val (.int a3), .val (.int a4), .val (.int ee), .val (.int vv), .val (.int x0), .val (.int x1), .val (.int x2), .val (.int x3), .val (.int y0), .val (.int y2), .val (.int y1), .val (.int y3), .val (.int y0), .val (.int u1), .val (.int u2), .val (.int u3), .val (.int la), .unset, .unset, .unset, .unset, .unset] [(.int ((ee.toUInt32 >>> ((5 : Int32) &&& 31).toUInt32).toInt32))])) _
    refine XS.bipush X29.here hx rfl (hb hby at_139) ?_
    show Steps p.tables e below (T29.setTop (mkF m 141 #[.val (.int a1), .val (.int a2), .val (.int a3), .val (.int a4), .val (.int ee), .val (.int vv), .val (.int x0), .val (.int x1), .val (.int x2), .val (.int x3), .val (.int y0), .val (.int y2), .val (.int y1), .val (.int y3), .val (.int y0), .val (.int u1), .val (.int u2), .val (.int u3), .val (.int la), .unset, .unset, .unset, .unset, .unset] [(.int (7 : Int32)), (.int ((ee.toUInt32 >>> ((5 : Int32) &&& 31).toUInt32).toInt32))])) _
    refine XS.iand X29.here hx rfl (hb hby at_141) rfl ?_
    show Steps p.tables e below (T29.setTop (mkF m 142 #[.val (.int a1), .val (.int a2), .val (.int a3), .val (.int a4), .val (.int ee), .val (.int vv), .val (.int x0), .val (.int x1), .val (.int x2), .val (.int x3), .val (.int y0), .val (.int y2), .val (.int y1), .val (.int y3), .val (.int y0), .val (.int u1), .val (.int u2), .val (.int u3), .val (.int la), .unset, .unset, .unset, .unset, .unset] [(.int (((ee.toUInt32 >>> ((5 : Int32) &&& 31).toUInt32).toInt32) &&& (7 : Int32)))])) _
    refine XS.istore X29.here hx rfl (hb hby at_142) rfl (l' := #[.val (.int a1), .val (.int a2), .val (.int a3), .val (.int a4), .val (.int ee), .val (.int vv), .val (.int x0), .val (.int x1), .val (.int x2), .val (.int x3), .val (.int y0), .val (.int y2), .val (.int y1), .val (.int y3), .val (.int y0), .val (.int u1), .val (.int u2), .val (.int u3), .val (.int la), .val (.int (((ee.toUInt32 >>> ((5 : Int32) &&& 31).toUInt32).toInt32) &&& (7 : Int32))), .unset, .unset, .unset, .unset]) rfl ?_
    exact Steps.refl _
  obtain ⟨md, h_md⟩ : ∃ z : Int32, z = (((ee.toUInt32 >>> ((5 : Int32) &&& 31).toUInt32).toInt32) &&& (7 : Int32)) := ⟨_, rfl⟩
  rw [← h_md] at S41
  have S42 : Steps p.tables e below Ω (T29.setTop (mkF m 150 #[.val (.int a1), .val (.int a2), .val (.int a3), .val (.int a4), .val (.int ee), .val (.int vv), .val (.int x0), .val (.int x1), .val (.int x2), .val (.int x3), .val (.int y0), .val (.int y2), .val (.int y1), .val (.int y3), .val (.int y0), .val (.int u1), .val (.int u2), .val (.int u3), .val (.int la), .val (.int md), .val (.int vv), .unset, .unset, .unset] [(.int md)])) := by
    refine S41.trans ?_
    refine XS.iload X29.here hx rfl (hb hby at_144) rfl ?_
    show Steps p.tables e below (T29.setTop (mkF m 146 #[.val (.int a1), .val (.int a2), .val (.int a3), .val (.int a4), .val (.int ee), .val (.int vv), .val (.int x0), .val (.int x1), .val (.int x2), .val (.int x3), .val (.int y0), .val (.int y2), .val (.int y1), .val (.int y3), .val (.int y0), .val (.int u1), .val (.int u2), .val (.int u3), .val (.int la), .val (.int md), .unset, .unset, .unset, .unset] [(.int vv)])) _
    refine XS.istore X29.here hx rfl (hb hby at_146) rfl (l' := #[.val (.int a1), .val (.int a2), .val (.int a3), .val (.int a4), .val (.int ee), .val (.int vv), .val (.int x0), .val (.int x1), .val (.int x2), .val (.int x3), .val (.int y0), .val (.int y2), .val (.int y1), .val (.int y3), .val (.int y0), .val (.int u1), .val (.int u2), .val (.int u3), .val (.int la), .val (.int md), .val (.int vv), .unset, .unset, .unset]) rfl ?_
    show Steps p.tables e below (T29.setTop (mkF m 148 #[.val (.int a1), .val (.int a2), .val (.int a3), .val (.int a4), .val (.int ee), .val (.int vv), .val (.int x0), .val (.int x1), .val (.int x2), .val (.int x3), .val (.int y0), .val (.int y2), .val (.int y1), .val (.int y3), .val (.int y0), .val (.int u1), .val (.int u2), .val (.int u3), .val (.int la), .val (.int md), .val (.int vv), .unset, .unset, .unset] [])) _
    refine XS.iload X29.here hx rfl (hb hby at_148) rfl ?_
    exact Steps.refl _
  obtain ⟨val, h_val, S47⟩ : ∃ (val : Int32), val = (if md = (0 : Int32) then y0 else (if md = (1 : Int32) then u1 else (if md = (2 : Int32) then u2 else (if md = (3 : Int32) then u3 else vv)))) ∧ Steps p.tables e below Ω (T29.setTop (mkF m 196 #[.val (.int a1), .val (.int a2), .val (.int a3), .val (.int a4), .val (.int ee), .val (.int vv), .val (.int x0), .val (.int x1), .val (.int x2), .val (.int x3), .val (.int y0), .val (.int y2), .val (.int y1), .val (.int y3), .val (.int y0), .val (.int u1), .val (.int u2), .val (.int u3), .val (.int la), .val (.int md), .val (.int val), .unset, .unset, .unset] [])) := by
    by_cases c43 : md = (0 : Int32)
    · refine ⟨y0, (by rw [if_pos c43]), S42.trans ?_⟩
      refine XS.ifNo X29.here hx rfl (hb hby at_150) rfl (XT.i0_ne_f c43) ?_
      show Steps p.tables e below (T29.setTop (mkF m 153 #[.val (.int a1), .val (.int a2), .val (.int a3), .val (.int a4), .val (.int ee), .val (.int vv), .val (.int x0), .val (.int x1), .val (.int x2), .val (.int x3), .val (.int y0), .val (.int y2), .val (.int y1), .val (.int y3), .val (.int y0), .val (.int u1), .val (.int u2), .val (.int u3), .val (.int la), .val (.int md), .val (.int vv), .unset, .unset, .unset] [])) _
      refine XS.iload X29.here hx rfl (hb hby at_153) rfl ?_
      show Steps p.tables e below (T29.setTop (mkF m 155 #[.val (.int a1), .val (.int a2), .val (.int a3), .val (.int a4), .val (.int ee), .val (.int vv), .val (.int x0), .val (.int x1), .val (.int x2), .val (.int x3), .val (.int y0), .val (.int y2), .val (.int y1), .val (.int y3), .val (.int y0), .val (.int u1), .val (.int u2), .val (.int u3), .val (.int la), .val (.int md), .val (.int vv), .unset, .unset, .unset] [(.int y0)])) _
      refine XS.istore X29.here hx rfl (hb hby at_155) rfl (l' := #[.val (.int a1), .val (.int a2), .val (.int a3), .val (.int a4), .val (.int ee), .val (.int vv), .val (.int x0), .val (.int x1), .val (.int x2), .val (.int x3), .val (.int y0), .val (.int y2), .val (.int y1), .val (.int y3), .val (.int y0), .val (.int u1), .val (.int u2), .val (.int u3), .val (.int la), .val (.int md), .val (.int y0), .unset, .unset, .unset]) rfl ?_
      show Steps p.tables e below (T29.setTop (mkF m 157 #[.val (.int a1), .val (.int a2), .val (.int a3), .val (.int a4), .val (.int ee), .val (.int vv), .val (.int x0), .val (.int x1), .val (.int x2), .val (.int x3), .val (.int y0), .val (.int y2), .val (.int y1), .val (.int y3), .val (.int y0), .val (.int u1), .val (.int u2), .val (.int u3), .val (.int la), .val (.int md), .val (.int y0), .unset, .unset, .unset] [])) _
      refine XS.goto X29.here hx rfl (pc0 := 157) (pc' := 196) rfl (hb hby at_157) (by decide) (by decide) ?_
      exact Steps.refl _
    · by_cases c44 : md = (1 : Int32)
      · refine ⟨u1, (by rw [if_neg c43, if_pos c44]), S42.trans ?_⟩
        refine XS.ifYes X29.here hx rfl (pc0 := 150) (pc' := 160) rfl (hb hby at_150) rfl (XT.i0_ne_t c43) (by decide) (by decide) ?_
        show Steps p.tables e below (T29.setTop (mkF m 160 #[.val (.int a1), .val (.int a2), .val (.int a3), .val (.int a4), .val (.int ee), .val (.int vv), .val (.int x0), .val (.int x1), .val (.int x2), .val (.int x3), .val (.int y0), .val (.int y2), .val (.int y1), .val (.int y3), .val (.int y0), .val (.int u1), .val (.int u2), .val (.int u3), .val (.int la), .val (.int md), .val (.int vv), .unset, .unset, .unset] [])) _
        refine XS.iload X29.here hx rfl (hb hby at_160) rfl ?_
        show Steps p.tables e below (T29.setTop (mkF m 162 #[.val (.int a1), .val (.int a2), .val (.int a3), .val (.int a4), .val (.int ee), .val (.int vv), .val (.int x0), .val (.int x1), .val (.int x2), .val (.int x3), .val (.int y0), .val (.int y2), .val (.int y1), .val (.int y3), .val (.int y0), .val (.int u1), .val (.int u2), .val (.int u3), .val (.int la), .val (.int md), .val (.int vv), .unset, .unset, .unset] [(.int md)])) _
        refine XS.iconst X29.here hx rfl (hb hby at_162) ?_
        show Steps p.tables e below (T29.setTop (mkF m 163 #[.val (.int a1), .val (.int a2), .val (.int a3), .val (.int a4), .val (.int ee), .val (.int vv), .val (.int x0), .val (.int x1), .val (.int x2), .val (.int x3), .val (.int y0), .val (.int y2), .val (.int y1), .val (.int y3), .val (.int y0), .val (.int u1), .val (.int u2), .val (.int u3), .val (.int la), .val (.int md), .val (.int vv), .unset, .unset, .unset] [(.int (1 : Int32)), (.int md)])) _
        refine XS.icmpNo X29.here hx rfl (hb hby at_163) rfl (XT.ii_ne_f c44) ?_
        show Steps p.tables e below (T29.setTop (mkF m 166 #[.val (.int a1), .val (.int a2), .val (.int a3), .val (.int a4), .val (.int ee), .val (.int vv), .val (.int x0), .val (.int x1), .val (.int x2), .val (.int x3), .val (.int y0), .val (.int y2), .val (.int y1), .val (.int y3), .val (.int y0), .val (.int u1), .val (.int u2), .val (.int u3), .val (.int la), .val (.int md), .val (.int vv), .unset, .unset, .unset] [])) _
        refine XS.iload X29.here hx rfl (hb hby at_166) rfl ?_
        show Steps p.tables e below (T29.setTop (mkF m 168 #[.val (.int a1), .val (.int a2), .val (.int a3), .val (.int a4), .val (.int ee), .val (.int vv), .val (.int x0), .val (.int x1), .val (.int x2), .val (.int x3), .val (.int y0), .val (.int y2), .val (.int y1), .val (.int y3), .val (.int y0), .val (.int u1), .val (.int u2), .val (.int u3), .val (.int la), .val (.int md), .val (.int vv), .unset, .unset, .unset] [(.int u1)])) _
        refine XS.istore X29.here hx rfl (hb hby at_168) rfl (l' := #[.val (.int a1), .val (.int a2), .val (.int a3), .val (.int a4), .val (.int ee), .val (.int vv), .val (.int x0), .val (.int x1), .val (.int x2), .val (.int x3), .val (.int y0), .val (.int y2), .val (.int y1), .val (.int y3), .val (.int y0), .val (.int u1), .val (.int u2), .val (.int u3), .val (.int la), .val (.int md), .val (.int u1), .unset, .unset, .unset]) rfl ?_
        show Steps p.tables e below (T29.setTop (mkF m 170 #[.val (.int a1), .val (.int a2), .val (.int a3), .val (.int a4), .val (.int ee), .val (.int vv), .val (.int x0), .val (.int x1), .val (.int x2), .val (.int x3), .val (.int y0), .val (.int y2), .val (.int y1), .val (.int y3), .val (.int y0), .val (.int u1), .val (.int u2), .val (.int u3), .val (.int la), .val (.int md), .val (.int u1), .unset, .unset, .unset] [])) _
        refine XS.goto X29.here hx rfl (pc0 := 170) (pc' := 196) rfl (hb hby at_170) (by decide) (by decide) ?_
        exact Steps.refl _
      · by_cases c45 : md = (2 : Int32)
        · refine ⟨u2, (by rw [if_neg c43, if_neg c44, if_pos c45]), S42.trans ?_⟩
          refine XS.ifYes X29.here hx rfl (pc0 := 150) (pc' := 160) rfl (hb hby at_150) rfl (XT.i0_ne_t c43) (by decide) (by decide) ?_
          show Steps p.tables e below (T29.setTop (mkF m 160 #[.val (.int a1), .val (.int a2), .val (.int a3), .val (.int a4), .val (.int ee), .val (.int vv), .val (.int x0), .val (.int x1), .val (.int x2), .val (.int x3), .val (.int y0), .val (.int y2), .val (.int y1), .val (.int y3), .val (.int y0), .val (.int u1), .val (.int u2), .val (.int u3), .val (.int la), .val (.int md), .val (.int vv), .unset, .unset, .unset] [])) _
          refine XS.iload X29.here hx rfl (hb hby at_160) rfl ?_
          show Steps p.tables e below (T29.setTop (mkF m 162 #[.val (.int a1), .val (.int a2), .val (.int a3), .val (.int a4), .val (.int ee), .val (.int vv), .val (.int x0), .val (.int x1), .val (.int x2), .val (.int x3), .val (.int y0), .val (.int y2), .val (.int y1), .val (.int y3), .val (.int y0), .val (.int u1), .val (.int u2), .val (.int u3), .val (.int la), .val (.int md), .val (.int vv), .unset, .unset, .unset] [(.int md)])) _
          refine XS.iconst X29.here hx rfl (hb hby at_162) ?_
          show Steps p.tables e below (T29.setTop (mkF m 163 #[.val (.int a1), .val (.int a2), .val (.int a3), .val (.int a4), .val (.int ee), .val (.int vv), .val (.int x0), .val (.int x1), .val (.int x2), .val (.int x3), .val (.int y0), .val (.int y2), .val (.int y1), .val (.int y3), .val (.int y0), .val (.int u1), .val (.int u2), .val (.int u3), .val (.int la), .val (.int md), .val (.int vv), .unset, .unset, .unset] [(.int (1 : Int32)), (.int md)])) _
          refine XS.icmpYes X29.here hx rfl (pc0 := 163) (pc' := 173) rfl (hb hby at_163) rfl (XT.ii_ne_t c44) (by decide) (by decide) ?_
          show Steps p.tables e below (T29.setTop (mkF m 173 #[.val (.int a1), .val (.int a2), .val (.int a3), .val (.int a4), .val (.int ee), .val (.int vv), .val (.int x0), .val (.int x1), .val (.int x2), .val (.int x3), .val (.int y0), .val (.int y2), .val (.int y1), .val (.int y3), .val (.int y0), .val (.int u1), .val (.int u2), .val (.int u3), .val (.int la), .val (.int md), .val (.int vv), .unset, .unset, .unset] [])) _
          refine XS.iload X29.here hx rfl (hb hby at_173) rfl ?_
          show Steps p.tables e below (T29.setTop (mkF m 175 #[.val (.int a1), .val (.int a2), .val (.int a3), .val (.int a4), .val (.int ee), .val (.int vv), .val (.int x0), .val (.int x1), .val (.int x2), .val (.int x3), .val (.int y0), .val (.int y2), .val (.int y1), .val (.int y3), .val (.int y0), .val (.int u1), .val (.int u2), .val (.int u3), .val (.int la), .val (.int md), .val (.int vv), .unset, .unset, .unset] [(.int md)])) _
          refine XS.iconst X29.here hx rfl (hb hby at_175) ?_
          show Steps p.tables e below (T29.setTop (mkF m 176 #[.val (.int a1), .val (.int a2), .val (.int a3), .val (.int a4), .val (.int ee), .val (.int vv), .val (.int x0), .val (.int x1), .val (.int x2), .val (.int x3), .val (.int y0), .val (.int y2), .val (.int y1), .val (.int y3), .val (.int y0), .val (.int u1), .val (.int u2), .val (.int u3), .val (.int la), .val (.int md), .val (.int vv), .unset, .unset, .unset] [(.int (2 : Int32)), (.int md)])) _
          refine XS.icmpNo X29.here hx rfl (hb hby at_176) rfl (XT.ii_ne_f c45) ?_
          show Steps p.tables e below (T29.setTop (mkF m 179 #[.val (.int a1), .val (.int a2), .val (.int a3), .val (.int a4), .val (.int ee), .val (.int vv), .val (.int x0), .val (.int x1), .val (.int x2), .val (.int x3), .val (.int y0), .val (.int y2), .val (.int y1), .val (.int y3), .val (.int y0), .val (.int u1), .val (.int u2), .val (.int u3), .val (.int la), .val (.int md), .val (.int vv), .unset, .unset, .unset] [])) _
          refine XS.iload X29.here hx rfl (hb hby at_179) rfl ?_
          show Steps p.tables e below (T29.setTop (mkF m 181 #[.val (.int a1), .val (.int a2), .val (.int a3), .val (.int a4), .val (.int ee), .val (.int vv), .val (.int x0), .val (.int x1), .val (.int x2), .val (.int x3), .val (.int y0), .val (.int y2), .val (.int y1), .val (.int y3), .val (.int y0), .val (.int u1), .val (.int u2), .val (.int u3), .val (.int la), .val (.int md), .val (.int vv), .unset, .unset, .unset] [(.int u2)])) _
          refine XS.istore X29.here hx rfl (hb hby at_181) rfl (l' := #[.val (.int a1), .val (.int a2), .val (.int a3), .val (.int a4), .val (.int ee), .val (.int vv), .val (.int x0), .val (.int x1), .val (.int x2), .val (.int x3), .val (.int y0), .val (.int y2), .val (.int y1), .val (.int y3), .val (.int y0), .val (.int u1), .val (.int u2), .val (.int u3), .val (.int la), .val (.int md), .val (.int u2), .unset, .unset, .unset]) rfl ?_
          show Steps p.tables e below (T29.setTop (mkF m 183 #[.val (.int a1), .val (.int a2), .val (.int a3), .val (.int a4), .val (.int ee), .val (.int vv), .val (.int x0), .val (.int x1), .val (.int x2), .val (.int x3), .val (.int y0), .val (.int y2), .val (.int y1), .val (.int y3), .val (.int y0), .val (.int u1), .val (.int u2), .val (.int u3), .val (.int la), .val (.int md), .val (.int u2), .unset, .unset, .unset] [])) _
          refine XS.goto X29.here hx rfl (pc0 := 183) (pc' := 196) rfl (hb hby at_183) (by decide) (by decide) ?_
          exact Steps.refl _
        · by_cases c46 : md = (3 : Int32)
          · refine ⟨u3, (by rw [if_neg c43, if_neg c44, if_neg c45, if_pos c46]), S42.trans ?_⟩
            refine XS.ifYes X29.here hx rfl (pc0 := 150) (pc' := 160) rfl (hb hby at_150) rfl (XT.i0_ne_t c43) (by decide) (by decide) ?_
            show Steps p.tables e below (T29.setTop (mkF m 160 #[.val (.int a1), .val (.int a2), .val (.int a3), .val (.int a4), .val (.int ee), .val (.int vv), .val (.int x0), .val (.int x1), .val (.int x2), .val (.int x3), .val (.int y0), .val (.int y2), .val (.int y1), .val (.int y3), .val (.int y0), .val (.int u1), .val (.int u2), .val (.int u3), .val (.int la), .val (.int md), .val (.int vv), .unset, .unset, .unset] [])) _
            refine XS.iload X29.here hx rfl (hb hby at_160) rfl ?_
            show Steps p.tables e below (T29.setTop (mkF m 162 #[.val (.int a1), .val (.int a2), .val (.int a3), .val (.int a4), .val (.int ee), .val (.int vv), .val (.int x0), .val (.int x1), .val (.int x2), .val (.int x3), .val (.int y0), .val (.int y2), .val (.int y1), .val (.int y3), .val (.int y0), .val (.int u1), .val (.int u2), .val (.int u3), .val (.int la), .val (.int md), .val (.int vv), .unset, .unset, .unset] [(.int md)])) _
            refine XS.iconst X29.here hx rfl (hb hby at_162) ?_
            show Steps p.tables e below (T29.setTop (mkF m 163 #[.val (.int a1), .val (.int a2), .val (.int a3), .val (.int a4), .val (.int ee), .val (.int vv), .val (.int x0), .val (.int x1), .val (.int x2), .val (.int x3), .val (.int y0), .val (.int y2), .val (.int y1), .val (.int y3), .val (.int y0), .val (.int u1), .val (.int u2), .val (.int u3), .val (.int la), .val (.int md), .val (.int vv), .unset, .unset, .unset] [(.int (1 : Int32)), (.int md)])) _
            refine XS.icmpYes X29.here hx rfl (pc0 := 163) (pc' := 173) rfl (hb hby at_163) rfl (XT.ii_ne_t c44) (by decide) (by decide) ?_
            show Steps p.tables e below (T29.setTop (mkF m 173 #[.val (.int a1), .val (.int a2), .val (.int a3), .val (.int a4), .val (.int ee), .val (.int vv), .val (.int x0), .val (.int x1), .val (.int x2), .val (.int x3), .val (.int y0), .val (.int y2), .val (.int y1), .val (.int y3), .val (.int y0), .val (.int u1), .val (.int u2), .val (.int u3), .val (.int la), .val (.int md), .val (.int vv), .unset, .unset, .unset] [])) _
            refine XS.iload X29.here hx rfl (hb hby at_173) rfl ?_
            show Steps p.tables e below (T29.setTop (mkF m 175 #[.val (.int a1), .val (.int a2), .val (.int a3), .val (.int a4), .val (.int ee), .val (.int vv), .val (.int x0), .val (.int x1), .val (.int x2), .val (.int x3), .val (.int y0), .val (.int y2), .val (.int y1), .val (.int y3), .val (.int y0), .val (.int u1), .val (.int u2), .val (.int u3), .val (.int la), .val (.int md), .val (.int vv), .unset, .unset, .unset] [(.int md)])) _
            refine XS.iconst X29.here hx rfl (hb hby at_175) ?_
            show Steps p.tables e below (T29.setTop (mkF m 176 #[.val (.int a1), .val (.int a2), .val (.int a3), .val (.int a4), .val (.int ee), .val (.int vv), .val (.int x0), .val (.int x1), .val (.int x2), .val (.int x3), .val (.int y0), .val (.int y2), .val (.int y1), .val (.int y3), .val (.int y0), .val (.int u1), .val (.int u2), .val (.int u3), .val (.int la), .val (.int md), .val (.int vv), .unset, .unset, .unset] [(.int (2 : Int32)), (.int md)])) _
            refine XS.icmpYes X29.here hx rfl (pc0 := 176) (pc' := 186) rfl (hb hby at_176) rfl (XT.ii_ne_t c45) (by decide) (by decide) ?_
            show Steps p.tables e below (T29.setTop (mkF m 186 #[.val (.int a1), .val (.int a2), .val (.int a3), .val (.int a4), .val (.int ee), .val (.int vv), .val (.int x0), .val (.int x1), .val (.int x2), .val (.int x3), .val (.int y0), .val (.int y2), .val (.int y1), .val (.int y3), .val (.int y0), .val (.int u1), .val (.int u2), .val (.int u3), .val (.int la), .val (.int md), .val (.int vv), .unset, .unset, .unset] [])) _
            refine XS.iload X29.here hx rfl (hb hby at_186) rfl ?_
            show Steps p.tables e below (T29.setTop (mkF m 188 #[.val (.int a1), .val (.int a2), .val (.int a3), .val (.int a4), .val (.int ee), .val (.int vv), .val (.int x0), .val (.int x1), .val (.int x2), .val (.int x3), .val (.int y0), .val (.int y2), .val (.int y1), .val (.int y3), .val (.int y0), .val (.int u1), .val (.int u2), .val (.int u3), .val (.int la), .val (.int md), .val (.int vv), .unset, .unset, .unset] [(.int md)])) _
            refine XS.iconst X29.here hx rfl (hb hby at_188) ?_
            show Steps p.tables e below (T29.setTop (mkF m 189 #[.val (.int a1), .val (.int a2), .val (.int a3), .val (.int a4), .val (.int ee), .val (.int vv), .val (.int x0), .val (.int x1), .val (.int x2), .val (.int x3), .val (.int y0), .val (.int y2), .val (.int y1), .val (.int y3), .val (.int y0), .val (.int u1), .val (.int u2), .val (.int u3), .val (.int la), .val (.int md), .val (.int vv), .unset, .unset, .unset] [(.int (3 : Int32)), (.int md)])) _
            refine XS.icmpNo X29.here hx rfl (hb hby at_189) rfl (XT.ii_ne_f c46) ?_
            show Steps p.tables e below (T29.setTop (mkF m 192 #[.val (.int a1), .val (.int a2), .val (.int a3), .val (.int a4), .val (.int ee), .val (.int vv), .val (.int x0), .val (.int x1), .val (.int x2), .val (.int x3), .val (.int y0), .val (.int y2), .val (.int y1), .val (.int y3), .val (.int y0), .val (.int u1), .val (.int u2), .val (.int u3), .val (.int la), .val (.int md), .val (.int vv), .unset, .unset, .unset] [])) _
            refine XS.iload X29.here hx rfl (hb hby at_192) rfl ?_
            show Steps p.tables e below (T29.setTop (mkF m 194 #[.val (.int a1), .val (.int a2), .val (.int a3), .val (.int a4), .val (.int ee), .val (.int vv), .val (.int x0), .val (.int x1), .val (.int x2), .val (.int x3), .val (.int y0), .val (.int y2), .val (.int y1), .val (.int y3), .val (.int y0), .val (.int u1), .val (.int u2), .val (.int u3), .val (.int la), .val (.int md), .val (.int vv), .unset, .unset, .unset] [(.int u3)])) _
            refine XS.istore X29.here hx rfl (hb hby at_194) rfl (l' := #[.val (.int a1), .val (.int a2), .val (.int a3), .val (.int a4), .val (.int ee), .val (.int vv), .val (.int x0), .val (.int x1), .val (.int x2), .val (.int x3), .val (.int y0), .val (.int y2), .val (.int y1), .val (.int y3), .val (.int y0), .val (.int u1), .val (.int u2), .val (.int u3), .val (.int la), .val (.int md), .val (.int u3), .unset, .unset, .unset]) rfl ?_
            exact Steps.refl _
          · refine ⟨vv, (by rw [if_neg c43, if_neg c44, if_neg c45, if_neg c46]), S42.trans ?_⟩
            refine XS.ifYes X29.here hx rfl (pc0 := 150) (pc' := 160) rfl (hb hby at_150) rfl (XT.i0_ne_t c43) (by decide) (by decide) ?_
            show Steps p.tables e below (T29.setTop (mkF m 160 #[.val (.int a1), .val (.int a2), .val (.int a3), .val (.int a4), .val (.int ee), .val (.int vv), .val (.int x0), .val (.int x1), .val (.int x2), .val (.int x3), .val (.int y0), .val (.int y2), .val (.int y1), .val (.int y3), .val (.int y0), .val (.int u1), .val (.int u2), .val (.int u3), .val (.int la), .val (.int md), .val (.int vv), .unset, .unset, .unset] [])) _
            refine XS.iload X29.here hx rfl (hb hby at_160) rfl ?_
            show Steps p.tables e below (T29.setTop (mkF m 162 #[.val (.int a1), .val (.int a2), .val (.int a3), .val (.int a4), .val (.int ee), .val (.int vv), .val (.int x0), .val (.int x1), .val (.int x2), .val (.int x3), .val (.int y0), .val (.int y2), .val (.int y1), .val (.int y3), .val (.int y0), .val (.int u1), .val (.int u2), .val (.int u3), .val (.int la), .val (.int md), .val (.int vv), .unset, .unset, .unset] [(.int md)])) _
            refine XS.iconst X29.here hx rfl (hb hby at_162) ?_
            show Steps p.tables e below (T29.setTop (mkF m 163 #[.val (.int a1), .val (.int a2), .val (.int a3), .val (.int a4), .val (.int ee), .val (.int vv), .val (.int x0), .val (.int x1), .val (.int x2), .val (.int x3), .val (.int y0), .val (.int y2), .val (.int y1), .val (.int y3), .val (.int y0), .val (.int u1), .val (.int u2), .val (.int u3), .val (.int la), .val (.int md), .val (.int vv), .unset, .unset, .unset] [(.int (1 : Int32)), (.int md)])) _
            refine XS.icmpYes X29.here hx rfl (pc0 := 163) (pc' := 173) rfl (hb hby at_163) rfl (XT.ii_ne_t c44) (by decide) (by decide) ?_
            show Steps p.tables e below (T29.setTop (mkF m 173 #[.val (.int a1), .val (.int a2), .val (.int a3), .val (.int a4), .val (.int ee), .val (.int vv), .val (.int x0), .val (.int x1), .val (.int x2), .val (.int x3), .val (.int y0), .val (.int y2), .val (.int y1), .val (.int y3), .val (.int y0), .val (.int u1), .val (.int u2), .val (.int u3), .val (.int la), .val (.int md), .val (.int vv), .unset, .unset, .unset] [])) _
            refine XS.iload X29.here hx rfl (hb hby at_173) rfl ?_
            show Steps p.tables e below (T29.setTop (mkF m 175 #[.val (.int a1), .val (.int a2), .val (.int a3), .val (.int a4), .val (.int ee), .val (.int vv), .val (.int x0), .val (.int x1), .val (.int x2), .val (.int x3), .val (.int y0), .val (.int y2), .val (.int y1), .val (.int y3), .val (.int y0), .val (.int u1), .val (.int u2), .val (.int u3), .val (.int la), .val (.int md), .val (.int vv), .unset, .unset, .unset] [(.int md)])) _
            refine XS.iconst X29.here hx rfl (hb hby at_175) ?_
            show Steps p.tables e below (T29.setTop (mkF m 176 #[.val (.int a1), .val (.int a2), .val (.int a3), .val (.int a4), .val (.int ee), .val (.int vv), .val (.int x0), .val (.int x1), .val (.int x2), .val (.int x3), .val (.int y0), .val (.int y2), .val (.int y1), .val (.int y3), .val (.int y0), .val (.int u1), .val (.int u2), .val (.int u3), .val (.int la), .val (.int md), .val (.int vv), .unset, .unset, .unset] [(.int (2 : Int32)), (.int md)])) _
            refine XS.icmpYes X29.here hx rfl (pc0 := 176) (pc' := 186) rfl (hb hby at_176) rfl (XT.ii_ne_t c45) (by decide) (by decide) ?_
            show Steps p.tables e below (T29.setTop (mkF m 186 #[.val (.int a1), .val (.int a2), .val (.int a3), .val (.int a4), .val (.int ee), .val (.int vv), .val (.int x0), .val (.int x1), .val (.int x2), .val (.int x3), .val (.int y0), .val (.int y2), .val (.int y1), .val (.int y3), .val (.int y0), .val (.int u1), .val (.int u2), .val (.int u3), .val (.int la), .val (.int md), .val (.int vv), .unset, .unset, .unset] [])) _
            refine XS.iload X29.here hx rfl (hb hby at_186) rfl ?_
            show Steps p.tables e below (T29.setTop (mkF m 188 #[.val (.int a1), .val (.int a2), .val (.int a3), .val (.int a4), .val (.int ee), .val (.int vv), .val (.int x0), .val (.int x1), .val (.int x2), .val (.int x3), .val (.int y0), .val (.int y2), .val (.int y1), .val (.int y3), .val (.int y0), .val (.int u1), .val (.int u2), .val (.int u3), .val (.int la), .val (.int md), .val (.int vv), .unset, .unset, .unset] [(.int md)])) _
            refine XS.iconst X29.here hx rfl (hb hby at_188) ?_
            show Steps p.tables e below (T29.setTop (mkF m 189 #[.val (.int a1), .val (.int a2), .val (.int a3), .val (.int a4), .val (.int ee), .val (.int vv), .val (.int x0), .val (.int x1), .val (.int x2), .val (.int x3), .val (.int y0), .val (.int y2), .val (.int y1), .val (.int y3), .val (.int y0), .val (.int u1), .val (.int u2), .val (.int u3), .val (.int la), .val (.int md), .val (.int vv), .unset, .unset, .unset] [(.int (3 : Int32)), (.int md)])) _
            refine XS.icmpYes X29.here hx rfl (pc0 := 189) (pc' := 196) rfl (hb hby at_189) rfl (XT.ii_ne_t c46) (by decide) (by decide) ?_
            exact Steps.refl _
  clear h_val
  have hla := c_and ee (3 : Int32) (by decide)
  rw [← h_la] at hla
  have e3 : (3 : Int32).toInt = 3 := by decide
  have S48 : Steps p.tables e below Ω (T29.setTop (mkF m 197 #[.val (.int a1), .val (.int a2), .val (.int a3), .val (.int a4), .val (.int ee), .val (.int vv), .val (.int x0), .val (.int x1), .val (.int x2), .val (.int x3), .val (.int y0), .val (.int y2), .val (.int y1), .val (.int y3), .val (.int y0), .val (.int u1), .val (.int u2), .val (.int u3), .val (.int la), .val (.int md), .val (.int val), .unset, .unset, .unset] [(.int (4 : Int32))])) := by
    refine S47.trans ?_
    refine XS.iconst X29.here hx rfl (hb hby at_196) ?_
    exact Steps.refl _
  obtain ⟨T49, h49, k49, X49, e49, E49, A49, st49⟩ := newP X29 hx hZ (hw _ (List.mem_of_getElem? (i := 7) rfl)) e29 (g := (mkF m 197 #[.val (.int a1), .val (.int a2), .val (.int a3), .val (.int a4), .val (.int ee), .val (.int vv), .val (.int x0), .val (.int x1), .val (.int x2), .val (.int x3), .val (.int y0), .val (.int y2), .val (.int y1), .val (.int y3), .val (.int y0), .val (.int u1), .val (.int u2), .val (.int u3), .val (.int la), .val (.int md), .val (.int val), .unset, .unset, .unset] [(.int (4 : Int32))])) rfl (hb hby at_197) rfl (by decide) (cap := 4) (by decide) (by decide) (by decide) (by decide)
  obtain ⟨b, s_b⟩ : ∃ z, z = h0.size := ⟨_, rfl⟩
  rw [← s_b] at A49 st49
  have g_b : n0 ≤ b := Nat.le_trans Z0 (Nat.le_of_eq s_b.symm)
  have S50 : Steps p.tables e below Ω (T49.setTop (mkF m 199 #[.val (.int a1), .val (.int a2), .val (.int a3), .val (.int a4), .val (.int ee), .val (.int vv), .val (.int x0), .val (.int x1), .val (.int x2), .val (.int x3), .val (.int y0), .val (.int y2), .val (.int y1), .val (.int y3), .val (.int y0), .val (.int u1), .val (.int u2), .val (.int u3), .val (.int la), .val (.int md), .val (.int val), .unset, .unset, .unset] [(.ref b)])) := S48.trans (st49 _ (Steps.refl _))
  have V0 : LA Z h49 b .int [(.int (0 : Int32)), (.int (0 : Int32)), (.int (0 : Int32)), (.int (0 : Int32))] := LA.new A49 4 rfl
  have S51 : Steps p.tables e below Ω (T49.setTop (mkF m 206 #[.val (.int a1), .val (.int a2), .val (.int a3), .val (.int a4), .val (.int ee), .val (.int vv), .val (.int x0), .val (.int x1), .val (.int x2), .val (.int x3), .val (.int y0), .val (.int y2), .val (.int y1), .val (.int y3), .val (.int y0), .val (.int u1), .val (.int u2), .val (.int u3), .val (.int la), .val (.int md), .val (.int val), .val (.ref b), .unset, .unset] [(.int y0), (.int (0 : Int32)), (.ref b)])) := by
    refine S50.trans ?_
    refine XS.astore X49.here hx rfl (hb hby at_199) rfl rfl (l' := #[.val (.int a1), .val (.int a2), .val (.int a3), .val (.int a4), .val (.int ee), .val (.int vv), .val (.int x0), .val (.int x1), .val (.int x2), .val (.int x3), .val (.int y0), .val (.int y2), .val (.int y1), .val (.int y3), .val (.int y0), .val (.int u1), .val (.int u2), .val (.int u3), .val (.int la), .val (.int md), .val (.int val), .val (.ref b), .unset, .unset]) rfl ?_
    show Steps p.tables e below (T49.setTop (mkF m 201 #[.val (.int a1), .val (.int a2), .val (.int a3), .val (.int a4), .val (.int ee), .val (.int vv), .val (.int x0), .val (.int x1), .val (.int x2), .val (.int x3), .val (.int y0), .val (.int y2), .val (.int y1), .val (.int y3), .val (.int y0), .val (.int u1), .val (.int u2), .val (.int u3), .val (.int la), .val (.int md), .val (.int val), .val (.ref b), .unset, .unset] [])) _
    refine XS.aload X49.here hx rfl (hb hby at_201) rfl rfl ?_
    show Steps p.tables e below (T49.setTop (mkF m 203 #[.val (.int a1), .val (.int a2), .val (.int a3), .val (.int a4), .val (.int ee), .val (.int vv), .val (.int x0), .val (.int x1), .val (.int x2), .val (.int x3), .val (.int y0), .val (.int y2), .val (.int y1), .val (.int y3), .val (.int y0), .val (.int u1), .val (.int u2), .val (.int u3), .val (.int la), .val (.int md), .val (.int val), .val (.ref b), .unset, .unset] [(.ref b)])) _
    refine XS.iconst X49.here hx rfl (hb hby at_203) ?_
    show Steps p.tables e below (T49.setTop (mkF m 204 #[.val (.int a1), .val (.int a2), .val (.int a3), .val (.int a4), .val (.int ee), .val (.int vv), .val (.int x0), .val (.int x1), .val (.int x2), .val (.int x3), .val (.int y0), .val (.int y2), .val (.int y1), .val (.int y3), .val (.int y0), .val (.int u1), .val (.int u2), .val (.int u3), .val (.int la), .val (.int md), .val (.int val), .val (.ref b), .unset, .unset] [(.int (0 : Int32)), (.ref b)])) _
    refine XS.iload X49.here hx rfl (hb hby at_204) rfl ?_
    exact Steps.refl _
  obtain ⟨T52, h52, X52, e52, W52, V52', st52⟩ := own_stI X49 hx hZ e49 V0 (j := (0 : Int32)) (i := 0) rfl ⟨by decide, Nat.le_of_ble_eq_true rfl⟩ (g := (mkF m 206 #[.val (.int a1), .val (.int a2), .val (.int a3), .val (.int a4), .val (.int ee), .val (.int vv), .val (.int x0), .val (.int x1), .val (.int x2), .val (.int x3), .val (.int y0), .val (.int y2), .val (.int y1), .val (.int y3), .val (.int y0), .val (.int u1), .val (.int u2), .val (.int u3), .val (.int la), .val (.int md), .val (.int val), .val (.ref b), .unset, .unset] [(.int y0), (.int (0 : Int32)), (.ref b)])) rfl rfl (hb hby at_206)
  have V52 : LA Z h52 b .int [(.int y0), (.int (0 : Int32)), (.int (0 : Int32)), (.int (0 : Int32))] := V52'
  have S53 : Steps p.tables e below Ω (T52.setTop (mkF m 207 #[.val (.int a1), .val (.int a2), .val (.int a3), .val (.int a4), .val (.int ee), .val (.int vv), .val (.int x0), .val (.int x1), .val (.int x2), .val (.int x3), .val (.int y0), .val (.int y2), .val (.int y1), .val (.int y3), .val (.int y0), .val (.int u1), .val (.int u2), .val (.int u3), .val (.int la), .val (.int md), .val (.int val), .val (.ref b), .unset, .unset] [])) := S51.trans (st52 _ (Steps.refl _))
  have N52 := Fr.snoc X52 N29 g_b
  have S54 : Steps p.tables e below Ω (T52.setTop (mkF m 212 #[.val (.int a1), .val (.int a2), .val (.int a3), .val (.int a4), .val (.int ee), .val (.int vv), .val (.int x0), .val (.int x1), .val (.int x2), .val (.int x3), .val (.int y0), .val (.int y2), .val (.int y1), .val (.int y3), .val (.int y0), .val (.int u1), .val (.int u2), .val (.int u3), .val (.int la), .val (.int md), .val (.int val), .val (.ref b), .unset, .unset] [(.int u1), (.int (1 : Int32)), (.ref b)])) := by
    refine S53.trans ?_
    refine XS.aload X52.here hx rfl (hb hby at_207) rfl rfl ?_
    show Steps p.tables e below (T52.setTop (mkF m 209 #[.val (.int a1), .val (.int a2), .val (.int a3), .val (.int a4), .val (.int ee), .val (.int vv), .val (.int x0), .val (.int x1), .val (.int x2), .val (.int x3), .val (.int y0), .val (.int y2), .val (.int y1), .val (.int y3), .val (.int y0), .val (.int u1), .val (.int u2), .val (.int u3), .val (.int la), .val (.int md), .val (.int val), .val (.ref b), .unset, .unset] [(.ref b)])) _
    refine XS.iconst X52.here hx rfl (hb hby at_209) ?_
    show Steps p.tables e below (T52.setTop (mkF m 210 #[.val (.int a1), .val (.int a2), .val (.int a3), .val (.int a4), .val (.int ee), .val (.int vv), .val (.int x0), .val (.int x1), .val (.int x2), .val (.int x3), .val (.int y0), .val (.int y2), .val (.int y1), .val (.int y3), .val (.int y0), .val (.int u1), .val (.int u2), .val (.int u3), .val (.int la), .val (.int md), .val (.int val), .val (.ref b), .unset, .unset] [(.int (1 : Int32)), (.ref b)])) _
    refine XS.iload X52.here hx rfl (hb hby at_210) rfl ?_
    exact Steps.refl _
  obtain ⟨T55, h55, X55, e55, W55, V55', st55⟩ := own_stI X52 hx hZ e52 V52 (j := (1 : Int32)) (i := 1) rfl ⟨by decide, Nat.le_of_ble_eq_true rfl⟩ (g := (mkF m 212 #[.val (.int a1), .val (.int a2), .val (.int a3), .val (.int a4), .val (.int ee), .val (.int vv), .val (.int x0), .val (.int x1), .val (.int x2), .val (.int x3), .val (.int y0), .val (.int y2), .val (.int y1), .val (.int y3), .val (.int y0), .val (.int u1), .val (.int u2), .val (.int u3), .val (.int la), .val (.int md), .val (.int val), .val (.ref b), .unset, .unset] [(.int u1), (.int (1 : Int32)), (.ref b)])) rfl rfl (hb hby at_212)
  have V55 : LA Z h55 b .int [(.int y0), (.int u1), (.int (0 : Int32)), (.int (0 : Int32))] := V55'
  have S56 : Steps p.tables e below Ω (T55.setTop (mkF m 213 #[.val (.int a1), .val (.int a2), .val (.int a3), .val (.int a4), .val (.int ee), .val (.int vv), .val (.int x0), .val (.int x1), .val (.int x2), .val (.int x3), .val (.int y0), .val (.int y2), .val (.int y1), .val (.int y3), .val (.int y0), .val (.int u1), .val (.int u2), .val (.int u3), .val (.int la), .val (.int md), .val (.int val), .val (.ref b), .unset, .unset] [])) := S54.trans (st55 _ (Steps.refl _))
  have N55 := Fr.snoc X55 N52 g_b
  have S57 : Steps p.tables e below Ω (T55.setTop (mkF m 218 #[.val (.int a1), .val (.int a2), .val (.int a3), .val (.int a4), .val (.int ee), .val (.int vv), .val (.int x0), .val (.int x1), .val (.int x2), .val (.int x3), .val (.int y0), .val (.int y2), .val (.int y1), .val (.int y3), .val (.int y0), .val (.int u1), .val (.int u2), .val (.int u3), .val (.int la), .val (.int md), .val (.int val), .val (.ref b), .unset, .unset] [(.int u2), (.int (2 : Int32)), (.ref b)])) := by
    refine S56.trans ?_
    refine XS.aload X55.here hx rfl (hb hby at_213) rfl rfl ?_
    show Steps p.tables e below (T55.setTop (mkF m 215 #[.val (.int a1), .val (.int a2), .val (.int a3), .val (.int a4), .val (.int ee), .val (.int vv), .val (.int x0), .val (.int x1), .val (.int x2), .val (.int x3), .val (.int y0), .val (.int y2), .val (.int y1), .val (.int y3), .val (.int y0), .val (.int u1), .val (.int u2), .val (.int u3), .val (.int la), .val (.int md), .val (.int val), .val (.ref b), .unset, .unset] [(.ref b)])) _
    refine XS.iconst X55.here hx rfl (hb hby at_215) ?_
    show Steps p.tables e below (T55.setTop (mkF m 216 #[.val (.int a1), .val (.int a2), .val (.int a3), .val (.int a4), .val (.int ee), .val (.int vv), .val (.int x0), .val (.int x1), .val (.int x2), .val (.int x3), .val (.int y0), .val (.int y2), .val (.int y1), .val (.int y3), .val (.int y0), .val (.int u1), .val (.int u2), .val (.int u3), .val (.int la), .val (.int md), .val (.int val), .val (.ref b), .unset, .unset] [(.int (2 : Int32)), (.ref b)])) _
    refine XS.iload X55.here hx rfl (hb hby at_216) rfl ?_
    exact Steps.refl _
  obtain ⟨T58, h58, X58, e58, W58, V58', st58⟩ := own_stI X55 hx hZ e55 V55 (j := (2 : Int32)) (i := 2) rfl ⟨by decide, Nat.le_of_ble_eq_true rfl⟩ (g := (mkF m 218 #[.val (.int a1), .val (.int a2), .val (.int a3), .val (.int a4), .val (.int ee), .val (.int vv), .val (.int x0), .val (.int x1), .val (.int x2), .val (.int x3), .val (.int y0), .val (.int y2), .val (.int y1), .val (.int y3), .val (.int y0), .val (.int u1), .val (.int u2), .val (.int u3), .val (.int la), .val (.int md), .val (.int val), .val (.ref b), .unset, .unset] [(.int u2), (.int (2 : Int32)), (.ref b)])) rfl rfl (hb hby at_218)
  have V58 : LA Z h58 b .int [(.int y0), (.int u1), (.int u2), (.int (0 : Int32))] := V58'
  have S59 : Steps p.tables e below Ω (T58.setTop (mkF m 219 #[.val (.int a1), .val (.int a2), .val (.int a3), .val (.int a4), .val (.int ee), .val (.int vv), .val (.int x0), .val (.int x1), .val (.int x2), .val (.int x3), .val (.int y0), .val (.int y2), .val (.int y1), .val (.int y3), .val (.int y0), .val (.int u1), .val (.int u2), .val (.int u3), .val (.int la), .val (.int md), .val (.int val), .val (.ref b), .unset, .unset] [])) := S57.trans (st58 _ (Steps.refl _))
  have N58 := Fr.snoc X58 N55 g_b
  have S60 : Steps p.tables e below Ω (T58.setTop (mkF m 224 #[.val (.int a1), .val (.int a2), .val (.int a3), .val (.int a4), .val (.int ee), .val (.int vv), .val (.int x0), .val (.int x1), .val (.int x2), .val (.int x3), .val (.int y0), .val (.int y2), .val (.int y1), .val (.int y3), .val (.int y0), .val (.int u1), .val (.int u2), .val (.int u3), .val (.int la), .val (.int md), .val (.int val), .val (.ref b), .unset, .unset] [(.int u3), (.int (3 : Int32)), (.ref b)])) := by
    refine S59.trans ?_
    refine XS.aload X58.here hx rfl (hb hby at_219) rfl rfl ?_
    show Steps p.tables e below (T58.setTop (mkF m 221 #[.val (.int a1), .val (.int a2), .val (.int a3), .val (.int a4), .val (.int ee), .val (.int vv), .val (.int x0), .val (.int x1), .val (.int x2), .val (.int x3), .val (.int y0), .val (.int y2), .val (.int y1), .val (.int y3), .val (.int y0), .val (.int u1), .val (.int u2), .val (.int u3), .val (.int la), .val (.int md), .val (.int val), .val (.ref b), .unset, .unset] [(.ref b)])) _
    refine XS.iconst X58.here hx rfl (hb hby at_221) ?_
    show Steps p.tables e below (T58.setTop (mkF m 222 #[.val (.int a1), .val (.int a2), .val (.int a3), .val (.int a4), .val (.int ee), .val (.int vv), .val (.int x0), .val (.int x1), .val (.int x2), .val (.int x3), .val (.int y0), .val (.int y2), .val (.int y1), .val (.int y3), .val (.int y0), .val (.int u1), .val (.int u2), .val (.int u3), .val (.int la), .val (.int md), .val (.int val), .val (.ref b), .unset, .unset] [(.int (3 : Int32)), (.ref b)])) _
    refine XS.iload X58.here hx rfl (hb hby at_222) rfl ?_
    exact Steps.refl _
  obtain ⟨T61, h61, X61, e61, W61, V61', st61⟩ := own_stI X58 hx hZ e58 V58 (j := (3 : Int32)) (i := 3) rfl ⟨by decide, Nat.le_of_ble_eq_true rfl⟩ (g := (mkF m 224 #[.val (.int a1), .val (.int a2), .val (.int a3), .val (.int a4), .val (.int ee), .val (.int vv), .val (.int x0), .val (.int x1), .val (.int x2), .val (.int x3), .val (.int y0), .val (.int y2), .val (.int y1), .val (.int y3), .val (.int y0), .val (.int u1), .val (.int u2), .val (.int u3), .val (.int la), .val (.int md), .val (.int val), .val (.ref b), .unset, .unset] [(.int u3), (.int (3 : Int32)), (.ref b)])) rfl rfl (hb hby at_224)
  have V61 : LA Z h61 b .int [(.int y0), (.int u1), (.int u2), (.int u3)] := V61'
  have S62 : Steps p.tables e below Ω (T61.setTop (mkF m 225 #[.val (.int a1), .val (.int a2), .val (.int a3), .val (.int a4), .val (.int ee), .val (.int vv), .val (.int x0), .val (.int x1), .val (.int x2), .val (.int x3), .val (.int y0), .val (.int y2), .val (.int y1), .val (.int y3), .val (.int y0), .val (.int u1), .val (.int u2), .val (.int u3), .val (.int la), .val (.int md), .val (.int val), .val (.ref b), .unset, .unset] [])) := S60.trans (st61 _ (Steps.refl _))
  have N61 := Fr.snoc X61 N58 g_b
  obtain ⟨f, hf⟩ : ∃ f : Nat → Int32, f = fun i => [y0, u1, u2, u3].getD i 0 := ⟨_, rfl⟩
  have AA : LA Z h61 b .int ((List.range 4).map fun i => Value.int (f i)) := by rw [hf]; exact V61
  have f0 : (f 0).toInt = y0.toInt := by rw [hf]; rfl
  have f1 : (f 1).toInt = u1.toInt := by rw [hf]; rfl
  have f2 : (f 2).toInt = u2.toInt := by rw [hf]; rfl
  have f3 : (f 3).toInt = u3.toInt := by rw [hf]; rfl
  have srt : ∀ i j : Nat, i ≤ j → j < 4 → (f i).toInt ≤ (f j).toInt := fun i j hij hj => by
    have hi : i = 0 ∨ i = 1 ∨ i = 2 ∨ i = 3 := by omega
    have hj : j = 0 ∨ j = 1 ∨ j = 2 ∨ j = 3 := by omega
    rcases hi with rfl | rfl | rfl | rfl <;> rcases hj with rfl | rfl | rfl | rfl <;> omega
  have S63 : Steps p.tables e below Ω (T61.setTop (mkF m 231 #[.val (.int a1), .val (.int a2), .val (.int a3), .val (.int a4), .val (.int ee), .val (.int vv), .val (.int x0), .val (.int x1), .val (.int x2), .val (.int x3), .val (.int y0), .val (.int y2), .val (.int y1), .val (.int y3), .val (.int y0), .val (.int u1), .val (.int u2), .val (.int u3), .val (.int la), .val (.int md), .val (.int val), .val (.ref b), .unset, .unset] [(.int val), (.int la), (.ref b)])) := by
    refine S62.trans ?_
    refine XS.aload X61.here hx rfl (hb hby at_225) rfl rfl ?_
    show Steps p.tables e below (T61.setTop (mkF m 227 #[.val (.int a1), .val (.int a2), .val (.int a3), .val (.int a4), .val (.int ee), .val (.int vv), .val (.int x0), .val (.int x1), .val (.int x2), .val (.int x3), .val (.int y0), .val (.int y2), .val (.int y1), .val (.int y3), .val (.int y0), .val (.int u1), .val (.int u2), .val (.int u3), .val (.int la), .val (.int md), .val (.int val), .val (.ref b), .unset, .unset] [(.ref b)])) _
    refine XS.iload X61.here hx rfl (hb hby at_227) rfl ?_
    show Steps p.tables e below (T61.setTop (mkF m 229 #[.val (.int a1), .val (.int a2), .val (.int a3), .val (.int a4), .val (.int ee), .val (.int vv), .val (.int x0), .val (.int x1), .val (.int x2), .val (.int x3), .val (.int y0), .val (.int y2), .val (.int y1), .val (.int y3), .val (.int y0), .val (.int u1), .val (.int u2), .val (.int u3), .val (.int la), .val (.int md), .val (.int val), .val (.ref b), .unset, .unset] [(.int la), (.ref b)])) _
    refine XS.iload X61.here hx rfl (hb hby at_229) rfl ?_
    exact Steps.refl _
  obtain ⟨_, _, ⟨T64, L64, k64, n64⟩, -, X64, ⟨Lc64, hQ64, l64, y64, z64⟩, st64⟩ := Jvm.LawKit.callS X61 hx (y := (⟨"com/example/arcspan/arcspan/index/SortedInts", "lastAtOrBefore", "([III)I"⟩ : MethodName)) hown (mvT hZ (hw _ (List.mem_of_getElem? (i := 8) rfl))) (mvT hZ (hw _ (List.mem_of_getElem? (i := 9) rfl))) (mvT hZ (hw _ (List.mem_of_getElem? (i := 10) rfl))) (mvT hZ (hw _ (List.mem_of_getElem? (i := 11) rfl))) (by decide) (backOf (W := 0) (rm3 l Z a0 hw [] b la val f h61 n0 (Nat.le_trans (Nat.le_trans (Nat.le_trans (Nat.le_trans (Nat.le_trans Z0 E49.1) (Keep.of_wr W52).1) (Keep.of_wr W55).1) (Keep.of_wr W58).1) (Keep.of_wr W61).1) AA hla.1 (by omega) srt) hZ (hw _ (List.mem_of_getElem? (i := 11) rfl)) (hw _ (List.mem_of_getElem? (i := 10) rfl)) (by decide) (by decide)) (g := (mkF m 231 #[.val (.int a1), .val (.int a2), .val (.int a3), .val (.int a4), .val (.int ee), .val (.int vv), .val (.int x0), .val (.int x1), .val (.int x2), .val (.int x3), .val (.int y0), .val (.int y2), .val (.int y1), .val (.int y3), .val (.int y0), .val (.int u1), .val (.int u2), .val (.int u3), .val (.int la), .val (.int md), .val (.int val), .val (.ref b), .unset, .unset] [(.int val), (.int la), (.ref b)])) rfl (by rw [hml]; rfl) (argsL := [(.ref b), (.int la), (.int val)]) (rest := []) (lenOf pd_1 rfl) rfl (by show 2 * 0 + _ ≤ _; exact Nat.le_of_eq rfl) (hb hby at_231) (fun _ _ => ⟨rfl, e61, (by decide : 1 + 0 ≤ _), (by decide : 4 + 0 ≤ _)⟩)
  dsimp only [Pt.U, Pt.locs, Pt.cells, Pt.slots] at X64 l64 y64 z64 st64 hQ64
  subst l64 y64 z64
  obtain ⟨r, rfl, N64q, e64, r1, r2, r3, r4⟩ := hQ64
  have N64 := Fr.app N61 N64q
  have S65 : Steps p.tables e below Ω (T64.setTop (mkF m 234 #[.val (.int a1), .val (.int a2), .val (.int a3), .val (.int a4), .val (.int ee), .val (.int vv), .val (.int x0), .val (.int x1), .val (.int x2), .val (.int x3), .val (.int y0), .val (.int y2), .val (.int y1), .val (.int y3), .val (.int y0), .val (.int u1), .val (.int u2), .val (.int u3), .val (.int la), .val (.int md), .val (.int val), .val (.ref b), .unset, .unset] [(.int r)])) := S63.trans (st64 _ (Steps.refl _))
  have r3_1 := r3 1 (by decide)
  have r4_1 := r4 1
  have r3_2 := r3 2 (by decide)
  have r4_2 := r4 2
  have r3_3 := r3 3 (by decide)
  have r4_3 := r4 3
  clear r3 r4 srt
  have S66 : Steps p.tables e below Ω (T64.setTop (mkF m 239 #[.val (.int a1), .val (.int a2), .val (.int a3), .val (.int a4), .val (.int ee), .val (.int vv), .val (.int x0), .val (.int x1), .val (.int x2), .val (.int x3), .val (.int y0), .val (.int y2), .val (.int y1), .val (.int y3), .val (.int y0), .val (.int u1), .val (.int u2), .val (.int u3), .val (.int la), .val (.int md), .val (.int val), .val (.ref b), .val (.int r), .unset] [(.int (3 : Int32)), (.int la)])) := by
    refine S65.trans ?_
    refine XS.istore X64.here hx rfl (hb hby at_234) rfl (l' := #[.val (.int a1), .val (.int a2), .val (.int a3), .val (.int a4), .val (.int ee), .val (.int vv), .val (.int x0), .val (.int x1), .val (.int x2), .val (.int x3), .val (.int y0), .val (.int y2), .val (.int y1), .val (.int y3), .val (.int y0), .val (.int u1), .val (.int u2), .val (.int u3), .val (.int la), .val (.int md), .val (.int val), .val (.ref b), .val (.int r), .unset]) rfl ?_
    show Steps p.tables e below (T64.setTop (mkF m 236 #[.val (.int a1), .val (.int a2), .val (.int a3), .val (.int a4), .val (.int ee), .val (.int vv), .val (.int x0), .val (.int x1), .val (.int x2), .val (.int x3), .val (.int y0), .val (.int y2), .val (.int y1), .val (.int y3), .val (.int y0), .val (.int u1), .val (.int u2), .val (.int u3), .val (.int la), .val (.int md), .val (.int val), .val (.ref b), .val (.int r), .unset] [])) _
    refine XS.iload X64.here hx rfl (hb hby at_236) rfl ?_
    show Steps p.tables e below (T64.setTop (mkF m 238 #[.val (.int a1), .val (.int a2), .val (.int a3), .val (.int a4), .val (.int ee), .val (.int vv), .val (.int x0), .val (.int x1), .val (.int x2), .val (.int x3), .val (.int y0), .val (.int y2), .val (.int y1), .val (.int y3), .val (.int y0), .val (.int u1), .val (.int u2), .val (.int u3), .val (.int la), .val (.int md), .val (.int val), .val (.ref b), .val (.int r), .unset] [(.int la)])) _
    refine XS.iconst X64.here hx rfl (hb hby at_238) ?_
    exact Steps.refl _
  by_cases h67 : la < (3 : Int32)
  · have qh67 : la.toInt < 3 := Int32.lt_iff_toInt_lt.mp h67
    have S68 : Steps p.tables e below Ω (T64.setTop (mkF m 258 #[.val (.int a1), .val (.int a2), .val (.int a3), .val (.int a4), .val (.int ee), .val (.int vv), .val (.int x0), .val (.int x1), .val (.int x2), .val (.int x3), .val (.int y0), .val (.int y2), .val (.int y1), .val (.int y3), .val (.int y0), .val (.int u1), .val (.int u2), .val (.int u3), .val (.int la), .val (.int md), .val (.int val), .val (.ref b), .val (.int r), .unset] [(.int (2 : Int32)), (.int la)])) := by
      refine S66.trans ?_
      refine XS.icmpYes X64.here hx rfl (pc0 := 239) (pc' := 255) rfl (hb hby at_239) rfl (XT.ii_lt_t h67) (by decide) (by decide) ?_
      show Steps p.tables e below (T64.setTop (mkF m 255 #[.val (.int a1), .val (.int a2), .val (.int a3), .val (.int a4), .val (.int ee), .val (.int vv), .val (.int x0), .val (.int x1), .val (.int x2), .val (.int x3), .val (.int y0), .val (.int y2), .val (.int y1), .val (.int y3), .val (.int y0), .val (.int u1), .val (.int u2), .val (.int u3), .val (.int la), .val (.int md), .val (.int val), .val (.ref b), .val (.int r), .unset] [])) _
      refine XS.iload X64.here hx rfl (hb hby at_255) rfl ?_
      show Steps p.tables e below (T64.setTop (mkF m 257 #[.val (.int a1), .val (.int a2), .val (.int a3), .val (.int a4), .val (.int ee), .val (.int vv), .val (.int x0), .val (.int x1), .val (.int x2), .val (.int x3), .val (.int y0), .val (.int y2), .val (.int y1), .val (.int y3), .val (.int y0), .val (.int u1), .val (.int u2), .val (.int u3), .val (.int la), .val (.int md), .val (.int val), .val (.ref b), .val (.int r), .unset] [(.int la)])) _
      refine XS.iconst X64.here hx rfl (hb hby at_257) ?_
      exact Steps.refl _
    by_cases h69 : la < (2 : Int32)
    · have qh69 : la.toInt < 2 := Int32.lt_iff_toInt_lt.mp h69
      have S70 : Steps p.tables e below Ω (T64.setTop (mkF m 277 #[.val (.int a1), .val (.int a2), .val (.int a3), .val (.int a4), .val (.int ee), .val (.int vv), .val (.int x0), .val (.int x1), .val (.int x2), .val (.int x3), .val (.int y0), .val (.int y2), .val (.int y1), .val (.int y3), .val (.int y0), .val (.int u1), .val (.int u2), .val (.int u3), .val (.int la), .val (.int md), .val (.int val), .val (.ref b), .val (.int r), .unset] [(.int (1 : Int32)), (.int la)])) := by
        refine S68.trans ?_
        refine XS.icmpYes X64.here hx rfl (pc0 := 258) (pc' := 274) rfl (hb hby at_258) rfl (XT.ii_lt_t h69) (by decide) (by decide) ?_
        show Steps p.tables e below (T64.setTop (mkF m 274 #[.val (.int a1), .val (.int a2), .val (.int a3), .val (.int a4), .val (.int ee), .val (.int vv), .val (.int x0), .val (.int x1), .val (.int x2), .val (.int x3), .val (.int y0), .val (.int y2), .val (.int y1), .val (.int y3), .val (.int y0), .val (.int u1), .val (.int u2), .val (.int u3), .val (.int la), .val (.int md), .val (.int val), .val (.ref b), .val (.int r), .unset] [])) _
        refine XS.iload X64.here hx rfl (hb hby at_274) rfl ?_
        show Steps p.tables e below (T64.setTop (mkF m 276 #[.val (.int a1), .val (.int a2), .val (.int a3), .val (.int a4), .val (.int ee), .val (.int vv), .val (.int x0), .val (.int x1), .val (.int x2), .val (.int x3), .val (.int y0), .val (.int y2), .val (.int y1), .val (.int y3), .val (.int y0), .val (.int u1), .val (.int u2), .val (.int u3), .val (.int la), .val (.int md), .val (.int val), .val (.ref b), .val (.int r), .unset] [(.int la)])) _
        refine XS.iconst X64.here hx rfl (hb hby at_276) ?_
        exact Steps.refl _
      by_cases h71 : la < (1 : Int32)
      · have qh71 : la.toInt < 1 := Int32.lt_iff_toInt_lt.mp h71
        have S72 : Steps p.tables e below Ω (T64.setTop (mkF m 300 #[.val (.int a1), .val (.int a2), .val (.int a3), .val (.int a4), .val (.int ee), .val (.int vv), .val (.int x0), .val (.int x1), .val (.int x2), .val (.int x3), .val (.int y0), .val (.int y2), .val (.int y1), .val (.int y3), .val (.int y0), .val (.int u1), .val (.int u2), .val (.int u3), .val (.int la), .val (.int md), .val (.int val), .val (.ref b), .val (.int r), .val (.int (0 : Int32))] [(.int (0 : Int32)), (.int r)])) := by
          refine S70.trans ?_
          refine XS.icmpYes X64.here hx rfl (pc0 := 277) (pc' := 293) rfl (hb hby at_277) rfl (XT.ii_lt_t h71) (by decide) (by decide) ?_
          show Steps p.tables e below (T64.setTop (mkF m 293 #[.val (.int a1), .val (.int a2), .val (.int a3), .val (.int a4), .val (.int ee), .val (.int vv), .val (.int x0), .val (.int x1), .val (.int x2), .val (.int x3), .val (.int y0), .val (.int y2), .val (.int y1), .val (.int y3), .val (.int y0), .val (.int u1), .val (.int u2), .val (.int u3), .val (.int la), .val (.int md), .val (.int val), .val (.ref b), .val (.int r), .unset] [])) _
          refine XS.iconst X64.here hx rfl (hb hby at_293) ?_
          show Steps p.tables e below (T64.setTop (mkF m 294 #[.val (.int a1), .val (.int a2), .val (.int a3), .val (.int a4), .val (.int ee), .val (.int vv), .val (.int x0), .val (.int x1), .val (.int x2), .val (.int x3), .val (.int y0), .val (.int y2), .val (.int y1), .val (.int y3), .val (.int y0), .val (.int u1), .val (.int u2), .val (.int u3), .val (.int la), .val (.int md), .val (.int val), .val (.ref b), .val (.int r), .unset] [(.int (0 : Int32))])) _
          refine XS.istore X64.here hx rfl (hb hby at_294) rfl (l' := #[.val (.int a1), .val (.int a2), .val (.int a3), .val (.int a4), .val (.int ee), .val (.int vv), .val (.int x0), .val (.int x1), .val (.int x2), .val (.int x3), .val (.int y0), .val (.int y2), .val (.int y1), .val (.int y3), .val (.int y0), .val (.int u1), .val (.int u2), .val (.int u3), .val (.int la), .val (.int md), .val (.int val), .val (.ref b), .val (.int r), .val (.int (0 : Int32))]) rfl ?_
          show Steps p.tables e below (T64.setTop (mkF m 296 #[.val (.int a1), .val (.int a2), .val (.int a3), .val (.int a4), .val (.int ee), .val (.int vv), .val (.int x0), .val (.int x1), .val (.int x2), .val (.int x3), .val (.int y0), .val (.int y2), .val (.int y1), .val (.int y3), .val (.int y0), .val (.int u1), .val (.int u2), .val (.int u3), .val (.int la), .val (.int md), .val (.int val), .val (.ref b), .val (.int r), .val (.int (0 : Int32))] [])) _
          refine XS.iload X64.here hx rfl (hb hby at_296) rfl ?_
          show Steps p.tables e below (T64.setTop (mkF m 298 #[.val (.int a1), .val (.int a2), .val (.int a3), .val (.int a4), .val (.int ee), .val (.int vv), .val (.int x0), .val (.int x1), .val (.int x2), .val (.int x3), .val (.int y0), .val (.int y2), .val (.int y1), .val (.int y3), .val (.int y0), .val (.int u1), .val (.int u2), .val (.int u3), .val (.int la), .val (.int md), .val (.int val), .val (.ref b), .val (.int r), .val (.int (0 : Int32))] [(.int r)])) _
          refine XS.iload X64.here hx rfl (hb hby at_298) rfl ?_
          exact Steps.refl _
        have S73 : Steps p.tables e below Ω (T64.setTop (mkF m 308 #[.val (.int a1), .val (.int a2), .val (.int a3), .val (.int a4), .val (.int ee), .val (.int vv), .val (.int x0), .val (.int x1), .val (.int x2), .val (.int x3), .val (.int y0), .val (.int y2), .val (.int y1), .val (.int y3), .val (.int y0), .val (.int u1), .val (.int u2), .val (.int u3), .val (.int la), .val (.int md), .val (.int val), .val (.ref b), .val (.int r), .val (.int (0 : Int32))] [(.int (1 : Int32))])) := by
          refine S72.trans ?_
          refine XS.icmpNo X64.here hx rfl (hb hby at_300) rfl (XT.ii_ne_f (Int32.toInt_inj.mp (by have e : (0 : Int32).toInt = 0 := (by decide); omega))) ?_
          show Steps p.tables e below (T64.setTop (mkF m 303 #[.val (.int a1), .val (.int a2), .val (.int a3), .val (.int a4), .val (.int ee), .val (.int vv), .val (.int x0), .val (.int x1), .val (.int x2), .val (.int x3), .val (.int y0), .val (.int y2), .val (.int y1), .val (.int y3), .val (.int y0), .val (.int u1), .val (.int u2), .val (.int u3), .val (.int la), .val (.int md), .val (.int val), .val (.ref b), .val (.int r), .val (.int (0 : Int32))] [])) _
          refine XS.iconst X64.here hx rfl (hb hby at_303) ?_
          show Steps p.tables e below (T64.setTop (mkF m 304 #[.val (.int a1), .val (.int a2), .val (.int a3), .val (.int a4), .val (.int ee), .val (.int vv), .val (.int x0), .val (.int x1), .val (.int x2), .val (.int x3), .val (.int y0), .val (.int y2), .val (.int y1), .val (.int y3), .val (.int y0), .val (.int u1), .val (.int u2), .val (.int u3), .val (.int la), .val (.int md), .val (.int val), .val (.ref b), .val (.int r), .val (.int (0 : Int32))] [(.int (1 : Int32))])) _
          refine XS.goto X64.here hx rfl (pc0 := 304) (pc' := 308) rfl (hb hby at_304) (by decide) (by decide) ?_
          exact Steps.refl _
        obtain ⟨fs, hr, hrun, hended, hW, hsame⟩ := X64.leave (v := some (.int (1 : Int32))) (fun h => by rw [Bd.returns] at h; cases h)
        have hfin : Steps p.tables e below Ω (T64.setFrames fs) := by
          refine S73.trans ?_
          exact own_retZ X64 hx Bd.returns (by decide) (hb hby at_308) hr
        rw [hΩ] at hfin
        refine ⟨_, _, hfin, hrun, hended, _, _, rfl, ?_, ⟨_, rfl⟩, hW, hsame.mono (by decide) (by decide)⟩
        show Q0 Z a1 a2 a3 a4 ee vv h0 n0 _ T64.heap _
        rw [e64]
        exact ⟨rfl, N64⟩
      · have qh71 : ¬ la.toInt < 1 := fun q => h71 (Int32.lt_iff_toInt_lt.mpr q)
        have S74 : Steps p.tables e below Ω (T64.setTop (mkF m 284 #[.val (.int a1), .val (.int a2), .val (.int a3), .val (.int a4), .val (.int ee), .val (.int vv), .val (.int x0), .val (.int x1), .val (.int x2), .val (.int x3), .val (.int y0), .val (.int y2), .val (.int y1), .val (.int y3), .val (.int y0), .val (.int u1), .val (.int u2), .val (.int u3), .val (.int la), .val (.int md), .val (.int val), .val (.ref b), .val (.int r), .unset] [(.int val), (.int u1)])) := by
          refine S70.trans ?_
          refine XS.icmpNo X64.here hx rfl (hb hby at_277) rfl (XT.ii_lt_f h71) ?_
          show Steps p.tables e below (T64.setTop (mkF m 280 #[.val (.int a1), .val (.int a2), .val (.int a3), .val (.int a4), .val (.int ee), .val (.int vv), .val (.int x0), .val (.int x1), .val (.int x2), .val (.int x3), .val (.int y0), .val (.int y2), .val (.int y1), .val (.int y3), .val (.int y0), .val (.int u1), .val (.int u2), .val (.int u3), .val (.int la), .val (.int md), .val (.int val), .val (.ref b), .val (.int r), .unset] [])) _
          refine XS.iload X64.here hx rfl (hb hby at_280) rfl ?_
          show Steps p.tables e below (T64.setTop (mkF m 282 #[.val (.int a1), .val (.int a2), .val (.int a3), .val (.int a4), .val (.int ee), .val (.int vv), .val (.int x0), .val (.int x1), .val (.int x2), .val (.int x3), .val (.int y0), .val (.int y2), .val (.int y1), .val (.int y3), .val (.int y0), .val (.int u1), .val (.int u2), .val (.int u3), .val (.int la), .val (.int md), .val (.int val), .val (.ref b), .val (.int r), .unset] [(.int u1)])) _
          refine XS.iload X64.here hx rfl (hb hby at_282) rfl ?_
          exact Steps.refl _
        by_cases h75 : val < u1
        · have qh75 : val.toInt < u1.toInt := Int32.lt_iff_toInt_lt.mp h75
          have S76 : Steps p.tables e below Ω (T64.setTop (mkF m 300 #[.val (.int a1), .val (.int a2), .val (.int a3), .val (.int a4), .val (.int ee), .val (.int vv), .val (.int x0), .val (.int x1), .val (.int x2), .val (.int x3), .val (.int y0), .val (.int y2), .val (.int y1), .val (.int y3), .val (.int y0), .val (.int u1), .val (.int u2), .val (.int u3), .val (.int la), .val (.int md), .val (.int val), .val (.ref b), .val (.int r), .val (.int (0 : Int32))] [(.int (0 : Int32)), (.int r)])) := by
            refine S74.trans ?_
            refine XS.icmpYes X64.here hx rfl (pc0 := 284) (pc' := 293) rfl (hb hby at_284) rfl (XT.ii_gt_t h75) (by decide) (by decide) ?_
            show Steps p.tables e below (T64.setTop (mkF m 293 #[.val (.int a1), .val (.int a2), .val (.int a3), .val (.int a4), .val (.int ee), .val (.int vv), .val (.int x0), .val (.int x1), .val (.int x2), .val (.int x3), .val (.int y0), .val (.int y2), .val (.int y1), .val (.int y3), .val (.int y0), .val (.int u1), .val (.int u2), .val (.int u3), .val (.int la), .val (.int md), .val (.int val), .val (.ref b), .val (.int r), .unset] [])) _
            refine XS.iconst X64.here hx rfl (hb hby at_293) ?_
            show Steps p.tables e below (T64.setTop (mkF m 294 #[.val (.int a1), .val (.int a2), .val (.int a3), .val (.int a4), .val (.int ee), .val (.int vv), .val (.int x0), .val (.int x1), .val (.int x2), .val (.int x3), .val (.int y0), .val (.int y2), .val (.int y1), .val (.int y3), .val (.int y0), .val (.int u1), .val (.int u2), .val (.int u3), .val (.int la), .val (.int md), .val (.int val), .val (.ref b), .val (.int r), .unset] [(.int (0 : Int32))])) _
            refine XS.istore X64.here hx rfl (hb hby at_294) rfl (l' := #[.val (.int a1), .val (.int a2), .val (.int a3), .val (.int a4), .val (.int ee), .val (.int vv), .val (.int x0), .val (.int x1), .val (.int x2), .val (.int x3), .val (.int y0), .val (.int y2), .val (.int y1), .val (.int y3), .val (.int y0), .val (.int u1), .val (.int u2), .val (.int u3), .val (.int la), .val (.int md), .val (.int val), .val (.ref b), .val (.int r), .val (.int (0 : Int32))]) rfl ?_
            show Steps p.tables e below (T64.setTop (mkF m 296 #[.val (.int a1), .val (.int a2), .val (.int a3), .val (.int a4), .val (.int ee), .val (.int vv), .val (.int x0), .val (.int x1), .val (.int x2), .val (.int x3), .val (.int y0), .val (.int y2), .val (.int y1), .val (.int y3), .val (.int y0), .val (.int u1), .val (.int u2), .val (.int u3), .val (.int la), .val (.int md), .val (.int val), .val (.ref b), .val (.int r), .val (.int (0 : Int32))] [])) _
            refine XS.iload X64.here hx rfl (hb hby at_296) rfl ?_
            show Steps p.tables e below (T64.setTop (mkF m 298 #[.val (.int a1), .val (.int a2), .val (.int a3), .val (.int a4), .val (.int ee), .val (.int vv), .val (.int x0), .val (.int x1), .val (.int x2), .val (.int x3), .val (.int y0), .val (.int y2), .val (.int y1), .val (.int y3), .val (.int y0), .val (.int u1), .val (.int u2), .val (.int u3), .val (.int la), .val (.int md), .val (.int val), .val (.ref b), .val (.int r), .val (.int (0 : Int32))] [(.int r)])) _
            refine XS.iload X64.here hx rfl (hb hby at_298) rfl ?_
            exact Steps.refl _
          have S77 : Steps p.tables e below Ω (T64.setTop (mkF m 308 #[.val (.int a1), .val (.int a2), .val (.int a3), .val (.int a4), .val (.int ee), .val (.int vv), .val (.int x0), .val (.int x1), .val (.int x2), .val (.int x3), .val (.int y0), .val (.int y2), .val (.int y1), .val (.int y3), .val (.int y0), .val (.int u1), .val (.int u2), .val (.int u3), .val (.int la), .val (.int md), .val (.int val), .val (.ref b), .val (.int r), .val (.int (0 : Int32))] [(.int (1 : Int32))])) := by
            refine S76.trans ?_
            refine XS.icmpNo X64.here hx rfl (hb hby at_300) rfl (XT.ii_ne_f (Int32.toInt_inj.mp (by have e : (0 : Int32).toInt = 0 := (by decide); omega))) ?_
            show Steps p.tables e below (T64.setTop (mkF m 303 #[.val (.int a1), .val (.int a2), .val (.int a3), .val (.int a4), .val (.int ee), .val (.int vv), .val (.int x0), .val (.int x1), .val (.int x2), .val (.int x3), .val (.int y0), .val (.int y2), .val (.int y1), .val (.int y3), .val (.int y0), .val (.int u1), .val (.int u2), .val (.int u3), .val (.int la), .val (.int md), .val (.int val), .val (.ref b), .val (.int r), .val (.int (0 : Int32))] [])) _
            refine XS.iconst X64.here hx rfl (hb hby at_303) ?_
            show Steps p.tables e below (T64.setTop (mkF m 304 #[.val (.int a1), .val (.int a2), .val (.int a3), .val (.int a4), .val (.int ee), .val (.int vv), .val (.int x0), .val (.int x1), .val (.int x2), .val (.int x3), .val (.int y0), .val (.int y2), .val (.int y1), .val (.int y3), .val (.int y0), .val (.int u1), .val (.int u2), .val (.int u3), .val (.int la), .val (.int md), .val (.int val), .val (.ref b), .val (.int r), .val (.int (0 : Int32))] [(.int (1 : Int32))])) _
            refine XS.goto X64.here hx rfl (pc0 := 304) (pc' := 308) rfl (hb hby at_304) (by decide) (by decide) ?_
            exact Steps.refl _
          obtain ⟨fs, hr, hrun, hended, hW, hsame⟩ := X64.leave (v := some (.int (1 : Int32))) (fun h => by rw [Bd.returns] at h; cases h)
          have hfin : Steps p.tables e below Ω (T64.setFrames fs) := by
            refine S77.trans ?_
            exact own_retZ X64 hx Bd.returns (by decide) (hb hby at_308) hr
          rw [hΩ] at hfin
          refine ⟨_, _, hfin, hrun, hended, _, _, rfl, ?_, ⟨_, rfl⟩, hW, hsame.mono (by decide) (by decide)⟩
          show Q0 Z a1 a2 a3 a4 ee vv h0 n0 _ T64.heap _
          rw [e64]
          exact ⟨rfl, N64⟩
        · have qh75 : ¬ val.toInt < u1.toInt := fun q => h75 (Int32.lt_iff_toInt_lt.mpr q)
          have S78 : Steps p.tables e below Ω (T64.setTop (mkF m 300 #[.val (.int a1), .val (.int a2), .val (.int a3), .val (.int a4), .val (.int ee), .val (.int vv), .val (.int x0), .val (.int x1), .val (.int x2), .val (.int x3), .val (.int y0), .val (.int y2), .val (.int y1), .val (.int y3), .val (.int y0), .val (.int u1), .val (.int u2), .val (.int u3), .val (.int la), .val (.int md), .val (.int val), .val (.ref b), .val (.int r), .val (.int (1 : Int32))] [(.int (1 : Int32)), (.int r)])) := by
            refine S74.trans ?_
            refine XS.icmpNo X64.here hx rfl (hb hby at_284) rfl (XT.ii_gt_f h75) ?_
            show Steps p.tables e below (T64.setTop (mkF m 287 #[.val (.int a1), .val (.int a2), .val (.int a3), .val (.int a4), .val (.int ee), .val (.int vv), .val (.int x0), .val (.int x1), .val (.int x2), .val (.int x3), .val (.int y0), .val (.int y2), .val (.int y1), .val (.int y3), .val (.int y0), .val (.int u1), .val (.int u2), .val (.int u3), .val (.int la), .val (.int md), .val (.int val), .val (.ref b), .val (.int r), .unset] [])) _
            refine XS.iconst X64.here hx rfl (hb hby at_287) ?_
            show Steps p.tables e below (T64.setTop (mkF m 288 #[.val (.int a1), .val (.int a2), .val (.int a3), .val (.int a4), .val (.int ee), .val (.int vv), .val (.int x0), .val (.int x1), .val (.int x2), .val (.int x3), .val (.int y0), .val (.int y2), .val (.int y1), .val (.int y3), .val (.int y0), .val (.int u1), .val (.int u2), .val (.int u3), .val (.int la), .val (.int md), .val (.int val), .val (.ref b), .val (.int r), .unset] [(.int (1 : Int32))])) _
            refine XS.istore X64.here hx rfl (hb hby at_288) rfl (l' := #[.val (.int a1), .val (.int a2), .val (.int a3), .val (.int a4), .val (.int ee), .val (.int vv), .val (.int x0), .val (.int x1), .val (.int x2), .val (.int x3), .val (.int y0), .val (.int y2), .val (.int y1), .val (.int y3), .val (.int y0), .val (.int u1), .val (.int u2), .val (.int u3), .val (.int la), .val (.int md), .val (.int val), .val (.ref b), .val (.int r), .val (.int (1 : Int32))]) rfl ?_
            show Steps p.tables e below (T64.setTop (mkF m 290 #[.val (.int a1), .val (.int a2), .val (.int a3), .val (.int a4), .val (.int ee), .val (.int vv), .val (.int x0), .val (.int x1), .val (.int x2), .val (.int x3), .val (.int y0), .val (.int y2), .val (.int y1), .val (.int y3), .val (.int y0), .val (.int u1), .val (.int u2), .val (.int u3), .val (.int la), .val (.int md), .val (.int val), .val (.ref b), .val (.int r), .val (.int (1 : Int32))] [])) _
            refine XS.goto X64.here hx rfl (pc0 := 290) (pc' := 296) rfl (hb hby at_290) (by decide) (by decide) ?_
            show Steps p.tables e below (T64.setTop (mkF m 296 #[.val (.int a1), .val (.int a2), .val (.int a3), .val (.int a4), .val (.int ee), .val (.int vv), .val (.int x0), .val (.int x1), .val (.int x2), .val (.int x3), .val (.int y0), .val (.int y2), .val (.int y1), .val (.int y3), .val (.int y0), .val (.int u1), .val (.int u2), .val (.int u3), .val (.int la), .val (.int md), .val (.int val), .val (.ref b), .val (.int r), .val (.int (1 : Int32))] [])) _
            refine XS.iload X64.here hx rfl (hb hby at_296) rfl ?_
            show Steps p.tables e below (T64.setTop (mkF m 298 #[.val (.int a1), .val (.int a2), .val (.int a3), .val (.int a4), .val (.int ee), .val (.int vv), .val (.int x0), .val (.int x1), .val (.int x2), .val (.int x3), .val (.int y0), .val (.int y2), .val (.int y1), .val (.int y3), .val (.int y0), .val (.int u1), .val (.int u2), .val (.int u3), .val (.int la), .val (.int md), .val (.int val), .val (.ref b), .val (.int r), .val (.int (1 : Int32))] [(.int r)])) _
            refine XS.iload X64.here hx rfl (hb hby at_298) rfl ?_
            exact Steps.refl _
          have S79 : Steps p.tables e below Ω (T64.setTop (mkF m 308 #[.val (.int a1), .val (.int a2), .val (.int a3), .val (.int a4), .val (.int ee), .val (.int vv), .val (.int x0), .val (.int x1), .val (.int x2), .val (.int x3), .val (.int y0), .val (.int y2), .val (.int y1), .val (.int y3), .val (.int y0), .val (.int u1), .val (.int u2), .val (.int u3), .val (.int la), .val (.int md), .val (.int val), .val (.ref b), .val (.int r), .val (.int (1 : Int32))] [(.int (1 : Int32))])) := by
            refine S78.trans ?_
            refine XS.icmpNo X64.here hx rfl (hb hby at_300) rfl (XT.ii_ne_f (Int32.toInt_inj.mp (by have e : (1 : Int32).toInt = 1 := (by decide); omega))) ?_
            show Steps p.tables e below (T64.setTop (mkF m 303 #[.val (.int a1), .val (.int a2), .val (.int a3), .val (.int a4), .val (.int ee), .val (.int vv), .val (.int x0), .val (.int x1), .val (.int x2), .val (.int x3), .val (.int y0), .val (.int y2), .val (.int y1), .val (.int y3), .val (.int y0), .val (.int u1), .val (.int u2), .val (.int u3), .val (.int la), .val (.int md), .val (.int val), .val (.ref b), .val (.int r), .val (.int (1 : Int32))] [])) _
            refine XS.iconst X64.here hx rfl (hb hby at_303) ?_
            show Steps p.tables e below (T64.setTop (mkF m 304 #[.val (.int a1), .val (.int a2), .val (.int a3), .val (.int a4), .val (.int ee), .val (.int vv), .val (.int x0), .val (.int x1), .val (.int x2), .val (.int x3), .val (.int y0), .val (.int y2), .val (.int y1), .val (.int y3), .val (.int y0), .val (.int u1), .val (.int u2), .val (.int u3), .val (.int la), .val (.int md), .val (.int val), .val (.ref b), .val (.int r), .val (.int (1 : Int32))] [(.int (1 : Int32))])) _
            refine XS.goto X64.here hx rfl (pc0 := 304) (pc' := 308) rfl (hb hby at_304) (by decide) (by decide) ?_
            exact Steps.refl _
          obtain ⟨fs, hr, hrun, hended, hW, hsame⟩ := X64.leave (v := some (.int (1 : Int32))) (fun h => by rw [Bd.returns] at h; cases h)
          have hfin : Steps p.tables e below Ω (T64.setFrames fs) := by
            refine S79.trans ?_
            exact own_retZ X64 hx Bd.returns (by decide) (hb hby at_308) hr
          rw [hΩ] at hfin
          refine ⟨_, _, hfin, hrun, hended, _, _, rfl, ?_, ⟨_, rfl⟩, hW, hsame.mono (by decide) (by decide)⟩
          show Q0 Z a1 a2 a3 a4 ee vv h0 n0 _ T64.heap _
          rw [e64]
          exact ⟨rfl, N64⟩
    · have qh69 : ¬ la.toInt < 2 := fun q => h69 (Int32.lt_iff_toInt_lt.mpr q)
      have S80 : Steps p.tables e below Ω (T64.setTop (mkF m 265 #[.val (.int a1), .val (.int a2), .val (.int a3), .val (.int a4), .val (.int ee), .val (.int vv), .val (.int x0), .val (.int x1), .val (.int x2), .val (.int x3), .val (.int y0), .val (.int y2), .val (.int y1), .val (.int y3), .val (.int y0), .val (.int u1), .val (.int u2), .val (.int u3), .val (.int la), .val (.int md), .val (.int val), .val (.ref b), .val (.int r), .unset] [(.int val), (.int u2)])) := by
        refine S68.trans ?_
        refine XS.icmpNo X64.here hx rfl (hb hby at_258) rfl (XT.ii_lt_f h69) ?_
        show Steps p.tables e below (T64.setTop (mkF m 261 #[.val (.int a1), .val (.int a2), .val (.int a3), .val (.int a4), .val (.int ee), .val (.int vv), .val (.int x0), .val (.int x1), .val (.int x2), .val (.int x3), .val (.int y0), .val (.int y2), .val (.int y1), .val (.int y3), .val (.int y0), .val (.int u1), .val (.int u2), .val (.int u3), .val (.int la), .val (.int md), .val (.int val), .val (.ref b), .val (.int r), .unset] [])) _
        refine XS.iload X64.here hx rfl (hb hby at_261) rfl ?_
        show Steps p.tables e below (T64.setTop (mkF m 263 #[.val (.int a1), .val (.int a2), .val (.int a3), .val (.int a4), .val (.int ee), .val (.int vv), .val (.int x0), .val (.int x1), .val (.int x2), .val (.int x3), .val (.int y0), .val (.int y2), .val (.int y1), .val (.int y3), .val (.int y0), .val (.int u1), .val (.int u2), .val (.int u3), .val (.int la), .val (.int md), .val (.int val), .val (.ref b), .val (.int r), .unset] [(.int u2)])) _
        refine XS.iload X64.here hx rfl (hb hby at_263) rfl ?_
        exact Steps.refl _
      by_cases h81 : val < u2
      · have qh81 : val.toInt < u2.toInt := Int32.lt_iff_toInt_lt.mp h81
        have S82 : Steps p.tables e below Ω (T64.setTop (mkF m 277 #[.val (.int a1), .val (.int a2), .val (.int a3), .val (.int a4), .val (.int ee), .val (.int vv), .val (.int x0), .val (.int x1), .val (.int x2), .val (.int x3), .val (.int y0), .val (.int y2), .val (.int y1), .val (.int y3), .val (.int y0), .val (.int u1), .val (.int u2), .val (.int u3), .val (.int la), .val (.int md), .val (.int val), .val (.ref b), .val (.int r), .unset] [(.int (1 : Int32)), (.int la)])) := by
          refine S80.trans ?_
          refine XS.icmpYes X64.here hx rfl (pc0 := 265) (pc' := 274) rfl (hb hby at_265) rfl (XT.ii_gt_t h81) (by decide) (by decide) ?_
          show Steps p.tables e below (T64.setTop (mkF m 274 #[.val (.int a1), .val (.int a2), .val (.int a3), .val (.int a4), .val (.int ee), .val (.int vv), .val (.int x0), .val (.int x1), .val (.int x2), .val (.int x3), .val (.int y0), .val (.int y2), .val (.int y1), .val (.int y3), .val (.int y0), .val (.int u1), .val (.int u2), .val (.int u3), .val (.int la), .val (.int md), .val (.int val), .val (.ref b), .val (.int r), .unset] [])) _
          refine XS.iload X64.here hx rfl (hb hby at_274) rfl ?_
          show Steps p.tables e below (T64.setTop (mkF m 276 #[.val (.int a1), .val (.int a2), .val (.int a3), .val (.int a4), .val (.int ee), .val (.int vv), .val (.int x0), .val (.int x1), .val (.int x2), .val (.int x3), .val (.int y0), .val (.int y2), .val (.int y1), .val (.int y3), .val (.int y0), .val (.int u1), .val (.int u2), .val (.int u3), .val (.int la), .val (.int md), .val (.int val), .val (.ref b), .val (.int r), .unset] [(.int la)])) _
          refine XS.iconst X64.here hx rfl (hb hby at_276) ?_
          exact Steps.refl _
        by_cases h83 : la < (1 : Int32)
        · have qh83 : la.toInt < 1 := Int32.lt_iff_toInt_lt.mp h83
          have S84 : Steps p.tables e below Ω (T64.setTop (mkF m 300 #[.val (.int a1), .val (.int a2), .val (.int a3), .val (.int a4), .val (.int ee), .val (.int vv), .val (.int x0), .val (.int x1), .val (.int x2), .val (.int x3), .val (.int y0), .val (.int y2), .val (.int y1), .val (.int y3), .val (.int y0), .val (.int u1), .val (.int u2), .val (.int u3), .val (.int la), .val (.int md), .val (.int val), .val (.ref b), .val (.int r), .val (.int (0 : Int32))] [(.int (0 : Int32)), (.int r)])) := by
            refine S82.trans ?_
            refine XS.icmpYes X64.here hx rfl (pc0 := 277) (pc' := 293) rfl (hb hby at_277) rfl (XT.ii_lt_t h83) (by decide) (by decide) ?_
            show Steps p.tables e below (T64.setTop (mkF m 293 #[.val (.int a1), .val (.int a2), .val (.int a3), .val (.int a4), .val (.int ee), .val (.int vv), .val (.int x0), .val (.int x1), .val (.int x2), .val (.int x3), .val (.int y0), .val (.int y2), .val (.int y1), .val (.int y3), .val (.int y0), .val (.int u1), .val (.int u2), .val (.int u3), .val (.int la), .val (.int md), .val (.int val), .val (.ref b), .val (.int r), .unset] [])) _
            refine XS.iconst X64.here hx rfl (hb hby at_293) ?_
            show Steps p.tables e below (T64.setTop (mkF m 294 #[.val (.int a1), .val (.int a2), .val (.int a3), .val (.int a4), .val (.int ee), .val (.int vv), .val (.int x0), .val (.int x1), .val (.int x2), .val (.int x3), .val (.int y0), .val (.int y2), .val (.int y1), .val (.int y3), .val (.int y0), .val (.int u1), .val (.int u2), .val (.int u3), .val (.int la), .val (.int md), .val (.int val), .val (.ref b), .val (.int r), .unset] [(.int (0 : Int32))])) _
            refine XS.istore X64.here hx rfl (hb hby at_294) rfl (l' := #[.val (.int a1), .val (.int a2), .val (.int a3), .val (.int a4), .val (.int ee), .val (.int vv), .val (.int x0), .val (.int x1), .val (.int x2), .val (.int x3), .val (.int y0), .val (.int y2), .val (.int y1), .val (.int y3), .val (.int y0), .val (.int u1), .val (.int u2), .val (.int u3), .val (.int la), .val (.int md), .val (.int val), .val (.ref b), .val (.int r), .val (.int (0 : Int32))]) rfl ?_
            show Steps p.tables e below (T64.setTop (mkF m 296 #[.val (.int a1), .val (.int a2), .val (.int a3), .val (.int a4), .val (.int ee), .val (.int vv), .val (.int x0), .val (.int x1), .val (.int x2), .val (.int x3), .val (.int y0), .val (.int y2), .val (.int y1), .val (.int y3), .val (.int y0), .val (.int u1), .val (.int u2), .val (.int u3), .val (.int la), .val (.int md), .val (.int val), .val (.ref b), .val (.int r), .val (.int (0 : Int32))] [])) _
            refine XS.iload X64.here hx rfl (hb hby at_296) rfl ?_
            show Steps p.tables e below (T64.setTop (mkF m 298 #[.val (.int a1), .val (.int a2), .val (.int a3), .val (.int a4), .val (.int ee), .val (.int vv), .val (.int x0), .val (.int x1), .val (.int x2), .val (.int x3), .val (.int y0), .val (.int y2), .val (.int y1), .val (.int y3), .val (.int y0), .val (.int u1), .val (.int u2), .val (.int u3), .val (.int la), .val (.int md), .val (.int val), .val (.ref b), .val (.int r), .val (.int (0 : Int32))] [(.int r)])) _
            refine XS.iload X64.here hx rfl (hb hby at_298) rfl ?_
            exact Steps.refl _
          have S85 : Steps p.tables e below Ω (T64.setTop (mkF m 308 #[.val (.int a1), .val (.int a2), .val (.int a3), .val (.int a4), .val (.int ee), .val (.int vv), .val (.int x0), .val (.int x1), .val (.int x2), .val (.int x3), .val (.int y0), .val (.int y2), .val (.int y1), .val (.int y3), .val (.int y0), .val (.int u1), .val (.int u2), .val (.int u3), .val (.int la), .val (.int md), .val (.int val), .val (.ref b), .val (.int r), .val (.int (0 : Int32))] [(.int (1 : Int32))])) := by
            refine S84.trans ?_
            refine XS.icmpNo X64.here hx rfl (hb hby at_300) rfl (XT.ii_ne_f (Int32.toInt_inj.mp (by have e : (0 : Int32).toInt = 0 := (by decide); omega))) ?_
            show Steps p.tables e below (T64.setTop (mkF m 303 #[.val (.int a1), .val (.int a2), .val (.int a3), .val (.int a4), .val (.int ee), .val (.int vv), .val (.int x0), .val (.int x1), .val (.int x2), .val (.int x3), .val (.int y0), .val (.int y2), .val (.int y1), .val (.int y3), .val (.int y0), .val (.int u1), .val (.int u2), .val (.int u3), .val (.int la), .val (.int md), .val (.int val), .val (.ref b), .val (.int r), .val (.int (0 : Int32))] [])) _
            refine XS.iconst X64.here hx rfl (hb hby at_303) ?_
            show Steps p.tables e below (T64.setTop (mkF m 304 #[.val (.int a1), .val (.int a2), .val (.int a3), .val (.int a4), .val (.int ee), .val (.int vv), .val (.int x0), .val (.int x1), .val (.int x2), .val (.int x3), .val (.int y0), .val (.int y2), .val (.int y1), .val (.int y3), .val (.int y0), .val (.int u1), .val (.int u2), .val (.int u3), .val (.int la), .val (.int md), .val (.int val), .val (.ref b), .val (.int r), .val (.int (0 : Int32))] [(.int (1 : Int32))])) _
            refine XS.goto X64.here hx rfl (pc0 := 304) (pc' := 308) rfl (hb hby at_304) (by decide) (by decide) ?_
            exact Steps.refl _
          obtain ⟨fs, hr, hrun, hended, hW, hsame⟩ := X64.leave (v := some (.int (1 : Int32))) (fun h => by rw [Bd.returns] at h; cases h)
          have hfin : Steps p.tables e below Ω (T64.setFrames fs) := by
            refine S85.trans ?_
            exact own_retZ X64 hx Bd.returns (by decide) (hb hby at_308) hr
          rw [hΩ] at hfin
          refine ⟨_, _, hfin, hrun, hended, _, _, rfl, ?_, ⟨_, rfl⟩, hW, hsame.mono (by decide) (by decide)⟩
          show Q0 Z a1 a2 a3 a4 ee vv h0 n0 _ T64.heap _
          rw [e64]
          exact ⟨rfl, N64⟩
        · have qh83 : ¬ la.toInt < 1 := fun q => h83 (Int32.lt_iff_toInt_lt.mpr q)
          have S86 : Steps p.tables e below Ω (T64.setTop (mkF m 284 #[.val (.int a1), .val (.int a2), .val (.int a3), .val (.int a4), .val (.int ee), .val (.int vv), .val (.int x0), .val (.int x1), .val (.int x2), .val (.int x3), .val (.int y0), .val (.int y2), .val (.int y1), .val (.int y3), .val (.int y0), .val (.int u1), .val (.int u2), .val (.int u3), .val (.int la), .val (.int md), .val (.int val), .val (.ref b), .val (.int r), .unset] [(.int val), (.int u1)])) := by
            refine S82.trans ?_
            refine XS.icmpNo X64.here hx rfl (hb hby at_277) rfl (XT.ii_lt_f h83) ?_
            show Steps p.tables e below (T64.setTop (mkF m 280 #[.val (.int a1), .val (.int a2), .val (.int a3), .val (.int a4), .val (.int ee), .val (.int vv), .val (.int x0), .val (.int x1), .val (.int x2), .val (.int x3), .val (.int y0), .val (.int y2), .val (.int y1), .val (.int y3), .val (.int y0), .val (.int u1), .val (.int u2), .val (.int u3), .val (.int la), .val (.int md), .val (.int val), .val (.ref b), .val (.int r), .unset] [])) _
            refine XS.iload X64.here hx rfl (hb hby at_280) rfl ?_
            show Steps p.tables e below (T64.setTop (mkF m 282 #[.val (.int a1), .val (.int a2), .val (.int a3), .val (.int a4), .val (.int ee), .val (.int vv), .val (.int x0), .val (.int x1), .val (.int x2), .val (.int x3), .val (.int y0), .val (.int y2), .val (.int y1), .val (.int y3), .val (.int y0), .val (.int u1), .val (.int u2), .val (.int u3), .val (.int la), .val (.int md), .val (.int val), .val (.ref b), .val (.int r), .unset] [(.int u1)])) _
            refine XS.iload X64.here hx rfl (hb hby at_282) rfl ?_
            exact Steps.refl _
          by_cases h87 : val < u1
          · have qh87 : val.toInt < u1.toInt := Int32.lt_iff_toInt_lt.mp h87
            have S88 : Steps p.tables e below Ω (T64.setTop (mkF m 300 #[.val (.int a1), .val (.int a2), .val (.int a3), .val (.int a4), .val (.int ee), .val (.int vv), .val (.int x0), .val (.int x1), .val (.int x2), .val (.int x3), .val (.int y0), .val (.int y2), .val (.int y1), .val (.int y3), .val (.int y0), .val (.int u1), .val (.int u2), .val (.int u3), .val (.int la), .val (.int md), .val (.int val), .val (.ref b), .val (.int r), .val (.int (0 : Int32))] [(.int (0 : Int32)), (.int r)])) := by
              refine S86.trans ?_
              refine XS.icmpYes X64.here hx rfl (pc0 := 284) (pc' := 293) rfl (hb hby at_284) rfl (XT.ii_gt_t h87) (by decide) (by decide) ?_
              show Steps p.tables e below (T64.setTop (mkF m 293 #[.val (.int a1), .val (.int a2), .val (.int a3), .val (.int a4), .val (.int ee), .val (.int vv), .val (.int x0), .val (.int x1), .val (.int x2), .val (.int x3), .val (.int y0), .val (.int y2), .val (.int y1), .val (.int y3), .val (.int y0), .val (.int u1), .val (.int u2), .val (.int u3), .val (.int la), .val (.int md), .val (.int val), .val (.ref b), .val (.int r), .unset] [])) _
              refine XS.iconst X64.here hx rfl (hb hby at_293) ?_
              show Steps p.tables e below (T64.setTop (mkF m 294 #[.val (.int a1), .val (.int a2), .val (.int a3), .val (.int a4), .val (.int ee), .val (.int vv), .val (.int x0), .val (.int x1), .val (.int x2), .val (.int x3), .val (.int y0), .val (.int y2), .val (.int y1), .val (.int y3), .val (.int y0), .val (.int u1), .val (.int u2), .val (.int u3), .val (.int la), .val (.int md), .val (.int val), .val (.ref b), .val (.int r), .unset] [(.int (0 : Int32))])) _
              refine XS.istore X64.here hx rfl (hb hby at_294) rfl (l' := #[.val (.int a1), .val (.int a2), .val (.int a3), .val (.int a4), .val (.int ee), .val (.int vv), .val (.int x0), .val (.int x1), .val (.int x2), .val (.int x3), .val (.int y0), .val (.int y2), .val (.int y1), .val (.int y3), .val (.int y0), .val (.int u1), .val (.int u2), .val (.int u3), .val (.int la), .val (.int md), .val (.int val), .val (.ref b), .val (.int r), .val (.int (0 : Int32))]) rfl ?_
              show Steps p.tables e below (T64.setTop (mkF m 296 #[.val (.int a1), .val (.int a2), .val (.int a3), .val (.int a4), .val (.int ee), .val (.int vv), .val (.int x0), .val (.int x1), .val (.int x2), .val (.int x3), .val (.int y0), .val (.int y2), .val (.int y1), .val (.int y3), .val (.int y0), .val (.int u1), .val (.int u2), .val (.int u3), .val (.int la), .val (.int md), .val (.int val), .val (.ref b), .val (.int r), .val (.int (0 : Int32))] [])) _
              refine XS.iload X64.here hx rfl (hb hby at_296) rfl ?_
              show Steps p.tables e below (T64.setTop (mkF m 298 #[.val (.int a1), .val (.int a2), .val (.int a3), .val (.int a4), .val (.int ee), .val (.int vv), .val (.int x0), .val (.int x1), .val (.int x2), .val (.int x3), .val (.int y0), .val (.int y2), .val (.int y1), .val (.int y3), .val (.int y0), .val (.int u1), .val (.int u2), .val (.int u3), .val (.int la), .val (.int md), .val (.int val), .val (.ref b), .val (.int r), .val (.int (0 : Int32))] [(.int r)])) _
              refine XS.iload X64.here hx rfl (hb hby at_298) rfl ?_
              exact Steps.refl _
            have S89 : Steps p.tables e below Ω (T64.setTop (mkF m 308 #[.val (.int a1), .val (.int a2), .val (.int a3), .val (.int a4), .val (.int ee), .val (.int vv), .val (.int x0), .val (.int x1), .val (.int x2), .val (.int x3), .val (.int y0), .val (.int y2), .val (.int y1), .val (.int y3), .val (.int y0), .val (.int u1), .val (.int u2), .val (.int u3), .val (.int la), .val (.int md), .val (.int val), .val (.ref b), .val (.int r), .val (.int (0 : Int32))] [(.int (1 : Int32))])) := by
              refine S88.trans ?_
              refine XS.icmpNo X64.here hx rfl (hb hby at_300) rfl (XT.ii_ne_f (Int32.toInt_inj.mp (by have e : (0 : Int32).toInt = 0 := (by decide); omega))) ?_
              show Steps p.tables e below (T64.setTop (mkF m 303 #[.val (.int a1), .val (.int a2), .val (.int a3), .val (.int a4), .val (.int ee), .val (.int vv), .val (.int x0), .val (.int x1), .val (.int x2), .val (.int x3), .val (.int y0), .val (.int y2), .val (.int y1), .val (.int y3), .val (.int y0), .val (.int u1), .val (.int u2), .val (.int u3), .val (.int la), .val (.int md), .val (.int val), .val (.ref b), .val (.int r), .val (.int (0 : Int32))] [])) _
              refine XS.iconst X64.here hx rfl (hb hby at_303) ?_
              show Steps p.tables e below (T64.setTop (mkF m 304 #[.val (.int a1), .val (.int a2), .val (.int a3), .val (.int a4), .val (.int ee), .val (.int vv), .val (.int x0), .val (.int x1), .val (.int x2), .val (.int x3), .val (.int y0), .val (.int y2), .val (.int y1), .val (.int y3), .val (.int y0), .val (.int u1), .val (.int u2), .val (.int u3), .val (.int la), .val (.int md), .val (.int val), .val (.ref b), .val (.int r), .val (.int (0 : Int32))] [(.int (1 : Int32))])) _
              refine XS.goto X64.here hx rfl (pc0 := 304) (pc' := 308) rfl (hb hby at_304) (by decide) (by decide) ?_
              exact Steps.refl _
            obtain ⟨fs, hr, hrun, hended, hW, hsame⟩ := X64.leave (v := some (.int (1 : Int32))) (fun h => by rw [Bd.returns] at h; cases h)
            have hfin : Steps p.tables e below Ω (T64.setFrames fs) := by
              refine S89.trans ?_
              exact own_retZ X64 hx Bd.returns (by decide) (hb hby at_308) hr
            rw [hΩ] at hfin
            refine ⟨_, _, hfin, hrun, hended, _, _, rfl, ?_, ⟨_, rfl⟩, hW, hsame.mono (by decide) (by decide)⟩
            show Q0 Z a1 a2 a3 a4 ee vv h0 n0 _ T64.heap _
            rw [e64]
            exact ⟨rfl, N64⟩
          · have qh87 : ¬ val.toInt < u1.toInt := fun q => h87 (Int32.lt_iff_toInt_lt.mpr q)
            have S90 : Steps p.tables e below Ω (T64.setTop (mkF m 300 #[.val (.int a1), .val (.int a2), .val (.int a3), .val (.int a4), .val (.int ee), .val (.int vv), .val (.int x0), .val (.int x1), .val (.int x2), .val (.int x3), .val (.int y0), .val (.int y2), .val (.int y1), .val (.int y3), .val (.int y0), .val (.int u1), .val (.int u2), .val (.int u3), .val (.int la), .val (.int md), .val (.int val), .val (.ref b), .val (.int r), .val (.int (1 : Int32))] [(.int (1 : Int32)), (.int r)])) := by
              refine S86.trans ?_
              refine XS.icmpNo X64.here hx rfl (hb hby at_284) rfl (XT.ii_gt_f h87) ?_
              show Steps p.tables e below (T64.setTop (mkF m 287 #[.val (.int a1), .val (.int a2), .val (.int a3), .val (.int a4), .val (.int ee), .val (.int vv), .val (.int x0), .val (.int x1), .val (.int x2), .val (.int x3), .val (.int y0), .val (.int y2), .val (.int y1), .val (.int y3), .val (.int y0), .val (.int u1), .val (.int u2), .val (.int u3), .val (.int la), .val (.int md), .val (.int val), .val (.ref b), .val (.int r), .unset] [])) _
              refine XS.iconst X64.here hx rfl (hb hby at_287) ?_
              show Steps p.tables e below (T64.setTop (mkF m 288 #[.val (.int a1), .val (.int a2), .val (.int a3), .val (.int a4), .val (.int ee), .val (.int vv), .val (.int x0), .val (.int x1), .val (.int x2), .val (.int x3), .val (.int y0), .val (.int y2), .val (.int y1), .val (.int y3), .val (.int y0), .val (.int u1), .val (.int u2), .val (.int u3), .val (.int la), .val (.int md), .val (.int val), .val (.ref b), .val (.int r), .unset] [(.int (1 : Int32))])) _
              refine XS.istore X64.here hx rfl (hb hby at_288) rfl (l' := #[.val (.int a1), .val (.int a2), .val (.int a3), .val (.int a4), .val (.int ee), .val (.int vv), .val (.int x0), .val (.int x1), .val (.int x2), .val (.int x3), .val (.int y0), .val (.int y2), .val (.int y1), .val (.int y3), .val (.int y0), .val (.int u1), .val (.int u2), .val (.int u3), .val (.int la), .val (.int md), .val (.int val), .val (.ref b), .val (.int r), .val (.int (1 : Int32))]) rfl ?_
              show Steps p.tables e below (T64.setTop (mkF m 290 #[.val (.int a1), .val (.int a2), .val (.int a3), .val (.int a4), .val (.int ee), .val (.int vv), .val (.int x0), .val (.int x1), .val (.int x2), .val (.int x3), .val (.int y0), .val (.int y2), .val (.int y1), .val (.int y3), .val (.int y0), .val (.int u1), .val (.int u2), .val (.int u3), .val (.int la), .val (.int md), .val (.int val), .val (.ref b), .val (.int r), .val (.int (1 : Int32))] [])) _
              refine XS.goto X64.here hx rfl (pc0 := 290) (pc' := 296) rfl (hb hby at_290) (by decide) (by decide) ?_
              show Steps p.tables e below (T64.setTop (mkF m 296 #[.val (.int a1), .val (.int a2), .val (.int a3), .val (.int a4), .val (.int ee), .val (.int vv), .val (.int x0), .val (.int x1), .val (.int x2), .val (.int x3), .val (.int y0), .val (.int y2), .val (.int y1), .val (.int y3), .val (.int y0), .val (.int u1), .val (.int u2), .val (.int u3), .val (.int la), .val (.int md), .val (.int val), .val (.ref b), .val (.int r), .val (.int (1 : Int32))] [])) _
              refine XS.iload X64.here hx rfl (hb hby at_296) rfl ?_
              show Steps p.tables e below (T64.setTop (mkF m 298 #[.val (.int a1), .val (.int a2), .val (.int a3), .val (.int a4), .val (.int ee), .val (.int vv), .val (.int x0), .val (.int x1), .val (.int x2), .val (.int x3), .val (.int y0), .val (.int y2), .val (.int y1), .val (.int y3), .val (.int y0), .val (.int u1), .val (.int u2), .val (.int u3), .val (.int la), .val (.int md), .val (.int val), .val (.ref b), .val (.int r), .val (.int (1 : Int32))] [(.int r)])) _
              refine XS.iload X64.here hx rfl (hb hby at_298) rfl ?_
              exact Steps.refl _
            have S91 : Steps p.tables e below Ω (T64.setTop (mkF m 308 #[.val (.int a1), .val (.int a2), .val (.int a3), .val (.int a4), .val (.int ee), .val (.int vv), .val (.int x0), .val (.int x1), .val (.int x2), .val (.int x3), .val (.int y0), .val (.int y2), .val (.int y1), .val (.int y3), .val (.int y0), .val (.int u1), .val (.int u2), .val (.int u3), .val (.int la), .val (.int md), .val (.int val), .val (.ref b), .val (.int r), .val (.int (1 : Int32))] [(.int (1 : Int32))])) := by
              refine S90.trans ?_
              refine XS.icmpNo X64.here hx rfl (hb hby at_300) rfl (XT.ii_ne_f (Int32.toInt_inj.mp (by have e : (1 : Int32).toInt = 1 := (by decide); omega))) ?_
              show Steps p.tables e below (T64.setTop (mkF m 303 #[.val (.int a1), .val (.int a2), .val (.int a3), .val (.int a4), .val (.int ee), .val (.int vv), .val (.int x0), .val (.int x1), .val (.int x2), .val (.int x3), .val (.int y0), .val (.int y2), .val (.int y1), .val (.int y3), .val (.int y0), .val (.int u1), .val (.int u2), .val (.int u3), .val (.int la), .val (.int md), .val (.int val), .val (.ref b), .val (.int r), .val (.int (1 : Int32))] [])) _
              refine XS.iconst X64.here hx rfl (hb hby at_303) ?_
              show Steps p.tables e below (T64.setTop (mkF m 304 #[.val (.int a1), .val (.int a2), .val (.int a3), .val (.int a4), .val (.int ee), .val (.int vv), .val (.int x0), .val (.int x1), .val (.int x2), .val (.int x3), .val (.int y0), .val (.int y2), .val (.int y1), .val (.int y3), .val (.int y0), .val (.int u1), .val (.int u2), .val (.int u3), .val (.int la), .val (.int md), .val (.int val), .val (.ref b), .val (.int r), .val (.int (1 : Int32))] [(.int (1 : Int32))])) _
              refine XS.goto X64.here hx rfl (pc0 := 304) (pc' := 308) rfl (hb hby at_304) (by decide) (by decide) ?_
              exact Steps.refl _
            obtain ⟨fs, hr, hrun, hended, hW, hsame⟩ := X64.leave (v := some (.int (1 : Int32))) (fun h => by rw [Bd.returns] at h; cases h)
            have hfin : Steps p.tables e below Ω (T64.setFrames fs) := by
              refine S91.trans ?_
              exact own_retZ X64 hx Bd.returns (by decide) (hb hby at_308) hr
            rw [hΩ] at hfin
            refine ⟨_, _, hfin, hrun, hended, _, _, rfl, ?_, ⟨_, rfl⟩, hW, hsame.mono (by decide) (by decide)⟩
            show Q0 Z a1 a2 a3 a4 ee vv h0 n0 _ T64.heap _
            rw [e64]
            exact ⟨rfl, N64⟩
      · have qh81 : ¬ val.toInt < u2.toInt := fun q => h81 (Int32.lt_iff_toInt_lt.mpr q)
        have S92 : Steps p.tables e below Ω (T64.setTop (mkF m 300 #[.val (.int a1), .val (.int a2), .val (.int a3), .val (.int a4), .val (.int ee), .val (.int vv), .val (.int x0), .val (.int x1), .val (.int x2), .val (.int x3), .val (.int y0), .val (.int y2), .val (.int y1), .val (.int y3), .val (.int y0), .val (.int u1), .val (.int u2), .val (.int u3), .val (.int la), .val (.int md), .val (.int val), .val (.ref b), .val (.int r), .val (.int (2 : Int32))] [(.int (2 : Int32)), (.int r)])) := by
          refine S80.trans ?_
          refine XS.icmpNo X64.here hx rfl (hb hby at_265) rfl (XT.ii_gt_f h81) ?_
          show Steps p.tables e below (T64.setTop (mkF m 268 #[.val (.int a1), .val (.int a2), .val (.int a3), .val (.int a4), .val (.int ee), .val (.int vv), .val (.int x0), .val (.int x1), .val (.int x2), .val (.int x3), .val (.int y0), .val (.int y2), .val (.int y1), .val (.int y3), .val (.int y0), .val (.int u1), .val (.int u2), .val (.int u3), .val (.int la), .val (.int md), .val (.int val), .val (.ref b), .val (.int r), .unset] [])) _
          refine XS.iconst X64.here hx rfl (hb hby at_268) ?_
          show Steps p.tables e below (T64.setTop (mkF m 269 #[.val (.int a1), .val (.int a2), .val (.int a3), .val (.int a4), .val (.int ee), .val (.int vv), .val (.int x0), .val (.int x1), .val (.int x2), .val (.int x3), .val (.int y0), .val (.int y2), .val (.int y1), .val (.int y3), .val (.int y0), .val (.int u1), .val (.int u2), .val (.int u3), .val (.int la), .val (.int md), .val (.int val), .val (.ref b), .val (.int r), .unset] [(.int (2 : Int32))])) _
          refine XS.istore X64.here hx rfl (hb hby at_269) rfl (l' := #[.val (.int a1), .val (.int a2), .val (.int a3), .val (.int a4), .val (.int ee), .val (.int vv), .val (.int x0), .val (.int x1), .val (.int x2), .val (.int x3), .val (.int y0), .val (.int y2), .val (.int y1), .val (.int y3), .val (.int y0), .val (.int u1), .val (.int u2), .val (.int u3), .val (.int la), .val (.int md), .val (.int val), .val (.ref b), .val (.int r), .val (.int (2 : Int32))]) rfl ?_
          show Steps p.tables e below (T64.setTop (mkF m 271 #[.val (.int a1), .val (.int a2), .val (.int a3), .val (.int a4), .val (.int ee), .val (.int vv), .val (.int x0), .val (.int x1), .val (.int x2), .val (.int x3), .val (.int y0), .val (.int y2), .val (.int y1), .val (.int y3), .val (.int y0), .val (.int u1), .val (.int u2), .val (.int u3), .val (.int la), .val (.int md), .val (.int val), .val (.ref b), .val (.int r), .val (.int (2 : Int32))] [])) _
          refine XS.goto X64.here hx rfl (pc0 := 271) (pc' := 296) rfl (hb hby at_271) (by decide) (by decide) ?_
          show Steps p.tables e below (T64.setTop (mkF m 296 #[.val (.int a1), .val (.int a2), .val (.int a3), .val (.int a4), .val (.int ee), .val (.int vv), .val (.int x0), .val (.int x1), .val (.int x2), .val (.int x3), .val (.int y0), .val (.int y2), .val (.int y1), .val (.int y3), .val (.int y0), .val (.int u1), .val (.int u2), .val (.int u3), .val (.int la), .val (.int md), .val (.int val), .val (.ref b), .val (.int r), .val (.int (2 : Int32))] [])) _
          refine XS.iload X64.here hx rfl (hb hby at_296) rfl ?_
          show Steps p.tables e below (T64.setTop (mkF m 298 #[.val (.int a1), .val (.int a2), .val (.int a3), .val (.int a4), .val (.int ee), .val (.int vv), .val (.int x0), .val (.int x1), .val (.int x2), .val (.int x3), .val (.int y0), .val (.int y2), .val (.int y1), .val (.int y3), .val (.int y0), .val (.int u1), .val (.int u2), .val (.int u3), .val (.int la), .val (.int md), .val (.int val), .val (.ref b), .val (.int r), .val (.int (2 : Int32))] [(.int r)])) _
          refine XS.iload X64.here hx rfl (hb hby at_298) rfl ?_
          exact Steps.refl _
        have S93 : Steps p.tables e below Ω (T64.setTop (mkF m 308 #[.val (.int a1), .val (.int a2), .val (.int a3), .val (.int a4), .val (.int ee), .val (.int vv), .val (.int x0), .val (.int x1), .val (.int x2), .val (.int x3), .val (.int y0), .val (.int y2), .val (.int y1), .val (.int y3), .val (.int y0), .val (.int u1), .val (.int u2), .val (.int u3), .val (.int la), .val (.int md), .val (.int val), .val (.ref b), .val (.int r), .val (.int (2 : Int32))] [(.int (1 : Int32))])) := by
          refine S92.trans ?_
          refine XS.icmpNo X64.here hx rfl (hb hby at_300) rfl (XT.ii_ne_f (Int32.toInt_inj.mp (by have e : (2 : Int32).toInt = 2 := (by decide); omega))) ?_
          show Steps p.tables e below (T64.setTop (mkF m 303 #[.val (.int a1), .val (.int a2), .val (.int a3), .val (.int a4), .val (.int ee), .val (.int vv), .val (.int x0), .val (.int x1), .val (.int x2), .val (.int x3), .val (.int y0), .val (.int y2), .val (.int y1), .val (.int y3), .val (.int y0), .val (.int u1), .val (.int u2), .val (.int u3), .val (.int la), .val (.int md), .val (.int val), .val (.ref b), .val (.int r), .val (.int (2 : Int32))] [])) _
          refine XS.iconst X64.here hx rfl (hb hby at_303) ?_
          show Steps p.tables e below (T64.setTop (mkF m 304 #[.val (.int a1), .val (.int a2), .val (.int a3), .val (.int a4), .val (.int ee), .val (.int vv), .val (.int x0), .val (.int x1), .val (.int x2), .val (.int x3), .val (.int y0), .val (.int y2), .val (.int y1), .val (.int y3), .val (.int y0), .val (.int u1), .val (.int u2), .val (.int u3), .val (.int la), .val (.int md), .val (.int val), .val (.ref b), .val (.int r), .val (.int (2 : Int32))] [(.int (1 : Int32))])) _
          refine XS.goto X64.here hx rfl (pc0 := 304) (pc' := 308) rfl (hb hby at_304) (by decide) (by decide) ?_
          exact Steps.refl _
        obtain ⟨fs, hr, hrun, hended, hW, hsame⟩ := X64.leave (v := some (.int (1 : Int32))) (fun h => by rw [Bd.returns] at h; cases h)
        have hfin : Steps p.tables e below Ω (T64.setFrames fs) := by
          refine S93.trans ?_
          exact own_retZ X64 hx Bd.returns (by decide) (hb hby at_308) hr
        rw [hΩ] at hfin
        refine ⟨_, _, hfin, hrun, hended, _, _, rfl, ?_, ⟨_, rfl⟩, hW, hsame.mono (by decide) (by decide)⟩
        show Q0 Z a1 a2 a3 a4 ee vv h0 n0 _ T64.heap _
        rw [e64]
        exact ⟨rfl, N64⟩
  · have qh67 : ¬ la.toInt < 3 := fun q => h67 (Int32.lt_iff_toInt_lt.mpr q)
    have S94 : Steps p.tables e below Ω (T64.setTop (mkF m 246 #[.val (.int a1), .val (.int a2), .val (.int a3), .val (.int a4), .val (.int ee), .val (.int vv), .val (.int x0), .val (.int x1), .val (.int x2), .val (.int x3), .val (.int y0), .val (.int y2), .val (.int y1), .val (.int y3), .val (.int y0), .val (.int u1), .val (.int u2), .val (.int u3), .val (.int la), .val (.int md), .val (.int val), .val (.ref b), .val (.int r), .unset] [(.int val), (.int u3)])) := by
      refine S66.trans ?_
      refine XS.icmpNo X64.here hx rfl (hb hby at_239) rfl (XT.ii_lt_f h67) ?_
      show Steps p.tables e below (T64.setTop (mkF m 242 #[.val (.int a1), .val (.int a2), .val (.int a3), .val (.int a4), .val (.int ee), .val (.int vv), .val (.int x0), .val (.int x1), .val (.int x2), .val (.int x3), .val (.int y0), .val (.int y2), .val (.int y1), .val (.int y3), .val (.int y0), .val (.int u1), .val (.int u2), .val (.int u3), .val (.int la), .val (.int md), .val (.int val), .val (.ref b), .val (.int r), .unset] [])) _
      refine XS.iload X64.here hx rfl (hb hby at_242) rfl ?_
      show Steps p.tables e below (T64.setTop (mkF m 244 #[.val (.int a1), .val (.int a2), .val (.int a3), .val (.int a4), .val (.int ee), .val (.int vv), .val (.int x0), .val (.int x1), .val (.int x2), .val (.int x3), .val (.int y0), .val (.int y2), .val (.int y1), .val (.int y3), .val (.int y0), .val (.int u1), .val (.int u2), .val (.int u3), .val (.int la), .val (.int md), .val (.int val), .val (.ref b), .val (.int r), .unset] [(.int u3)])) _
      refine XS.iload X64.here hx rfl (hb hby at_244) rfl ?_
      exact Steps.refl _
    by_cases h95 : val < u3
    · have qh95 : val.toInt < u3.toInt := Int32.lt_iff_toInt_lt.mp h95
      have S96 : Steps p.tables e below Ω (T64.setTop (mkF m 258 #[.val (.int a1), .val (.int a2), .val (.int a3), .val (.int a4), .val (.int ee), .val (.int vv), .val (.int x0), .val (.int x1), .val (.int x2), .val (.int x3), .val (.int y0), .val (.int y2), .val (.int y1), .val (.int y3), .val (.int y0), .val (.int u1), .val (.int u2), .val (.int u3), .val (.int la), .val (.int md), .val (.int val), .val (.ref b), .val (.int r), .unset] [(.int (2 : Int32)), (.int la)])) := by
        refine S94.trans ?_
        refine XS.icmpYes X64.here hx rfl (pc0 := 246) (pc' := 255) rfl (hb hby at_246) rfl (XT.ii_gt_t h95) (by decide) (by decide) ?_
        show Steps p.tables e below (T64.setTop (mkF m 255 #[.val (.int a1), .val (.int a2), .val (.int a3), .val (.int a4), .val (.int ee), .val (.int vv), .val (.int x0), .val (.int x1), .val (.int x2), .val (.int x3), .val (.int y0), .val (.int y2), .val (.int y1), .val (.int y3), .val (.int y0), .val (.int u1), .val (.int u2), .val (.int u3), .val (.int la), .val (.int md), .val (.int val), .val (.ref b), .val (.int r), .unset] [])) _
        refine XS.iload X64.here hx rfl (hb hby at_255) rfl ?_
        show Steps p.tables e below (T64.setTop (mkF m 257 #[.val (.int a1), .val (.int a2), .val (.int a3), .val (.int a4), .val (.int ee), .val (.int vv), .val (.int x0), .val (.int x1), .val (.int x2), .val (.int x3), .val (.int y0), .val (.int y2), .val (.int y1), .val (.int y3), .val (.int y0), .val (.int u1), .val (.int u2), .val (.int u3), .val (.int la), .val (.int md), .val (.int val), .val (.ref b), .val (.int r), .unset] [(.int la)])) _
        refine XS.iconst X64.here hx rfl (hb hby at_257) ?_
        exact Steps.refl _
      by_cases h97 : la < (2 : Int32)
      · have qh97 : la.toInt < 2 := Int32.lt_iff_toInt_lt.mp h97
        have S98 : Steps p.tables e below Ω (T64.setTop (mkF m 277 #[.val (.int a1), .val (.int a2), .val (.int a3), .val (.int a4), .val (.int ee), .val (.int vv), .val (.int x0), .val (.int x1), .val (.int x2), .val (.int x3), .val (.int y0), .val (.int y2), .val (.int y1), .val (.int y3), .val (.int y0), .val (.int u1), .val (.int u2), .val (.int u3), .val (.int la), .val (.int md), .val (.int val), .val (.ref b), .val (.int r), .unset] [(.int (1 : Int32)), (.int la)])) := by
          refine S96.trans ?_
          refine XS.icmpYes X64.here hx rfl (pc0 := 258) (pc' := 274) rfl (hb hby at_258) rfl (XT.ii_lt_t h97) (by decide) (by decide) ?_
          show Steps p.tables e below (T64.setTop (mkF m 274 #[.val (.int a1), .val (.int a2), .val (.int a3), .val (.int a4), .val (.int ee), .val (.int vv), .val (.int x0), .val (.int x1), .val (.int x2), .val (.int x3), .val (.int y0), .val (.int y2), .val (.int y1), .val (.int y3), .val (.int y0), .val (.int u1), .val (.int u2), .val (.int u3), .val (.int la), .val (.int md), .val (.int val), .val (.ref b), .val (.int r), .unset] [])) _
          refine XS.iload X64.here hx rfl (hb hby at_274) rfl ?_
          show Steps p.tables e below (T64.setTop (mkF m 276 #[.val (.int a1), .val (.int a2), .val (.int a3), .val (.int a4), .val (.int ee), .val (.int vv), .val (.int x0), .val (.int x1), .val (.int x2), .val (.int x3), .val (.int y0), .val (.int y2), .val (.int y1), .val (.int y3), .val (.int y0), .val (.int u1), .val (.int u2), .val (.int u3), .val (.int la), .val (.int md), .val (.int val), .val (.ref b), .val (.int r), .unset] [(.int la)])) _
          refine XS.iconst X64.here hx rfl (hb hby at_276) ?_
          exact Steps.refl _
        by_cases h99 : la < (1 : Int32)
        · have qh99 : la.toInt < 1 := Int32.lt_iff_toInt_lt.mp h99
          have S100 : Steps p.tables e below Ω (T64.setTop (mkF m 300 #[.val (.int a1), .val (.int a2), .val (.int a3), .val (.int a4), .val (.int ee), .val (.int vv), .val (.int x0), .val (.int x1), .val (.int x2), .val (.int x3), .val (.int y0), .val (.int y2), .val (.int y1), .val (.int y3), .val (.int y0), .val (.int u1), .val (.int u2), .val (.int u3), .val (.int la), .val (.int md), .val (.int val), .val (.ref b), .val (.int r), .val (.int (0 : Int32))] [(.int (0 : Int32)), (.int r)])) := by
            refine S98.trans ?_
            refine XS.icmpYes X64.here hx rfl (pc0 := 277) (pc' := 293) rfl (hb hby at_277) rfl (XT.ii_lt_t h99) (by decide) (by decide) ?_
            show Steps p.tables e below (T64.setTop (mkF m 293 #[.val (.int a1), .val (.int a2), .val (.int a3), .val (.int a4), .val (.int ee), .val (.int vv), .val (.int x0), .val (.int x1), .val (.int x2), .val (.int x3), .val (.int y0), .val (.int y2), .val (.int y1), .val (.int y3), .val (.int y0), .val (.int u1), .val (.int u2), .val (.int u3), .val (.int la), .val (.int md), .val (.int val), .val (.ref b), .val (.int r), .unset] [])) _
            refine XS.iconst X64.here hx rfl (hb hby at_293) ?_
            show Steps p.tables e below (T64.setTop (mkF m 294 #[.val (.int a1), .val (.int a2), .val (.int a3), .val (.int a4), .val (.int ee), .val (.int vv), .val (.int x0), .val (.int x1), .val (.int x2), .val (.int x3), .val (.int y0), .val (.int y2), .val (.int y1), .val (.int y3), .val (.int y0), .val (.int u1), .val (.int u2), .val (.int u3), .val (.int la), .val (.int md), .val (.int val), .val (.ref b), .val (.int r), .unset] [(.int (0 : Int32))])) _
            refine XS.istore X64.here hx rfl (hb hby at_294) rfl (l' := #[.val (.int a1), .val (.int a2), .val (.int a3), .val (.int a4), .val (.int ee), .val (.int vv), .val (.int x0), .val (.int x1), .val (.int x2), .val (.int x3), .val (.int y0), .val (.int y2), .val (.int y1), .val (.int y3), .val (.int y0), .val (.int u1), .val (.int u2), .val (.int u3), .val (.int la), .val (.int md), .val (.int val), .val (.ref b), .val (.int r), .val (.int (0 : Int32))]) rfl ?_
            show Steps p.tables e below (T64.setTop (mkF m 296 #[.val (.int a1), .val (.int a2), .val (.int a3), .val (.int a4), .val (.int ee), .val (.int vv), .val (.int x0), .val (.int x1), .val (.int x2), .val (.int x3), .val (.int y0), .val (.int y2), .val (.int y1), .val (.int y3), .val (.int y0), .val (.int u1), .val (.int u2), .val (.int u3), .val (.int la), .val (.int md), .val (.int val), .val (.ref b), .val (.int r), .val (.int (0 : Int32))] [])) _
            refine XS.iload X64.here hx rfl (hb hby at_296) rfl ?_
            show Steps p.tables e below (T64.setTop (mkF m 298 #[.val (.int a1), .val (.int a2), .val (.int a3), .val (.int a4), .val (.int ee), .val (.int vv), .val (.int x0), .val (.int x1), .val (.int x2), .val (.int x3), .val (.int y0), .val (.int y2), .val (.int y1), .val (.int y3), .val (.int y0), .val (.int u1), .val (.int u2), .val (.int u3), .val (.int la), .val (.int md), .val (.int val), .val (.ref b), .val (.int r), .val (.int (0 : Int32))] [(.int r)])) _
            refine XS.iload X64.here hx rfl (hb hby at_298) rfl ?_
            exact Steps.refl _
          have S101 : Steps p.tables e below Ω (T64.setTop (mkF m 308 #[.val (.int a1), .val (.int a2), .val (.int a3), .val (.int a4), .val (.int ee), .val (.int vv), .val (.int x0), .val (.int x1), .val (.int x2), .val (.int x3), .val (.int y0), .val (.int y2), .val (.int y1), .val (.int y3), .val (.int y0), .val (.int u1), .val (.int u2), .val (.int u3), .val (.int la), .val (.int md), .val (.int val), .val (.ref b), .val (.int r), .val (.int (0 : Int32))] [(.int (1 : Int32))])) := by
            refine S100.trans ?_
            refine XS.icmpNo X64.here hx rfl (hb hby at_300) rfl (XT.ii_ne_f (Int32.toInt_inj.mp (by have e : (0 : Int32).toInt = 0 := (by decide); omega))) ?_
            show Steps p.tables e below (T64.setTop (mkF m 303 #[.val (.int a1), .val (.int a2), .val (.int a3), .val (.int a4), .val (.int ee), .val (.int vv), .val (.int x0), .val (.int x1), .val (.int x2), .val (.int x3), .val (.int y0), .val (.int y2), .val (.int y1), .val (.int y3), .val (.int y0), .val (.int u1), .val (.int u2), .val (.int u3), .val (.int la), .val (.int md), .val (.int val), .val (.ref b), .val (.int r), .val (.int (0 : Int32))] [])) _
            refine XS.iconst X64.here hx rfl (hb hby at_303) ?_
            show Steps p.tables e below (T64.setTop (mkF m 304 #[.val (.int a1), .val (.int a2), .val (.int a3), .val (.int a4), .val (.int ee), .val (.int vv), .val (.int x0), .val (.int x1), .val (.int x2), .val (.int x3), .val (.int y0), .val (.int y2), .val (.int y1), .val (.int y3), .val (.int y0), .val (.int u1), .val (.int u2), .val (.int u3), .val (.int la), .val (.int md), .val (.int val), .val (.ref b), .val (.int r), .val (.int (0 : Int32))] [(.int (1 : Int32))])) _
            refine XS.goto X64.here hx rfl (pc0 := 304) (pc' := 308) rfl (hb hby at_304) (by decide) (by decide) ?_
            exact Steps.refl _
          obtain ⟨fs, hr, hrun, hended, hW, hsame⟩ := X64.leave (v := some (.int (1 : Int32))) (fun h => by rw [Bd.returns] at h; cases h)
          have hfin : Steps p.tables e below Ω (T64.setFrames fs) := by
            refine S101.trans ?_
            exact own_retZ X64 hx Bd.returns (by decide) (hb hby at_308) hr
          rw [hΩ] at hfin
          refine ⟨_, _, hfin, hrun, hended, _, _, rfl, ?_, ⟨_, rfl⟩, hW, hsame.mono (by decide) (by decide)⟩
          show Q0 Z a1 a2 a3 a4 ee vv h0 n0 _ T64.heap _
          rw [e64]
          exact ⟨rfl, N64⟩
        · have qh99 : ¬ la.toInt < 1 := fun q => h99 (Int32.lt_iff_toInt_lt.mpr q)
          have S102 : Steps p.tables e below Ω (T64.setTop (mkF m 284 #[.val (.int a1), .val (.int a2), .val (.int a3), .val (.int a4), .val (.int ee), .val (.int vv), .val (.int x0), .val (.int x1), .val (.int x2), .val (.int x3), .val (.int y0), .val (.int y2), .val (.int y1), .val (.int y3), .val (.int y0), .val (.int u1), .val (.int u2), .val (.int u3), .val (.int la), .val (.int md), .val (.int val), .val (.ref b), .val (.int r), .unset] [(.int val), (.int u1)])) := by
            refine S98.trans ?_
            refine XS.icmpNo X64.here hx rfl (hb hby at_277) rfl (XT.ii_lt_f h99) ?_
            show Steps p.tables e below (T64.setTop (mkF m 280 #[.val (.int a1), .val (.int a2), .val (.int a3), .val (.int a4), .val (.int ee), .val (.int vv), .val (.int x0), .val (.int x1), .val (.int x2), .val (.int x3), .val (.int y0), .val (.int y2), .val (.int y1), .val (.int y3), .val (.int y0), .val (.int u1), .val (.int u2), .val (.int u3), .val (.int la), .val (.int md), .val (.int val), .val (.ref b), .val (.int r), .unset] [])) _
            refine XS.iload X64.here hx rfl (hb hby at_280) rfl ?_
            show Steps p.tables e below (T64.setTop (mkF m 282 #[.val (.int a1), .val (.int a2), .val (.int a3), .val (.int a4), .val (.int ee), .val (.int vv), .val (.int x0), .val (.int x1), .val (.int x2), .val (.int x3), .val (.int y0), .val (.int y2), .val (.int y1), .val (.int y3), .val (.int y0), .val (.int u1), .val (.int u2), .val (.int u3), .val (.int la), .val (.int md), .val (.int val), .val (.ref b), .val (.int r), .unset] [(.int u1)])) _
            refine XS.iload X64.here hx rfl (hb hby at_282) rfl ?_
            exact Steps.refl _
          by_cases h103 : val < u1
          · have qh103 : val.toInt < u1.toInt := Int32.lt_iff_toInt_lt.mp h103
            have S104 : Steps p.tables e below Ω (T64.setTop (mkF m 300 #[.val (.int a1), .val (.int a2), .val (.int a3), .val (.int a4), .val (.int ee), .val (.int vv), .val (.int x0), .val (.int x1), .val (.int x2), .val (.int x3), .val (.int y0), .val (.int y2), .val (.int y1), .val (.int y3), .val (.int y0), .val (.int u1), .val (.int u2), .val (.int u3), .val (.int la), .val (.int md), .val (.int val), .val (.ref b), .val (.int r), .val (.int (0 : Int32))] [(.int (0 : Int32)), (.int r)])) := by
              refine S102.trans ?_
              refine XS.icmpYes X64.here hx rfl (pc0 := 284) (pc' := 293) rfl (hb hby at_284) rfl (XT.ii_gt_t h103) (by decide) (by decide) ?_
              show Steps p.tables e below (T64.setTop (mkF m 293 #[.val (.int a1), .val (.int a2), .val (.int a3), .val (.int a4), .val (.int ee), .val (.int vv), .val (.int x0), .val (.int x1), .val (.int x2), .val (.int x3), .val (.int y0), .val (.int y2), .val (.int y1), .val (.int y3), .val (.int y0), .val (.int u1), .val (.int u2), .val (.int u3), .val (.int la), .val (.int md), .val (.int val), .val (.ref b), .val (.int r), .unset] [])) _
              refine XS.iconst X64.here hx rfl (hb hby at_293) ?_
              show Steps p.tables e below (T64.setTop (mkF m 294 #[.val (.int a1), .val (.int a2), .val (.int a3), .val (.int a4), .val (.int ee), .val (.int vv), .val (.int x0), .val (.int x1), .val (.int x2), .val (.int x3), .val (.int y0), .val (.int y2), .val (.int y1), .val (.int y3), .val (.int y0), .val (.int u1), .val (.int u2), .val (.int u3), .val (.int la), .val (.int md), .val (.int val), .val (.ref b), .val (.int r), .unset] [(.int (0 : Int32))])) _
              refine XS.istore X64.here hx rfl (hb hby at_294) rfl (l' := #[.val (.int a1), .val (.int a2), .val (.int a3), .val (.int a4), .val (.int ee), .val (.int vv), .val (.int x0), .val (.int x1), .val (.int x2), .val (.int x3), .val (.int y0), .val (.int y2), .val (.int y1), .val (.int y3), .val (.int y0), .val (.int u1), .val (.int u2), .val (.int u3), .val (.int la), .val (.int md), .val (.int val), .val (.ref b), .val (.int r), .val (.int (0 : Int32))]) rfl ?_
              show Steps p.tables e below (T64.setTop (mkF m 296 #[.val (.int a1), .val (.int a2), .val (.int a3), .val (.int a4), .val (.int ee), .val (.int vv), .val (.int x0), .val (.int x1), .val (.int x2), .val (.int x3), .val (.int y0), .val (.int y2), .val (.int y1), .val (.int y3), .val (.int y0), .val (.int u1), .val (.int u2), .val (.int u3), .val (.int la), .val (.int md), .val (.int val), .val (.ref b), .val (.int r), .val (.int (0 : Int32))] [])) _
              refine XS.iload X64.here hx rfl (hb hby at_296) rfl ?_
              show Steps p.tables e below (T64.setTop (mkF m 298 #[.val (.int a1), .val (.int a2), .val (.int a3), .val (.int a4), .val (.int ee), .val (.int vv), .val (.int x0), .val (.int x1), .val (.int x2), .val (.int x3), .val (.int y0), .val (.int y2), .val (.int y1), .val (.int y3), .val (.int y0), .val (.int u1), .val (.int u2), .val (.int u3), .val (.int la), .val (.int md), .val (.int val), .val (.ref b), .val (.int r), .val (.int (0 : Int32))] [(.int r)])) _
              refine XS.iload X64.here hx rfl (hb hby at_298) rfl ?_
              exact Steps.refl _
            have S105 : Steps p.tables e below Ω (T64.setTop (mkF m 308 #[.val (.int a1), .val (.int a2), .val (.int a3), .val (.int a4), .val (.int ee), .val (.int vv), .val (.int x0), .val (.int x1), .val (.int x2), .val (.int x3), .val (.int y0), .val (.int y2), .val (.int y1), .val (.int y3), .val (.int y0), .val (.int u1), .val (.int u2), .val (.int u3), .val (.int la), .val (.int md), .val (.int val), .val (.ref b), .val (.int r), .val (.int (0 : Int32))] [(.int (1 : Int32))])) := by
              refine S104.trans ?_
              refine XS.icmpNo X64.here hx rfl (hb hby at_300) rfl (XT.ii_ne_f (Int32.toInt_inj.mp (by have e : (0 : Int32).toInt = 0 := (by decide); omega))) ?_
              show Steps p.tables e below (T64.setTop (mkF m 303 #[.val (.int a1), .val (.int a2), .val (.int a3), .val (.int a4), .val (.int ee), .val (.int vv), .val (.int x0), .val (.int x1), .val (.int x2), .val (.int x3), .val (.int y0), .val (.int y2), .val (.int y1), .val (.int y3), .val (.int y0), .val (.int u1), .val (.int u2), .val (.int u3), .val (.int la), .val (.int md), .val (.int val), .val (.ref b), .val (.int r), .val (.int (0 : Int32))] [])) _
              refine XS.iconst X64.here hx rfl (hb hby at_303) ?_
              show Steps p.tables e below (T64.setTop (mkF m 304 #[.val (.int a1), .val (.int a2), .val (.int a3), .val (.int a4), .val (.int ee), .val (.int vv), .val (.int x0), .val (.int x1), .val (.int x2), .val (.int x3), .val (.int y0), .val (.int y2), .val (.int y1), .val (.int y3), .val (.int y0), .val (.int u1), .val (.int u2), .val (.int u3), .val (.int la), .val (.int md), .val (.int val), .val (.ref b), .val (.int r), .val (.int (0 : Int32))] [(.int (1 : Int32))])) _
              refine XS.goto X64.here hx rfl (pc0 := 304) (pc' := 308) rfl (hb hby at_304) (by decide) (by decide) ?_
              exact Steps.refl _
            obtain ⟨fs, hr, hrun, hended, hW, hsame⟩ := X64.leave (v := some (.int (1 : Int32))) (fun h => by rw [Bd.returns] at h; cases h)
            have hfin : Steps p.tables e below Ω (T64.setFrames fs) := by
              refine S105.trans ?_
              exact own_retZ X64 hx Bd.returns (by decide) (hb hby at_308) hr
            rw [hΩ] at hfin
            refine ⟨_, _, hfin, hrun, hended, _, _, rfl, ?_, ⟨_, rfl⟩, hW, hsame.mono (by decide) (by decide)⟩
            show Q0 Z a1 a2 a3 a4 ee vv h0 n0 _ T64.heap _
            rw [e64]
            exact ⟨rfl, N64⟩
          · have qh103 : ¬ val.toInt < u1.toInt := fun q => h103 (Int32.lt_iff_toInt_lt.mpr q)
            have S106 : Steps p.tables e below Ω (T64.setTop (mkF m 300 #[.val (.int a1), .val (.int a2), .val (.int a3), .val (.int a4), .val (.int ee), .val (.int vv), .val (.int x0), .val (.int x1), .val (.int x2), .val (.int x3), .val (.int y0), .val (.int y2), .val (.int y1), .val (.int y3), .val (.int y0), .val (.int u1), .val (.int u2), .val (.int u3), .val (.int la), .val (.int md), .val (.int val), .val (.ref b), .val (.int r), .val (.int (1 : Int32))] [(.int (1 : Int32)), (.int r)])) := by
              refine S102.trans ?_
              refine XS.icmpNo X64.here hx rfl (hb hby at_284) rfl (XT.ii_gt_f h103) ?_
              show Steps p.tables e below (T64.setTop (mkF m 287 #[.val (.int a1), .val (.int a2), .val (.int a3), .val (.int a4), .val (.int ee), .val (.int vv), .val (.int x0), .val (.int x1), .val (.int x2), .val (.int x3), .val (.int y0), .val (.int y2), .val (.int y1), .val (.int y3), .val (.int y0), .val (.int u1), .val (.int u2), .val (.int u3), .val (.int la), .val (.int md), .val (.int val), .val (.ref b), .val (.int r), .unset] [])) _
              refine XS.iconst X64.here hx rfl (hb hby at_287) ?_
              show Steps p.tables e below (T64.setTop (mkF m 288 #[.val (.int a1), .val (.int a2), .val (.int a3), .val (.int a4), .val (.int ee), .val (.int vv), .val (.int x0), .val (.int x1), .val (.int x2), .val (.int x3), .val (.int y0), .val (.int y2), .val (.int y1), .val (.int y3), .val (.int y0), .val (.int u1), .val (.int u2), .val (.int u3), .val (.int la), .val (.int md), .val (.int val), .val (.ref b), .val (.int r), .unset] [(.int (1 : Int32))])) _
              refine XS.istore X64.here hx rfl (hb hby at_288) rfl (l' := #[.val (.int a1), .val (.int a2), .val (.int a3), .val (.int a4), .val (.int ee), .val (.int vv), .val (.int x0), .val (.int x1), .val (.int x2), .val (.int x3), .val (.int y0), .val (.int y2), .val (.int y1), .val (.int y3), .val (.int y0), .val (.int u1), .val (.int u2), .val (.int u3), .val (.int la), .val (.int md), .val (.int val), .val (.ref b), .val (.int r), .val (.int (1 : Int32))]) rfl ?_
              show Steps p.tables e below (T64.setTop (mkF m 290 #[.val (.int a1), .val (.int a2), .val (.int a3), .val (.int a4), .val (.int ee), .val (.int vv), .val (.int x0), .val (.int x1), .val (.int x2), .val (.int x3), .val (.int y0), .val (.int y2), .val (.int y1), .val (.int y3), .val (.int y0), .val (.int u1), .val (.int u2), .val (.int u3), .val (.int la), .val (.int md), .val (.int val), .val (.ref b), .val (.int r), .val (.int (1 : Int32))] [])) _
              refine XS.goto X64.here hx rfl (pc0 := 290) (pc' := 296) rfl (hb hby at_290) (by decide) (by decide) ?_
              show Steps p.tables e below (T64.setTop (mkF m 296 #[.val (.int a1), .val (.int a2), .val (.int a3), .val (.int a4), .val (.int ee), .val (.int vv), .val (.int x0), .val (.int x1), .val (.int x2), .val (.int x3), .val (.int y0), .val (.int y2), .val (.int y1), .val (.int y3), .val (.int y0), .val (.int u1), .val (.int u2), .val (.int u3), .val (.int la), .val (.int md), .val (.int val), .val (.ref b), .val (.int r), .val (.int (1 : Int32))] [])) _
              refine XS.iload X64.here hx rfl (hb hby at_296) rfl ?_
              show Steps p.tables e below (T64.setTop (mkF m 298 #[.val (.int a1), .val (.int a2), .val (.int a3), .val (.int a4), .val (.int ee), .val (.int vv), .val (.int x0), .val (.int x1), .val (.int x2), .val (.int x3), .val (.int y0), .val (.int y2), .val (.int y1), .val (.int y3), .val (.int y0), .val (.int u1), .val (.int u2), .val (.int u3), .val (.int la), .val (.int md), .val (.int val), .val (.ref b), .val (.int r), .val (.int (1 : Int32))] [(.int r)])) _
              refine XS.iload X64.here hx rfl (hb hby at_298) rfl ?_
              exact Steps.refl _
            have S107 : Steps p.tables e below Ω (T64.setTop (mkF m 308 #[.val (.int a1), .val (.int a2), .val (.int a3), .val (.int a4), .val (.int ee), .val (.int vv), .val (.int x0), .val (.int x1), .val (.int x2), .val (.int x3), .val (.int y0), .val (.int y2), .val (.int y1), .val (.int y3), .val (.int y0), .val (.int u1), .val (.int u2), .val (.int u3), .val (.int la), .val (.int md), .val (.int val), .val (.ref b), .val (.int r), .val (.int (1 : Int32))] [(.int (1 : Int32))])) := by
              refine S106.trans ?_
              refine XS.icmpNo X64.here hx rfl (hb hby at_300) rfl (XT.ii_ne_f (Int32.toInt_inj.mp (by have e : (1 : Int32).toInt = 1 := (by decide); omega))) ?_
              show Steps p.tables e below (T64.setTop (mkF m 303 #[.val (.int a1), .val (.int a2), .val (.int a3), .val (.int a4), .val (.int ee), .val (.int vv), .val (.int x0), .val (.int x1), .val (.int x2), .val (.int x3), .val (.int y0), .val (.int y2), .val (.int y1), .val (.int y3), .val (.int y0), .val (.int u1), .val (.int u2), .val (.int u3), .val (.int la), .val (.int md), .val (.int val), .val (.ref b), .val (.int r), .val (.int (1 : Int32))] [])) _
              refine XS.iconst X64.here hx rfl (hb hby at_303) ?_
              show Steps p.tables e below (T64.setTop (mkF m 304 #[.val (.int a1), .val (.int a2), .val (.int a3), .val (.int a4), .val (.int ee), .val (.int vv), .val (.int x0), .val (.int x1), .val (.int x2), .val (.int x3), .val (.int y0), .val (.int y2), .val (.int y1), .val (.int y3), .val (.int y0), .val (.int u1), .val (.int u2), .val (.int u3), .val (.int la), .val (.int md), .val (.int val), .val (.ref b), .val (.int r), .val (.int (1 : Int32))] [(.int (1 : Int32))])) _
              refine XS.goto X64.here hx rfl (pc0 := 304) (pc' := 308) rfl (hb hby at_304) (by decide) (by decide) ?_
              exact Steps.refl _
            obtain ⟨fs, hr, hrun, hended, hW, hsame⟩ := X64.leave (v := some (.int (1 : Int32))) (fun h => by rw [Bd.returns] at h; cases h)
            have hfin : Steps p.tables e below Ω (T64.setFrames fs) := by
              refine S107.trans ?_
              exact own_retZ X64 hx Bd.returns (by decide) (hb hby at_308) hr
            rw [hΩ] at hfin
            refine ⟨_, _, hfin, hrun, hended, _, _, rfl, ?_, ⟨_, rfl⟩, hW, hsame.mono (by decide) (by decide)⟩
            show Q0 Z a1 a2 a3 a4 ee vv h0 n0 _ T64.heap _
            rw [e64]
            exact ⟨rfl, N64⟩
      · have qh97 : ¬ la.toInt < 2 := fun q => h97 (Int32.lt_iff_toInt_lt.mpr q)
        have S108 : Steps p.tables e below Ω (T64.setTop (mkF m 265 #[.val (.int a1), .val (.int a2), .val (.int a3), .val (.int a4), .val (.int ee), .val (.int vv), .val (.int x0), .val (.int x1), .val (.int x2), .val (.int x3), .val (.int y0), .val (.int y2), .val (.int y1), .val (.int y3), .val (.int y0), .val (.int u1), .val (.int u2), .val (.int u3), .val (.int la), .val (.int md), .val (.int val), .val (.ref b), .val (.int r), .unset] [(.int val), (.int u2)])) := by
          refine S96.trans ?_
          refine XS.icmpNo X64.here hx rfl (hb hby at_258) rfl (XT.ii_lt_f h97) ?_
          show Steps p.tables e below (T64.setTop (mkF m 261 #[.val (.int a1), .val (.int a2), .val (.int a3), .val (.int a4), .val (.int ee), .val (.int vv), .val (.int x0), .val (.int x1), .val (.int x2), .val (.int x3), .val (.int y0), .val (.int y2), .val (.int y1), .val (.int y3), .val (.int y0), .val (.int u1), .val (.int u2), .val (.int u3), .val (.int la), .val (.int md), .val (.int val), .val (.ref b), .val (.int r), .unset] [])) _
          refine XS.iload X64.here hx rfl (hb hby at_261) rfl ?_
          show Steps p.tables e below (T64.setTop (mkF m 263 #[.val (.int a1), .val (.int a2), .val (.int a3), .val (.int a4), .val (.int ee), .val (.int vv), .val (.int x0), .val (.int x1), .val (.int x2), .val (.int x3), .val (.int y0), .val (.int y2), .val (.int y1), .val (.int y3), .val (.int y0), .val (.int u1), .val (.int u2), .val (.int u3), .val (.int la), .val (.int md), .val (.int val), .val (.ref b), .val (.int r), .unset] [(.int u2)])) _
          refine XS.iload X64.here hx rfl (hb hby at_263) rfl ?_
          exact Steps.refl _
        by_cases h109 : val < u2
        · have qh109 : val.toInt < u2.toInt := Int32.lt_iff_toInt_lt.mp h109
          have S110 : Steps p.tables e below Ω (T64.setTop (mkF m 277 #[.val (.int a1), .val (.int a2), .val (.int a3), .val (.int a4), .val (.int ee), .val (.int vv), .val (.int x0), .val (.int x1), .val (.int x2), .val (.int x3), .val (.int y0), .val (.int y2), .val (.int y1), .val (.int y3), .val (.int y0), .val (.int u1), .val (.int u2), .val (.int u3), .val (.int la), .val (.int md), .val (.int val), .val (.ref b), .val (.int r), .unset] [(.int (1 : Int32)), (.int la)])) := by
            refine S108.trans ?_
            refine XS.icmpYes X64.here hx rfl (pc0 := 265) (pc' := 274) rfl (hb hby at_265) rfl (XT.ii_gt_t h109) (by decide) (by decide) ?_
            show Steps p.tables e below (T64.setTop (mkF m 274 #[.val (.int a1), .val (.int a2), .val (.int a3), .val (.int a4), .val (.int ee), .val (.int vv), .val (.int x0), .val (.int x1), .val (.int x2), .val (.int x3), .val (.int y0), .val (.int y2), .val (.int y1), .val (.int y3), .val (.int y0), .val (.int u1), .val (.int u2), .val (.int u3), .val (.int la), .val (.int md), .val (.int val), .val (.ref b), .val (.int r), .unset] [])) _
            refine XS.iload X64.here hx rfl (hb hby at_274) rfl ?_
            show Steps p.tables e below (T64.setTop (mkF m 276 #[.val (.int a1), .val (.int a2), .val (.int a3), .val (.int a4), .val (.int ee), .val (.int vv), .val (.int x0), .val (.int x1), .val (.int x2), .val (.int x3), .val (.int y0), .val (.int y2), .val (.int y1), .val (.int y3), .val (.int y0), .val (.int u1), .val (.int u2), .val (.int u3), .val (.int la), .val (.int md), .val (.int val), .val (.ref b), .val (.int r), .unset] [(.int la)])) _
            refine XS.iconst X64.here hx rfl (hb hby at_276) ?_
            exact Steps.refl _
          by_cases h111 : la < (1 : Int32)
          · have qh111 : la.toInt < 1 := Int32.lt_iff_toInt_lt.mp h111
            have S112 : Steps p.tables e below Ω (T64.setTop (mkF m 300 #[.val (.int a1), .val (.int a2), .val (.int a3), .val (.int a4), .val (.int ee), .val (.int vv), .val (.int x0), .val (.int x1), .val (.int x2), .val (.int x3), .val (.int y0), .val (.int y2), .val (.int y1), .val (.int y3), .val (.int y0), .val (.int u1), .val (.int u2), .val (.int u3), .val (.int la), .val (.int md), .val (.int val), .val (.ref b), .val (.int r), .val (.int (0 : Int32))] [(.int (0 : Int32)), (.int r)])) := by
              refine S110.trans ?_
              refine XS.icmpYes X64.here hx rfl (pc0 := 277) (pc' := 293) rfl (hb hby at_277) rfl (XT.ii_lt_t h111) (by decide) (by decide) ?_
              show Steps p.tables e below (T64.setTop (mkF m 293 #[.val (.int a1), .val (.int a2), .val (.int a3), .val (.int a4), .val (.int ee), .val (.int vv), .val (.int x0), .val (.int x1), .val (.int x2), .val (.int x3), .val (.int y0), .val (.int y2), .val (.int y1), .val (.int y3), .val (.int y0), .val (.int u1), .val (.int u2), .val (.int u3), .val (.int la), .val (.int md), .val (.int val), .val (.ref b), .val (.int r), .unset] [])) _
              refine XS.iconst X64.here hx rfl (hb hby at_293) ?_
              show Steps p.tables e below (T64.setTop (mkF m 294 #[.val (.int a1), .val (.int a2), .val (.int a3), .val (.int a4), .val (.int ee), .val (.int vv), .val (.int x0), .val (.int x1), .val (.int x2), .val (.int x3), .val (.int y0), .val (.int y2), .val (.int y1), .val (.int y3), .val (.int y0), .val (.int u1), .val (.int u2), .val (.int u3), .val (.int la), .val (.int md), .val (.int val), .val (.ref b), .val (.int r), .unset] [(.int (0 : Int32))])) _
              refine XS.istore X64.here hx rfl (hb hby at_294) rfl (l' := #[.val (.int a1), .val (.int a2), .val (.int a3), .val (.int a4), .val (.int ee), .val (.int vv), .val (.int x0), .val (.int x1), .val (.int x2), .val (.int x3), .val (.int y0), .val (.int y2), .val (.int y1), .val (.int y3), .val (.int y0), .val (.int u1), .val (.int u2), .val (.int u3), .val (.int la), .val (.int md), .val (.int val), .val (.ref b), .val (.int r), .val (.int (0 : Int32))]) rfl ?_
              show Steps p.tables e below (T64.setTop (mkF m 296 #[.val (.int a1), .val (.int a2), .val (.int a3), .val (.int a4), .val (.int ee), .val (.int vv), .val (.int x0), .val (.int x1), .val (.int x2), .val (.int x3), .val (.int y0), .val (.int y2), .val (.int y1), .val (.int y3), .val (.int y0), .val (.int u1), .val (.int u2), .val (.int u3), .val (.int la), .val (.int md), .val (.int val), .val (.ref b), .val (.int r), .val (.int (0 : Int32))] [])) _
              refine XS.iload X64.here hx rfl (hb hby at_296) rfl ?_
              show Steps p.tables e below (T64.setTop (mkF m 298 #[.val (.int a1), .val (.int a2), .val (.int a3), .val (.int a4), .val (.int ee), .val (.int vv), .val (.int x0), .val (.int x1), .val (.int x2), .val (.int x3), .val (.int y0), .val (.int y2), .val (.int y1), .val (.int y3), .val (.int y0), .val (.int u1), .val (.int u2), .val (.int u3), .val (.int la), .val (.int md), .val (.int val), .val (.ref b), .val (.int r), .val (.int (0 : Int32))] [(.int r)])) _
              refine XS.iload X64.here hx rfl (hb hby at_298) rfl ?_
              exact Steps.refl _
            have S113 : Steps p.tables e below Ω (T64.setTop (mkF m 308 #[.val (.int a1), .val (.int a2), .val (.int a3), .val (.int a4), .val (.int ee), .val (.int vv), .val (.int x0), .val (.int x1), .val (.int x2), .val (.int x3), .val (.int y0), .val (.int y2), .val (.int y1), .val (.int y3), .val (.int y0), .val (.int u1), .val (.int u2), .val (.int u3), .val (.int la), .val (.int md), .val (.int val), .val (.ref b), .val (.int r), .val (.int (0 : Int32))] [(.int (1 : Int32))])) := by
              refine S112.trans ?_
              refine XS.icmpNo X64.here hx rfl (hb hby at_300) rfl (XT.ii_ne_f (Int32.toInt_inj.mp (by have e : (0 : Int32).toInt = 0 := (by decide); omega))) ?_
              show Steps p.tables e below (T64.setTop (mkF m 303 #[.val (.int a1), .val (.int a2), .val (.int a3), .val (.int a4), .val (.int ee), .val (.int vv), .val (.int x0), .val (.int x1), .val (.int x2), .val (.int x3), .val (.int y0), .val (.int y2), .val (.int y1), .val (.int y3), .val (.int y0), .val (.int u1), .val (.int u2), .val (.int u3), .val (.int la), .val (.int md), .val (.int val), .val (.ref b), .val (.int r), .val (.int (0 : Int32))] [])) _
              refine XS.iconst X64.here hx rfl (hb hby at_303) ?_
              show Steps p.tables e below (T64.setTop (mkF m 304 #[.val (.int a1), .val (.int a2), .val (.int a3), .val (.int a4), .val (.int ee), .val (.int vv), .val (.int x0), .val (.int x1), .val (.int x2), .val (.int x3), .val (.int y0), .val (.int y2), .val (.int y1), .val (.int y3), .val (.int y0), .val (.int u1), .val (.int u2), .val (.int u3), .val (.int la), .val (.int md), .val (.int val), .val (.ref b), .val (.int r), .val (.int (0 : Int32))] [(.int (1 : Int32))])) _
              refine XS.goto X64.here hx rfl (pc0 := 304) (pc' := 308) rfl (hb hby at_304) (by decide) (by decide) ?_
              exact Steps.refl _
            obtain ⟨fs, hr, hrun, hended, hW, hsame⟩ := X64.leave (v := some (.int (1 : Int32))) (fun h => by rw [Bd.returns] at h; cases h)
            have hfin : Steps p.tables e below Ω (T64.setFrames fs) := by
              refine S113.trans ?_
              exact own_retZ X64 hx Bd.returns (by decide) (hb hby at_308) hr
            rw [hΩ] at hfin
            refine ⟨_, _, hfin, hrun, hended, _, _, rfl, ?_, ⟨_, rfl⟩, hW, hsame.mono (by decide) (by decide)⟩
            show Q0 Z a1 a2 a3 a4 ee vv h0 n0 _ T64.heap _
            rw [e64]
            exact ⟨rfl, N64⟩
          · have qh111 : ¬ la.toInt < 1 := fun q => h111 (Int32.lt_iff_toInt_lt.mpr q)
            have S114 : Steps p.tables e below Ω (T64.setTop (mkF m 284 #[.val (.int a1), .val (.int a2), .val (.int a3), .val (.int a4), .val (.int ee), .val (.int vv), .val (.int x0), .val (.int x1), .val (.int x2), .val (.int x3), .val (.int y0), .val (.int y2), .val (.int y1), .val (.int y3), .val (.int y0), .val (.int u1), .val (.int u2), .val (.int u3), .val (.int la), .val (.int md), .val (.int val), .val (.ref b), .val (.int r), .unset] [(.int val), (.int u1)])) := by
              refine S110.trans ?_
              refine XS.icmpNo X64.here hx rfl (hb hby at_277) rfl (XT.ii_lt_f h111) ?_
              show Steps p.tables e below (T64.setTop (mkF m 280 #[.val (.int a1), .val (.int a2), .val (.int a3), .val (.int a4), .val (.int ee), .val (.int vv), .val (.int x0), .val (.int x1), .val (.int x2), .val (.int x3), .val (.int y0), .val (.int y2), .val (.int y1), .val (.int y3), .val (.int y0), .val (.int u1), .val (.int u2), .val (.int u3), .val (.int la), .val (.int md), .val (.int val), .val (.ref b), .val (.int r), .unset] [])) _
              refine XS.iload X64.here hx rfl (hb hby at_280) rfl ?_
              show Steps p.tables e below (T64.setTop (mkF m 282 #[.val (.int a1), .val (.int a2), .val (.int a3), .val (.int a4), .val (.int ee), .val (.int vv), .val (.int x0), .val (.int x1), .val (.int x2), .val (.int x3), .val (.int y0), .val (.int y2), .val (.int y1), .val (.int y3), .val (.int y0), .val (.int u1), .val (.int u2), .val (.int u3), .val (.int la), .val (.int md), .val (.int val), .val (.ref b), .val (.int r), .unset] [(.int u1)])) _
              refine XS.iload X64.here hx rfl (hb hby at_282) rfl ?_
              exact Steps.refl _
            by_cases h115 : val < u1
            · have qh115 : val.toInt < u1.toInt := Int32.lt_iff_toInt_lt.mp h115
              have S116 : Steps p.tables e below Ω (T64.setTop (mkF m 300 #[.val (.int a1), .val (.int a2), .val (.int a3), .val (.int a4), .val (.int ee), .val (.int vv), .val (.int x0), .val (.int x1), .val (.int x2), .val (.int x3), .val (.int y0), .val (.int y2), .val (.int y1), .val (.int y3), .val (.int y0), .val (.int u1), .val (.int u2), .val (.int u3), .val (.int la), .val (.int md), .val (.int val), .val (.ref b), .val (.int r), .val (.int (0 : Int32))] [(.int (0 : Int32)), (.int r)])) := by
                refine S114.trans ?_
                refine XS.icmpYes X64.here hx rfl (pc0 := 284) (pc' := 293) rfl (hb hby at_284) rfl (XT.ii_gt_t h115) (by decide) (by decide) ?_
                show Steps p.tables e below (T64.setTop (mkF m 293 #[.val (.int a1), .val (.int a2), .val (.int a3), .val (.int a4), .val (.int ee), .val (.int vv), .val (.int x0), .val (.int x1), .val (.int x2), .val (.int x3), .val (.int y0), .val (.int y2), .val (.int y1), .val (.int y3), .val (.int y0), .val (.int u1), .val (.int u2), .val (.int u3), .val (.int la), .val (.int md), .val (.int val), .val (.ref b), .val (.int r), .unset] [])) _
                refine XS.iconst X64.here hx rfl (hb hby at_293) ?_
                show Steps p.tables e below (T64.setTop (mkF m 294 #[.val (.int a1), .val (.int a2), .val (.int a3), .val (.int a4), .val (.int ee), .val (.int vv), .val (.int x0), .val (.int x1), .val (.int x2), .val (.int x3), .val (.int y0), .val (.int y2), .val (.int y1), .val (.int y3), .val (.int y0), .val (.int u1), .val (.int u2), .val (.int u3), .val (.int la), .val (.int md), .val (.int val), .val (.ref b), .val (.int r), .unset] [(.int (0 : Int32))])) _
                refine XS.istore X64.here hx rfl (hb hby at_294) rfl (l' := #[.val (.int a1), .val (.int a2), .val (.int a3), .val (.int a4), .val (.int ee), .val (.int vv), .val (.int x0), .val (.int x1), .val (.int x2), .val (.int x3), .val (.int y0), .val (.int y2), .val (.int y1), .val (.int y3), .val (.int y0), .val (.int u1), .val (.int u2), .val (.int u3), .val (.int la), .val (.int md), .val (.int val), .val (.ref b), .val (.int r), .val (.int (0 : Int32))]) rfl ?_
                show Steps p.tables e below (T64.setTop (mkF m 296 #[.val (.int a1), .val (.int a2), .val (.int a3), .val (.int a4), .val (.int ee), .val (.int vv), .val (.int x0), .val (.int x1), .val (.int x2), .val (.int x3), .val (.int y0), .val (.int y2), .val (.int y1), .val (.int y3), .val (.int y0), .val (.int u1), .val (.int u2), .val (.int u3), .val (.int la), .val (.int md), .val (.int val), .val (.ref b), .val (.int r), .val (.int (0 : Int32))] [])) _
                refine XS.iload X64.here hx rfl (hb hby at_296) rfl ?_
                show Steps p.tables e below (T64.setTop (mkF m 298 #[.val (.int a1), .val (.int a2), .val (.int a3), .val (.int a4), .val (.int ee), .val (.int vv), .val (.int x0), .val (.int x1), .val (.int x2), .val (.int x3), .val (.int y0), .val (.int y2), .val (.int y1), .val (.int y3), .val (.int y0), .val (.int u1), .val (.int u2), .val (.int u3), .val (.int la), .val (.int md), .val (.int val), .val (.ref b), .val (.int r), .val (.int (0 : Int32))] [(.int r)])) _
                refine XS.iload X64.here hx rfl (hb hby at_298) rfl ?_
                exact Steps.refl _
              have S117 : Steps p.tables e below Ω (T64.setTop (mkF m 308 #[.val (.int a1), .val (.int a2), .val (.int a3), .val (.int a4), .val (.int ee), .val (.int vv), .val (.int x0), .val (.int x1), .val (.int x2), .val (.int x3), .val (.int y0), .val (.int y2), .val (.int y1), .val (.int y3), .val (.int y0), .val (.int u1), .val (.int u2), .val (.int u3), .val (.int la), .val (.int md), .val (.int val), .val (.ref b), .val (.int r), .val (.int (0 : Int32))] [(.int (1 : Int32))])) := by
                refine S116.trans ?_
                refine XS.icmpNo X64.here hx rfl (hb hby at_300) rfl (XT.ii_ne_f (Int32.toInt_inj.mp (by have e : (0 : Int32).toInt = 0 := (by decide); omega))) ?_
                show Steps p.tables e below (T64.setTop (mkF m 303 #[.val (.int a1), .val (.int a2), .val (.int a3), .val (.int a4), .val (.int ee), .val (.int vv), .val (.int x0), .val (.int x1), .val (.int x2), .val (.int x3), .val (.int y0), .val (.int y2), .val (.int y1), .val (.int y3), .val (.int y0), .val (.int u1), .val (.int u2), .val (.int u3), .val (.int la), .val (.int md), .val (.int val), .val (.ref b), .val (.int r), .val (.int (0 : Int32))] [])) _
                refine XS.iconst X64.here hx rfl (hb hby at_303) ?_
                show Steps p.tables e below (T64.setTop (mkF m 304 #[.val (.int a1), .val (.int a2), .val (.int a3), .val (.int a4), .val (.int ee), .val (.int vv), .val (.int x0), .val (.int x1), .val (.int x2), .val (.int x3), .val (.int y0), .val (.int y2), .val (.int y1), .val (.int y3), .val (.int y0), .val (.int u1), .val (.int u2), .val (.int u3), .val (.int la), .val (.int md), .val (.int val), .val (.ref b), .val (.int r), .val (.int (0 : Int32))] [(.int (1 : Int32))])) _
                refine XS.goto X64.here hx rfl (pc0 := 304) (pc' := 308) rfl (hb hby at_304) (by decide) (by decide) ?_
                exact Steps.refl _
              obtain ⟨fs, hr, hrun, hended, hW, hsame⟩ := X64.leave (v := some (.int (1 : Int32))) (fun h => by rw [Bd.returns] at h; cases h)
              have hfin : Steps p.tables e below Ω (T64.setFrames fs) := by
                refine S117.trans ?_
                exact own_retZ X64 hx Bd.returns (by decide) (hb hby at_308) hr
              rw [hΩ] at hfin
              refine ⟨_, _, hfin, hrun, hended, _, _, rfl, ?_, ⟨_, rfl⟩, hW, hsame.mono (by decide) (by decide)⟩
              show Q0 Z a1 a2 a3 a4 ee vv h0 n0 _ T64.heap _
              rw [e64]
              exact ⟨rfl, N64⟩
            · have qh115 : ¬ val.toInt < u1.toInt := fun q => h115 (Int32.lt_iff_toInt_lt.mpr q)
              have S118 : Steps p.tables e below Ω (T64.setTop (mkF m 300 #[.val (.int a1), .val (.int a2), .val (.int a3), .val (.int a4), .val (.int ee), .val (.int vv), .val (.int x0), .val (.int x1), .val (.int x2), .val (.int x3), .val (.int y0), .val (.int y2), .val (.int y1), .val (.int y3), .val (.int y0), .val (.int u1), .val (.int u2), .val (.int u3), .val (.int la), .val (.int md), .val (.int val), .val (.ref b), .val (.int r), .val (.int (1 : Int32))] [(.int (1 : Int32)), (.int r)])) := by
                refine S114.trans ?_
                refine XS.icmpNo X64.here hx rfl (hb hby at_284) rfl (XT.ii_gt_f h115) ?_
                show Steps p.tables e below (T64.setTop (mkF m 287 #[.val (.int a1), .val (.int a2), .val (.int a3), .val (.int a4), .val (.int ee), .val (.int vv), .val (.int x0), .val (.int x1), .val (.int x2), .val (.int x3), .val (.int y0), .val (.int y2), .val (.int y1), .val (.int y3), .val (.int y0), .val (.int u1), .val (.int u2), .val (.int u3), .val (.int la), .val (.int md), .val (.int val), .val (.ref b), .val (.int r), .unset] [])) _
                refine XS.iconst X64.here hx rfl (hb hby at_287) ?_
                show Steps p.tables e below (T64.setTop (mkF m 288 #[.val (.int a1), .val (.int a2), .val (.int a3), .val (.int a4), .val (.int ee), .val (.int vv), .val (.int x0), .val (.int x1), .val (.int x2), .val (.int x3), .val (.int y0), .val (.int y2), .val (.int y1), .val (.int y3), .val (.int y0), .val (.int u1), .val (.int u2), .val (.int u3), .val (.int la), .val (.int md), .val (.int val), .val (.ref b), .val (.int r), .unset] [(.int (1 : Int32))])) _
                refine XS.istore X64.here hx rfl (hb hby at_288) rfl (l' := #[.val (.int a1), .val (.int a2), .val (.int a3), .val (.int a4), .val (.int ee), .val (.int vv), .val (.int x0), .val (.int x1), .val (.int x2), .val (.int x3), .val (.int y0), .val (.int y2), .val (.int y1), .val (.int y3), .val (.int y0), .val (.int u1), .val (.int u2), .val (.int u3), .val (.int la), .val (.int md), .val (.int val), .val (.ref b), .val (.int r), .val (.int (1 : Int32))]) rfl ?_
                show Steps p.tables e below (T64.setTop (mkF m 290 #[.val (.int a1), .val (.int a2), .val (.int a3), .val (.int a4), .val (.int ee), .val (.int vv), .val (.int x0), .val (.int x1), .val (.int x2), .val (.int x3), .val (.int y0), .val (.int y2), .val (.int y1), .val (.int y3), .val (.int y0), .val (.int u1), .val (.int u2), .val (.int u3), .val (.int la), .val (.int md), .val (.int val), .val (.ref b), .val (.int r), .val (.int (1 : Int32))] [])) _
                refine XS.goto X64.here hx rfl (pc0 := 290) (pc' := 296) rfl (hb hby at_290) (by decide) (by decide) ?_
                show Steps p.tables e below (T64.setTop (mkF m 296 #[.val (.int a1), .val (.int a2), .val (.int a3), .val (.int a4), .val (.int ee), .val (.int vv), .val (.int x0), .val (.int x1), .val (.int x2), .val (.int x3), .val (.int y0), .val (.int y2), .val (.int y1), .val (.int y3), .val (.int y0), .val (.int u1), .val (.int u2), .val (.int u3), .val (.int la), .val (.int md), .val (.int val), .val (.ref b), .val (.int r), .val (.int (1 : Int32))] [])) _
                refine XS.iload X64.here hx rfl (hb hby at_296) rfl ?_
                show Steps p.tables e below (T64.setTop (mkF m 298 #[.val (.int a1), .val (.int a2), .val (.int a3), .val (.int a4), .val (.int ee), .val (.int vv), .val (.int x0), .val (.int x1), .val (.int x2), .val (.int x3), .val (.int y0), .val (.int y2), .val (.int y1), .val (.int y3), .val (.int y0), .val (.int u1), .val (.int u2), .val (.int u3), .val (.int la), .val (.int md), .val (.int val), .val (.ref b), .val (.int r), .val (.int (1 : Int32))] [(.int r)])) _
                refine XS.iload X64.here hx rfl (hb hby at_298) rfl ?_
                exact Steps.refl _
              have S119 : Steps p.tables e below Ω (T64.setTop (mkF m 308 #[.val (.int a1), .val (.int a2), .val (.int a3), .val (.int a4), .val (.int ee), .val (.int vv), .val (.int x0), .val (.int x1), .val (.int x2), .val (.int x3), .val (.int y0), .val (.int y2), .val (.int y1), .val (.int y3), .val (.int y0), .val (.int u1), .val (.int u2), .val (.int u3), .val (.int la), .val (.int md), .val (.int val), .val (.ref b), .val (.int r), .val (.int (1 : Int32))] [(.int (1 : Int32))])) := by
                refine S118.trans ?_
                refine XS.icmpNo X64.here hx rfl (hb hby at_300) rfl (XT.ii_ne_f (Int32.toInt_inj.mp (by have e : (1 : Int32).toInt = 1 := (by decide); omega))) ?_
                show Steps p.tables e below (T64.setTop (mkF m 303 #[.val (.int a1), .val (.int a2), .val (.int a3), .val (.int a4), .val (.int ee), .val (.int vv), .val (.int x0), .val (.int x1), .val (.int x2), .val (.int x3), .val (.int y0), .val (.int y2), .val (.int y1), .val (.int y3), .val (.int y0), .val (.int u1), .val (.int u2), .val (.int u3), .val (.int la), .val (.int md), .val (.int val), .val (.ref b), .val (.int r), .val (.int (1 : Int32))] [])) _
                refine XS.iconst X64.here hx rfl (hb hby at_303) ?_
                show Steps p.tables e below (T64.setTop (mkF m 304 #[.val (.int a1), .val (.int a2), .val (.int a3), .val (.int a4), .val (.int ee), .val (.int vv), .val (.int x0), .val (.int x1), .val (.int x2), .val (.int x3), .val (.int y0), .val (.int y2), .val (.int y1), .val (.int y3), .val (.int y0), .val (.int u1), .val (.int u2), .val (.int u3), .val (.int la), .val (.int md), .val (.int val), .val (.ref b), .val (.int r), .val (.int (1 : Int32))] [(.int (1 : Int32))])) _
                refine XS.goto X64.here hx rfl (pc0 := 304) (pc' := 308) rfl (hb hby at_304) (by decide) (by decide) ?_
                exact Steps.refl _
              obtain ⟨fs, hr, hrun, hended, hW, hsame⟩ := X64.leave (v := some (.int (1 : Int32))) (fun h => by rw [Bd.returns] at h; cases h)
              have hfin : Steps p.tables e below Ω (T64.setFrames fs) := by
                refine S119.trans ?_
                exact own_retZ X64 hx Bd.returns (by decide) (hb hby at_308) hr
              rw [hΩ] at hfin
              refine ⟨_, _, hfin, hrun, hended, _, _, rfl, ?_, ⟨_, rfl⟩, hW, hsame.mono (by decide) (by decide)⟩
              show Q0 Z a1 a2 a3 a4 ee vv h0 n0 _ T64.heap _
              rw [e64]
              exact ⟨rfl, N64⟩
        · have qh109 : ¬ val.toInt < u2.toInt := fun q => h109 (Int32.lt_iff_toInt_lt.mpr q)
          have S120 : Steps p.tables e below Ω (T64.setTop (mkF m 300 #[.val (.int a1), .val (.int a2), .val (.int a3), .val (.int a4), .val (.int ee), .val (.int vv), .val (.int x0), .val (.int x1), .val (.int x2), .val (.int x3), .val (.int y0), .val (.int y2), .val (.int y1), .val (.int y3), .val (.int y0), .val (.int u1), .val (.int u2), .val (.int u3), .val (.int la), .val (.int md), .val (.int val), .val (.ref b), .val (.int r), .val (.int (2 : Int32))] [(.int (2 : Int32)), (.int r)])) := by
            refine S108.trans ?_
            refine XS.icmpNo X64.here hx rfl (hb hby at_265) rfl (XT.ii_gt_f h109) ?_
            show Steps p.tables e below (T64.setTop (mkF m 268 #[.val (.int a1), .val (.int a2), .val (.int a3), .val (.int a4), .val (.int ee), .val (.int vv), .val (.int x0), .val (.int x1), .val (.int x2), .val (.int x3), .val (.int y0), .val (.int y2), .val (.int y1), .val (.int y3), .val (.int y0), .val (.int u1), .val (.int u2), .val (.int u3), .val (.int la), .val (.int md), .val (.int val), .val (.ref b), .val (.int r), .unset] [])) _
            refine XS.iconst X64.here hx rfl (hb hby at_268) ?_
            show Steps p.tables e below (T64.setTop (mkF m 269 #[.val (.int a1), .val (.int a2), .val (.int a3), .val (.int a4), .val (.int ee), .val (.int vv), .val (.int x0), .val (.int x1), .val (.int x2), .val (.int x3), .val (.int y0), .val (.int y2), .val (.int y1), .val (.int y3), .val (.int y0), .val (.int u1), .val (.int u2), .val (.int u3), .val (.int la), .val (.int md), .val (.int val), .val (.ref b), .val (.int r), .unset] [(.int (2 : Int32))])) _
            refine XS.istore X64.here hx rfl (hb hby at_269) rfl (l' := #[.val (.int a1), .val (.int a2), .val (.int a3), .val (.int a4), .val (.int ee), .val (.int vv), .val (.int x0), .val (.int x1), .val (.int x2), .val (.int x3), .val (.int y0), .val (.int y2), .val (.int y1), .val (.int y3), .val (.int y0), .val (.int u1), .val (.int u2), .val (.int u3), .val (.int la), .val (.int md), .val (.int val), .val (.ref b), .val (.int r), .val (.int (2 : Int32))]) rfl ?_
            show Steps p.tables e below (T64.setTop (mkF m 271 #[.val (.int a1), .val (.int a2), .val (.int a3), .val (.int a4), .val (.int ee), .val (.int vv), .val (.int x0), .val (.int x1), .val (.int x2), .val (.int x3), .val (.int y0), .val (.int y2), .val (.int y1), .val (.int y3), .val (.int y0), .val (.int u1), .val (.int u2), .val (.int u3), .val (.int la), .val (.int md), .val (.int val), .val (.ref b), .val (.int r), .val (.int (2 : Int32))] [])) _
            refine XS.goto X64.here hx rfl (pc0 := 271) (pc' := 296) rfl (hb hby at_271) (by decide) (by decide) ?_
            show Steps p.tables e below (T64.setTop (mkF m 296 #[.val (.int a1), .val (.int a2), .val (.int a3), .val (.int a4), .val (.int ee), .val (.int vv), .val (.int x0), .val (.int x1), .val (.int x2), .val (.int x3), .val (.int y0), .val (.int y2), .val (.int y1), .val (.int y3), .val (.int y0), .val (.int u1), .val (.int u2), .val (.int u3), .val (.int la), .val (.int md), .val (.int val), .val (.ref b), .val (.int r), .val (.int (2 : Int32))] [])) _
            refine XS.iload X64.here hx rfl (hb hby at_296) rfl ?_
            show Steps p.tables e below (T64.setTop (mkF m 298 #[.val (.int a1), .val (.int a2), .val (.int a3), .val (.int a4), .val (.int ee), .val (.int vv), .val (.int x0), .val (.int x1), .val (.int x2), .val (.int x3), .val (.int y0), .val (.int y2), .val (.int y1), .val (.int y3), .val (.int y0), .val (.int u1), .val (.int u2), .val (.int u3), .val (.int la), .val (.int md), .val (.int val), .val (.ref b), .val (.int r), .val (.int (2 : Int32))] [(.int r)])) _
            refine XS.iload X64.here hx rfl (hb hby at_298) rfl ?_
            exact Steps.refl _
          have S121 : Steps p.tables e below Ω (T64.setTop (mkF m 308 #[.val (.int a1), .val (.int a2), .val (.int a3), .val (.int a4), .val (.int ee), .val (.int vv), .val (.int x0), .val (.int x1), .val (.int x2), .val (.int x3), .val (.int y0), .val (.int y2), .val (.int y1), .val (.int y3), .val (.int y0), .val (.int u1), .val (.int u2), .val (.int u3), .val (.int la), .val (.int md), .val (.int val), .val (.ref b), .val (.int r), .val (.int (2 : Int32))] [(.int (1 : Int32))])) := by
            refine S120.trans ?_
            refine XS.icmpNo X64.here hx rfl (hb hby at_300) rfl (XT.ii_ne_f (Int32.toInt_inj.mp (by have e : (2 : Int32).toInt = 2 := (by decide); omega))) ?_
            show Steps p.tables e below (T64.setTop (mkF m 303 #[.val (.int a1), .val (.int a2), .val (.int a3), .val (.int a4), .val (.int ee), .val (.int vv), .val (.int x0), .val (.int x1), .val (.int x2), .val (.int x3), .val (.int y0), .val (.int y2), .val (.int y1), .val (.int y3), .val (.int y0), .val (.int u1), .val (.int u2), .val (.int u3), .val (.int la), .val (.int md), .val (.int val), .val (.ref b), .val (.int r), .val (.int (2 : Int32))] [])) _
            refine XS.iconst X64.here hx rfl (hb hby at_303) ?_
            show Steps p.tables e below (T64.setTop (mkF m 304 #[.val (.int a1), .val (.int a2), .val (.int a3), .val (.int a4), .val (.int ee), .val (.int vv), .val (.int x0), .val (.int x1), .val (.int x2), .val (.int x3), .val (.int y0), .val (.int y2), .val (.int y1), .val (.int y3), .val (.int y0), .val (.int u1), .val (.int u2), .val (.int u3), .val (.int la), .val (.int md), .val (.int val), .val (.ref b), .val (.int r), .val (.int (2 : Int32))] [(.int (1 : Int32))])) _
            refine XS.goto X64.here hx rfl (pc0 := 304) (pc' := 308) rfl (hb hby at_304) (by decide) (by decide) ?_
            exact Steps.refl _
          obtain ⟨fs, hr, hrun, hended, hW, hsame⟩ := X64.leave (v := some (.int (1 : Int32))) (fun h => by rw [Bd.returns] at h; cases h)
          have hfin : Steps p.tables e below Ω (T64.setFrames fs) := by
            refine S121.trans ?_
            exact own_retZ X64 hx Bd.returns (by decide) (hb hby at_308) hr
          rw [hΩ] at hfin
          refine ⟨_, _, hfin, hrun, hended, _, _, rfl, ?_, ⟨_, rfl⟩, hW, hsame.mono (by decide) (by decide)⟩
          show Q0 Z a1 a2 a3 a4 ee vv h0 n0 _ T64.heap _
          rw [e64]
          exact ⟨rfl, N64⟩
    · have qh95 : ¬ val.toInt < u3.toInt := fun q => h95 (Int32.lt_iff_toInt_lt.mpr q)
      have S122 : Steps p.tables e below Ω (T64.setTop (mkF m 300 #[.val (.int a1), .val (.int a2), .val (.int a3), .val (.int a4), .val (.int ee), .val (.int vv), .val (.int x0), .val (.int x1), .val (.int x2), .val (.int x3), .val (.int y0), .val (.int y2), .val (.int y1), .val (.int y3), .val (.int y0), .val (.int u1), .val (.int u2), .val (.int u3), .val (.int la), .val (.int md), .val (.int val), .val (.ref b), .val (.int r), .val (.int (3 : Int32))] [(.int (3 : Int32)), (.int r)])) := by
        refine S94.trans ?_
        refine XS.icmpNo X64.here hx rfl (hb hby at_246) rfl (XT.ii_gt_f h95) ?_
        show Steps p.tables e below (T64.setTop (mkF m 249 #[.val (.int a1), .val (.int a2), .val (.int a3), .val (.int a4), .val (.int ee), .val (.int vv), .val (.int x0), .val (.int x1), .val (.int x2), .val (.int x3), .val (.int y0), .val (.int y2), .val (.int y1), .val (.int y3), .val (.int y0), .val (.int u1), .val (.int u2), .val (.int u3), .val (.int la), .val (.int md), .val (.int val), .val (.ref b), .val (.int r), .unset] [])) _
        refine XS.iconst X64.here hx rfl (hb hby at_249) ?_
        show Steps p.tables e below (T64.setTop (mkF m 250 #[.val (.int a1), .val (.int a2), .val (.int a3), .val (.int a4), .val (.int ee), .val (.int vv), .val (.int x0), .val (.int x1), .val (.int x2), .val (.int x3), .val (.int y0), .val (.int y2), .val (.int y1), .val (.int y3), .val (.int y0), .val (.int u1), .val (.int u2), .val (.int u3), .val (.int la), .val (.int md), .val (.int val), .val (.ref b), .val (.int r), .unset] [(.int (3 : Int32))])) _
        refine XS.istore X64.here hx rfl (hb hby at_250) rfl (l' := #[.val (.int a1), .val (.int a2), .val (.int a3), .val (.int a4), .val (.int ee), .val (.int vv), .val (.int x0), .val (.int x1), .val (.int x2), .val (.int x3), .val (.int y0), .val (.int y2), .val (.int y1), .val (.int y3), .val (.int y0), .val (.int u1), .val (.int u2), .val (.int u3), .val (.int la), .val (.int md), .val (.int val), .val (.ref b), .val (.int r), .val (.int (3 : Int32))]) rfl ?_
        show Steps p.tables e below (T64.setTop (mkF m 252 #[.val (.int a1), .val (.int a2), .val (.int a3), .val (.int a4), .val (.int ee), .val (.int vv), .val (.int x0), .val (.int x1), .val (.int x2), .val (.int x3), .val (.int y0), .val (.int y2), .val (.int y1), .val (.int y3), .val (.int y0), .val (.int u1), .val (.int u2), .val (.int u3), .val (.int la), .val (.int md), .val (.int val), .val (.ref b), .val (.int r), .val (.int (3 : Int32))] [])) _
        refine XS.goto X64.here hx rfl (pc0 := 252) (pc' := 296) rfl (hb hby at_252) (by decide) (by decide) ?_
        show Steps p.tables e below (T64.setTop (mkF m 296 #[.val (.int a1), .val (.int a2), .val (.int a3), .val (.int a4), .val (.int ee), .val (.int vv), .val (.int x0), .val (.int x1), .val (.int x2), .val (.int x3), .val (.int y0), .val (.int y2), .val (.int y1), .val (.int y3), .val (.int y0), .val (.int u1), .val (.int u2), .val (.int u3), .val (.int la), .val (.int md), .val (.int val), .val (.ref b), .val (.int r), .val (.int (3 : Int32))] [])) _
        refine XS.iload X64.here hx rfl (hb hby at_296) rfl ?_
        show Steps p.tables e below (T64.setTop (mkF m 298 #[.val (.int a1), .val (.int a2), .val (.int a3), .val (.int a4), .val (.int ee), .val (.int vv), .val (.int x0), .val (.int x1), .val (.int x2), .val (.int x3), .val (.int y0), .val (.int y2), .val (.int y1), .val (.int y3), .val (.int y0), .val (.int u1), .val (.int u2), .val (.int u3), .val (.int la), .val (.int md), .val (.int val), .val (.ref b), .val (.int r), .val (.int (3 : Int32))] [(.int r)])) _
        refine XS.iload X64.here hx rfl (hb hby at_298) rfl ?_
        exact Steps.refl _
      have S123 : Steps p.tables e below Ω (T64.setTop (mkF m 308 #[.val (.int a1), .val (.int a2), .val (.int a3), .val (.int a4), .val (.int ee), .val (.int vv), .val (.int x0), .val (.int x1), .val (.int x2), .val (.int x3), .val (.int y0), .val (.int y2), .val (.int y1), .val (.int y3), .val (.int y0), .val (.int u1), .val (.int u2), .val (.int u3), .val (.int la), .val (.int md), .val (.int val), .val (.ref b), .val (.int r), .val (.int (3 : Int32))] [(.int (1 : Int32))])) := by
        refine S122.trans ?_
        refine XS.icmpNo X64.here hx rfl (hb hby at_300) rfl (XT.ii_ne_f (Int32.toInt_inj.mp (by have e : (3 : Int32).toInt = 3 := (by decide); omega))) ?_
        show Steps p.tables e below (T64.setTop (mkF m 303 #[.val (.int a1), .val (.int a2), .val (.int a3), .val (.int a4), .val (.int ee), .val (.int vv), .val (.int x0), .val (.int x1), .val (.int x2), .val (.int x3), .val (.int y0), .val (.int y2), .val (.int y1), .val (.int y3), .val (.int y0), .val (.int u1), .val (.int u2), .val (.int u3), .val (.int la), .val (.int md), .val (.int val), .val (.ref b), .val (.int r), .val (.int (3 : Int32))] [])) _
        refine XS.iconst X64.here hx rfl (hb hby at_303) ?_
        show Steps p.tables e below (T64.setTop (mkF m 304 #[.val (.int a1), .val (.int a2), .val (.int a3), .val (.int a4), .val (.int ee), .val (.int vv), .val (.int x0), .val (.int x1), .val (.int x2), .val (.int x3), .val (.int y0), .val (.int y2), .val (.int y1), .val (.int y3), .val (.int y0), .val (.int u1), .val (.int u2), .val (.int u3), .val (.int la), .val (.int md), .val (.int val), .val (.ref b), .val (.int r), .val (.int (3 : Int32))] [(.int (1 : Int32))])) _
        refine XS.goto X64.here hx rfl (pc0 := 304) (pc' := 308) rfl (hb hby at_304) (by decide) (by decide) ?_
        exact Steps.refl _
      obtain ⟨fs, hr, hrun, hended, hW, hsame⟩ := X64.leave (v := some (.int (1 : Int32))) (fun h => by rw [Bd.returns] at h; cases h)
      have hfin : Steps p.tables e below Ω (T64.setFrames fs) := by
        refine S123.trans ?_
        exact own_retZ X64 hx Bd.returns (by decide) (hb hby at_308) hr
      rw [hΩ] at hfin
      refine ⟨_, _, hfin, hrun, hended, _, _, rfl, ?_, ⟨_, rfl⟩, hW, hsame.mono (by decide) (by decide)⟩
      show Q0 Z a1 a2 a3 a4 ee vv h0 n0 _ T64.heap _
      rw [e64]
      exact ⟨rfl, N64⟩
set_option maxRecDepth 65536 in
set_option maxHeartbeats 40000000 in
theorem comes_1 {Post : Tables → Env → Array Value → State → Outcome → State → Prop} (hpost : ∀ tb e args s v u, (limb_1_1.after args s (.returned v) u = true ∧ limb_1_2.after args s (.returned v) u = true ∧ True) → FrameEnd s (.returned v) u (Jvm.fieldLocs frame_1_writes args s ++ Jvm.arrayLocs frame_1_arrays args s ++ Jvm.staticLocs frame_1_statics s) 16 128 → Post tb e args s (.returned v) u) :
    ArmFor flags0 classFile x code maxLocals ret World_1 tables_1 room_1 Calls_1 rest_1 Pre_1 Post := by
  intro l hfl _ _ p e ha hc hk s m args below hf hA hF happ hP
  obtain ⟨hcalls, hrest, hpre⟩ := hP
  obtain ⟨-, -, -, hnamed, -, -, -, hat⟩ := (Spec.applies_iff hf).mp happ
  obtain ⟨hg, hn⟩ := and_e (Cond.before_iff.mp (show (Jvm.Cond.and given_1 narrow_1).before args s = true from hpre))
  obtain ⟨gc, g0⟩ := and_e hg
  obtain ⟨k0, g1⟩ := and_e g0
  obtain ⟨k1, g2⟩ := and_e g1
  obtain ⟨k2, g3⟩ := and_e g2
  obtain ⟨k3, g4⟩ := and_e g3
  obtain ⟨k4, g5⟩ := and_e g4
  obtain ⟨w0, w1, w2, w3, w4, w5, rfl⟩ : ∃ w0 w1 w2 w3 w4 w5 : Value, args = #[w0, w1, w2, w3, w4, w5] := by
    have hs : args.size = 6 := by simpa [Cond.value, given_1] using gc
    obtain ⟨L⟩ := args
    match L, hs with
    | [w0, w1, w2, w3, w4, w5], _ => exact ⟨w0, w1, w2, w3, w4, w5, rfl⟩
  have hw := fun d (hd : d ∈ tables_1) => atoms_spec (ws := Jvm.Cond.code x code maxLocals ret :: tables_1) hat d (List.mem_cons_of_mem _ hd)
  have hfit : Fit s := fun {y c} hc i hi => by
    obtain ⟨ha, rfl⟩ := Array.getElem?_eq_some_iff.mp hc
    have q := List.all_eq_true.mp ((Array.all_eq_true_iff_forall_mem.mp hF) _ (Array.getElem_mem ha)) i (List.mem_range.mpr hi)
    simpa [Array.getElem?_eq_getElem hi] using q
  obtain ⟨i0, ei0⟩ := is_v k0
  obtain rfl : w0 = (.int i0) := Option.some.inj ei0
  obtain ⟨i1, ei1⟩ := is_v k1
  obtain rfl : w1 = (.int i1) := Option.some.inj ei1
  obtain ⟨i2, ei2⟩ := is_v k2
  obtain rfl : w2 = (.int i2) := Option.some.inj ei2
  obtain ⟨i3, ei3⟩ := is_v k3
  obtain rfl : w3 = (.int i3) := Option.some.inj ei3
  obtain ⟨i4, ei4⟩ := is_v k4
  obtain rfl : w4 = (.int i4) := Option.some.inj ei4
  obtain ⟨i5, ei5⟩ := is_v g5
  obtain rfl : w5 = (.int i5) := Option.some.inj ei5
  obtain ⟨n, o, h1, h2, h3, _, L, rfl, ⟨rfl, N⟩, hq⟩ := rm0 l s _ hw tables_1 i0 i1 i2 i3 i4 i5  s.heap s.heap.size (Nat.le_refl _)  p e ha hc hk s m _ below hf ((Spec.applies_iff_loose hf).mp happ).1 ⟨rfl, State.Warmed39.refl s, rfl⟩ trivial
  refine ⟨n, _, h1, h2, h3, hpost _ _ _ _ _ _ ⟨Cond.after_iff.mpr rfl, Cond.after_iff.mpr (eq_i res_at (Term.int_eval (1)) rfl), trivial⟩ ⟨hq.1, hq.2.1, (hq.2.2.sift fun y hy => Or.inr (N y hy)).mono (by decide) (by decide)⟩⟩
theorem main_1_1 : Claimed_1_1 := comes_1 fun _ _ _ _ _ _ h hF => ⟨h.1, hF⟩
theorem main_1_2 : Claimed_1_2 := comes_1 fun _ _ _ _ _ _ h hF => ⟨h.2.1, hF⟩
end Jvm.Pilot.@@N@@
namespace Jvm.Pilot.@@N@@
open Jvm Jvm.ClassFile Sem Op Lib Jvm.Free Jvm.Stand Jvm.Pilot.@@N@@.Jvm.D
/-! MADE BY PROGRAM (witnessworld.py) out of the Statement's table words and the real class files: 10 classes; the members and pool entries that the words name. The judged class is class 1, her method 1. -/
namespace start1
open Jvm.ClassFile
def u (s : String) : CpInfo := .utf8 (stringToUtf16 s)
/-- a pool by its gaps: so many unusable entries, then the entry; so many at the end -/
def gap : Nat → List CpInfo → List CpInfo
  | 0, r => r
  | n + 1, r => .unusable :: gap n r
def poolList (es : List (Nat × CpInfo)) (last : Nat) : List CpInfo := es.foldr (fun e r => gap e.1 (e.2 :: r)) (gap last [])
def pool (es : List (Nat × CpInfo)) (last : Nat) : Array CpInfo := ⟨poolList es last⟩
def fileOf (pool : Array CpInfo) (this : Nat) (attrs : Array Attribute := #[]) (ms : Array MethodInfo := #[]) (fl : Nat := 33) (sup : Nat := 0) (ifs : Array Nat := #[]) (fds : Array FieldInfo := #[]) : ClassFile where
  minorVersion := 0
  majorVersion := 65
  constantPool := pool
  accessFlags := fl
  thisClass := this
  superClass := sup
  interfaces := ifs
  fields := fds
  methods := ms
  attributes := attrs
def plain (name : String) (sup : Option ClassId) : Class where
  name := name
  kind := .ordinary
  loader := none
  accessFlags := 33
  super := sup
  interfaces := #[]
  cf := none
  fields := #[]
  methods := #[]
  instanceTypes := #[]
  staticTypes := #[]
  resolved := #[]
  callSites := []
  init := .initialized
  statics := none
  mirror := none

def pool0 : Array CpInfo := pool [(5, u "<init>"), (0, u "()V"), (1, .class_ 10), (1, u "java/lang/Object")] 113

def k0m0 : Method := { name := "<init>", desc := "()V", sig := { parameters := [], returnType := none }, accessFlags := 1, code := none }
/-- java/lang/Object -/
def k0 : Class := { plain "java/lang/Object" none with
  accessFlags := 33
  interfaces := #[]
  cf := some (fileOf pool0 8 #[] #[{ accessFlags := 1, nameIndex := 5, descriptorIndex := 6, attributes := #[] }] 33 0 #[] #[])
  fields := #[]
  methods := #[k0m0]
  instanceTypes := #[]
  staticTypes := #[]
  resolved := Array.replicate 124 none
  statics := none }

def pool1 : Array CpInfo := pool [(2, .class_ 4), (1, u "java/lang/Object"), (0, u "<init>"), (0, u "()V"), (0, .methodref 8 9), (0, .class_ 10), (0, .nameAndType 11 12), (0, u "java/lang/Math"), (0, u "min"), (0, u "(II)I"), (0, .methodref 8 14), (0, .nameAndType 15 12), (0, u "max"), (0, .methodref 17 18), (0, .class_ 19), (0, .nameAndType 20 21), (0, u "com/example/arcspan/arcspan/index/SortedInts"), (0, u "lastAtOrBefore"), (0, u "([III)I"), (0, .class_ 23), (0, u "com/example/arcspan/arcspan/index/SortedIntsLastAtOrBeforePinLaw"), (2, u "law"), (0, u "(IIIIII)Z")] 5

def k1m0 : Method := { name := "<init>", desc := "()V", sig := { parameters := [], returnType := none }, accessFlags := 2, code := none }
def k1c1 : Code := { maxStack := 3, maxLocals := 24, code := code, exceptionTable := #[], attributes := #[] }
def k1m1 : Method := { name := "law", desc := "(IIIIII)Z", sig := { parameters := [.int, .int, .int, .int, .int, .int], returnType := some .boolean }, accessFlags := 9, code := some k1c1 }
/-- com/example/arcspan/arcspan/index/SortedIntsLastAtOrBeforePinLaw -/
def k1 : Class := { plain "com/example/arcspan/arcspan/index/SortedIntsLastAtOrBeforePinLaw" (some 0) with
  accessFlags := 49
  interfaces := #[]
  cf := some (fileOf pool1 22 #[] #[{ accessFlags := 2, nameIndex := 5, descriptorIndex := 6, attributes := #[] }, { accessFlags := 9, nameIndex := 26, descriptorIndex := 27, attributes := #[] }] 49 2 #[] #[])
  fields := #[]
  methods := #[k1m0, k1m1]
  instanceTypes := #[]
  staticTypes := #[]
  resolved := Array.replicate 33 none
  statics := none }

def pool2 : Array CpInfo := pool [(1, .class_ 2), (0, u "java/lang/Math"), (1, .class_ 6), (1, u "java/lang/Object"), (0, u "<init>"), (0, u "()V"), (89, .class_ 100), (1, u "java/lang/Math$RandomNumberGeneratorHolder"), (71, u "negativeZeroFloatBits"), (0, u "J"), (2, u "negativeZeroDoubleBits"), (21, u "max"), (2, u "min"), (43, u "$assertionsDisabled"), (0, u "Z"), (88, u "(II)I"), (2, u "twoToTheDoubleScaleDown"), (0, u "D"), (4, u "twoToTheDoubleScaleUp"), (9, u "E"), (3, u "PI"), (2, u "TAU"), (2, u "DEGREES_TO_RADIANS"), (0, u "RADIANS_TO_DEGREES")] 94

def k2m0 : Method := { name := "<init>", desc := "()V", sig := { parameters := [], returnType := none }, accessFlags := 2, code := none }
def k2c1 : Code := { maxStack := 2, maxLocals := 2, code := jdk_29_method_65_code, exceptionTable := #[], attributes := #[] }
def k2m1 : Method := { name := "max", desc := "(II)I", sig := { parameters := [.int, .int], returnType := some .int }, accessFlags := 9, code := some k2c1 }
def k2c2 : Code := { maxStack := 2, maxLocals := 2, code := jdk_29_method_69_code, exceptionTable := #[], attributes := #[] }
def k2m2 : Method := { name := "min", desc := "(II)I", sig := { parameters := [.int, .int], returnType := some .int }, accessFlags := 9, code := some k2c2 }
/-- java/lang/Math -/
def k2 : Class := { plain "java/lang/Math" (some 0) with
  accessFlags := 49
  interfaces := #[]
  cf := some (fileOf pool2 1 #[.nestMembers #[98]] #[{ accessFlags := 2, nameIndex := 7, descriptorIndex := 8, attributes := #[] }, { accessFlags := 9, nameIndex := 198, descriptorIndex := 335, attributes := #[] }, { accessFlags := 9, nameIndex := 201, descriptorIndex := 335, attributes := #[] }] 49 4 #[] #[{ accessFlags := 25, nameIndex := 354, descriptorIndex := 339, attributes := #[] }, { accessFlags := 25, nameIndex := 358, descriptorIndex := 339, attributes := #[] }, { accessFlags := 25, nameIndex := 361, descriptorIndex := 339, attributes := #[] }, { accessFlags := 26, nameIndex := 364, descriptorIndex := 339, attributes := #[] }, { accessFlags := 26, nameIndex := 365, descriptorIndex := 339, attributes := #[] }, { accessFlags := 26, nameIndex := 172, descriptorIndex := 173, attributes := #[] }, { accessFlags := 26, nameIndex := 176, descriptorIndex := 173, attributes := #[] }, { accessFlags := 8, nameIndex := 344, descriptorIndex := 339, attributes := #[] }, { accessFlags := 8, nameIndex := 338, descriptorIndex := 339, attributes := #[] }, { accessFlags := 4120, nameIndex := 245, descriptorIndex := 246, attributes := #[] }])
  fields := #[{ name := "E", type := .double, accessFlags := 25, slot := 0, constantValue := 0 }, { name := "PI", type := .double, accessFlags := 25, slot := 1, constantValue := 0 }, { name := "TAU", type := .double, accessFlags := 25, slot := 2, constantValue := 0 }, { name := "DEGREES_TO_RADIANS", type := .double, accessFlags := 26, slot := 3, constantValue := 0 }, { name := "RADIANS_TO_DEGREES", type := .double, accessFlags := 26, slot := 4, constantValue := 0 }, { name := "negativeZeroFloatBits", type := .long, accessFlags := 26, slot := 5, constantValue := 0 }, { name := "negativeZeroDoubleBits", type := .long, accessFlags := 26, slot := 6, constantValue := 0 }, { name := "twoToTheDoubleScaleUp", type := .double, accessFlags := 8, slot := 7, constantValue := 0 }, { name := "twoToTheDoubleScaleDown", type := .double, accessFlags := 8, slot := 8, constantValue := 0 }, { name := "$assertionsDisabled", type := .boolean, accessFlags := 4120, slot := 9, constantValue := 0 }]
  methods := #[k2m0, k2m1, k2m2]
  instanceTypes := #[]
  staticTypes := #[.double, .double, .double, .double, .double, .long, .long, .double, .double, .boolean]
  resolved := Array.replicate 460 none
  statics := none }

def pool3 : Array CpInfo := pool [(2, .class_ 4), (1, u "java/lang/Object"), (0, u "<init>"), (0, u "()V"), (0, .class_ 8), (0, u "com/example/arcspan/arcspan/index/SortedInts"), (5, u "lastAtOrBefore"), (0, u "([III)I")] 2

def k3m0 : Method := { name := "<init>", desc := "()V", sig := { parameters := [], returnType := none }, accessFlags := 2, code := none }
def k3c1 : Code := { maxStack := 2, maxLocals := 6, code := prog_15_method_3_code, exceptionTable := #[], attributes := #[] }
def k3m1 : Method := { name := "lastAtOrBefore", desc := "([III)I", sig := { parameters := [(.array .int), .int, .int], returnType := some .int }, accessFlags := 8, code := some k3c1 }
/-- com/example/arcspan/arcspan/index/SortedInts -/
def k3 : Class := { plain "com/example/arcspan/arcspan/index/SortedInts" (some 0) with
  accessFlags := 49
  interfaces := #[]
  cf := some (fileOf pool3 7 #[] #[{ accessFlags := 2, nameIndex := 5, descriptorIndex := 6, attributes := #[] }, { accessFlags := 8, nameIndex := 14, descriptorIndex := 15, attributes := #[] }] 49 2 #[] #[])
  fields := #[]
  methods := #[k3m0, k3m1]
  instanceTypes := #[]
  staticTypes := #[]
  resolved := Array.replicate 18 none
  statics := none }

def pool4 : Array CpInfo := pool [(1, u "java/lang/Cloneable"), (0, .class_ 1), (0, u "java/lang/Object"), (0, .class_ 3)] 3

/-- java/lang/Cloneable -/
def k4 : Class := { plain "java/lang/Cloneable" (some 0) with
  accessFlags := 1537
  interfaces := #[]
  cf := some (fileOf pool4 2 #[] #[] 1537 4 #[] #[])
  fields := #[]
  methods := #[]
  instanceTypes := #[]
  staticTypes := #[]
  resolved := Array.replicate 8 none
  statics := none }

def pool5 : Array CpInfo := pool [(1, u "java/io/Serializable"), (0, .class_ 1), (0, u "java/lang/Object"), (0, .class_ 3)] 3

/-- java/io/Serializable -/
def k5 : Class := { plain "java/io/Serializable" (some 0) with
  accessFlags := 1537
  interfaces := #[]
  cf := some (fileOf pool5 2 #[] #[] 1537 4 #[] #[])
  fields := #[]
  methods := #[]
  instanceTypes := #[]
  staticTypes := #[]
  resolved := Array.replicate 8 none
  statics := none }

/-- the primitive byte -/
def k6 : Class := { plain "byte" none with kind := .primitive 'B', accessFlags := 0x411 }
/-- [B -/
def k7 : Class := { plain "[B" (some 0) with kind := .array 6 .byte, interfaces := #[4, 5], accessFlags := 1041 }

/-- the primitive int -/
def k8 : Class := { plain "int" none with kind := .primitive 'I', accessFlags := 0x411 }
/-- [I -/
def k9 : Class := { plain "[I" (some 0) with kind := .array 8 .int, interfaces := #[4, 5], accessFlags := 1041 }

def heap : Heap := #[]
def classes : Array Class := #[k0, k1, k2, k3, k4, k5, k6, k7, k8, k9]
def interned : List (Array UInt16 × Addr) := []
def slotsUsed : Nat := 0
def theMethod : MethodId := ⟨1, 1⟩
def args0 : Array Value := #[.int 5, .int 300, .int 7, .int 1, .int 5, .int 6]
def aboutOver (below : List Frame) : State where
  vm := { classes := classes, interned := interned.toArray }
  heap := heap
  slotsUsed := slotsUsed
  threads := #[{ frames := .invoking theMethod args0 :: below }]
def below0 : List Frame := [.native { method := ⟨0, 0⟩, args := #[] }]
def about1 : State := aboutOver below0
def p0 : Program := .bare "" "" ""
def e0 : Env := launch0.env 0 0 0
theorem w_frames : about1.frames = Frame.invoking theMethod args0 :: below0 := rfl
set_option maxRecDepth 65536 in
theorem w_args : argsFit about1.vm theMethod args0 = true := by decide +kernel
set_option maxRecDepth 65536 in
theorem w_heap : heapFits about1 = true := by decide +kernel
set_option maxRecDepth 65536 in
theorem w_runnable : about1.curStatus? = some .runnable := by decide +kernel
set_option maxRecDepth 65536 in
theorem w_alone : about1.alone = true := by decide +kernel
set_option maxRecDepth 65536 in
theorem w_named : about1.methodNamed? x = some theMethod := by decide +kernel
set_option maxRecDepth 65536 in
theorem w_hears : about1.hears theMethod below0 = true := by decide +kernel
set_option maxRecDepth 65536 in
theorem w_ripe : about1.ripe theMethod args0 below0 = true := by decide +kernel
theorem w_running : about1.status = .running := rfl
set_option maxRecDepth 65536 in
theorem w_room : about1.hasRoom e0.platform room_1 = true :=
  launch0.hasRoom_least _ room_1 (by decide +kernel) (by decide +kernel) (by decide +kernel) (by decide +kernel) (by decide +kernel) (by decide +kernel)
theorem allAtoms_all (ts : List Jvm.Cond) (a : Array Jvm.Value) (st : Jvm.State) : (allAtoms ts).before a st = ts.all (fun c => c.before a st) := by
  induction ts with
  | nil => rfl
  | cons c t ih =>
    show (Jvm.Cond.and c (allAtoms t)).before a st = _
    rw [Jvm.Cond.before_and, ih, List.all_cons]
def words1 : List Jvm.Cond := Jvm.Cond.code x code maxLocals ret :: tables_1
/-- a 'code' word, met by the world's own term for the bytes: nothing is compared byte by byte -/
theorem code_word {y : MethodName} {bytes : ByteArray} {mx : Nat} {rt : Option FieldType} {a : Array Value} {s : State} {m : MethodId} {meth : Method} {c : Code} (h1 : s.methodNamed? y = some m) (h2 : s.vm.method? m = some meth) (h3 : meth.code = some c) (h4 : c.code = bytes)
    (h5 : (c.maxLocals == mx && c.exceptionTable.isEmpty && decide (c.maxStack ≤ mostOperands) && decide (meth.sig.returnType = rt) && !meth.locks && decide (parseMethodDescriptor y.desc = some meth.sig)) = true) : (Jvm.Cond.code y bytes mx rt).before a s = true := by
  simp only [Bool.and_eq_true, beq_iff_eq, Bool.not_eq_true', decide_eq_true_eq] at h5
  obtain ⟨⟨⟨⟨⟨g1, g2⟩, g3⟩, g4⟩, g5⟩, g6⟩ := h5
  simp [Cond.before, Cond.holds, Cond.value, h1, h2, h3, h4, g1, g2, g3, g4, g5, g6]
def isCode : Jvm.Cond → Bool
  | .code _ _ _ _ => true
  | _ => false
theorem all_split {L : List Jvm.Cond} {P : Jvm.Cond → Bool} (h1 : L.all (fun c => isCode c || P c) = true) (h2 : ∀ c ∈ L.filter isCode, P c = true) : L.all P = true := by
  refine List.all_eq_true.mpr fun c hc => ?_
  have h := List.all_eq_true.mp h1 c hc
  rcases Bool.eq_false_or_eq_true (isCode c) with hi | hi
  · exact h2 c (List.mem_filter.mpr ⟨hc, hi⟩)
  · simpa [hi] using h
set_option maxRecDepth 65536 in
theorem w_c0 : (Jvm.Cond.code x code maxLocals ret).before args0 about1 = true := code_word (m := ⟨1, 1⟩) (meth := k1m1) (c := k1c1) (by decide +kernel) rfl rfl rfl (by decide +kernel)
set_option maxRecDepth 65536 in
theorem w_c1 : (Jvm.Cond.code ({ cls := "java/lang/Math", name := "min", desc := "(II)I" } : Jvm.MethodName) jdk_29_method_69_code (2 : Nat) (Option.some Jvm.ClassFile.FieldType.int)).before args0 about1 = true := code_word (m := ⟨2, 2⟩) (meth := k2m2) (c := k2c2) (by decide +kernel) rfl rfl rfl (by decide +kernel)
set_option maxRecDepth 65536 in
theorem w_c2 : (Jvm.Cond.code ({ cls := "java/lang/Math", name := "max", desc := "(II)I" } : Jvm.MethodName) jdk_29_method_65_code (2 : Nat) (Option.some Jvm.ClassFile.FieldType.int)).before args0 about1 = true := code_word (m := ⟨2, 1⟩) (meth := k2m1) (c := k2c1) (by decide +kernel) rfl rfl rfl (by decide +kernel)
set_option maxRecDepth 65536 in
theorem w_c3 : (Jvm.Cond.code ({ cls := "com/example/arcspan/arcspan/index/SortedInts", name := "lastAtOrBefore", desc := "([III)I" } : Jvm.MethodName) prog_15_method_3_code (6 : Nat) (Option.some Jvm.ClassFile.FieldType.int)).before args0 about1 = true := code_word (m := ⟨3, 1⟩) (meth := k3m1) (c := k3c1) (by decide +kernel) rfl rfl rfl (by decide +kernel)
def codes1 : List Jvm.Cond := [Jvm.Cond.code x code maxLocals ret, Jvm.Cond.code ({ cls := "java/lang/Math", name := "min", desc := "(II)I" } : Jvm.MethodName) jdk_29_method_69_code (2 : Nat) (Option.some Jvm.ClassFile.FieldType.int), Jvm.Cond.code ({ cls := "java/lang/Math", name := "max", desc := "(II)I" } : Jvm.MethodName) jdk_29_method_65_code (2 : Nat) (Option.some Jvm.ClassFile.FieldType.int), Jvm.Cond.code ({ cls := "com/example/arcspan/arcspan/index/SortedInts", name := "lastAtOrBefore", desc := "([III)I" } : Jvm.MethodName) prog_15_method_3_code (6 : Nat) (Option.some Jvm.ClassFile.FieldType.int)]
set_option maxRecDepth 65536 in
theorem codes_eq : words1.filter isCode = codes1 := rfl
theorem w_codes : ∀ c ∈ words1.filter isCode, c.before args0 about1 = true := by
  rw [codes_eq]
  intro c hc
  simp only [codes1, List.mem_cons, List.not_mem_nil, or_false] at hc
  rcases hc with rfl | rfl | rfl | rfl
  · exact w_c0
  · exact w_c1
  · exact w_c2
  · exact w_c3
set_option maxRecDepth 65536 in
theorem w_t1 : words1.all (fun c => isCode c || c.before args0 about1) = true := by decide +kernel
theorem w_tables : (allAtoms (Jvm.Cond.code x code maxLocals ret :: tables_1)).before args0 about1 = true := by
  rw [allAtoms_all]
  show words1.all (fun c => c.before args0 about1) = true
  refine all_split ?_ w_codes
  rw [w_t1]
set_option maxRecDepth 65536 in
theorem w_case : (Jvm.Cond.and given_1 narrow_1).before args0 about1 = true := by decide +kernel
theorem w_applies : (headSpec (Jvm.Cond.code x code maxLocals ret :: tables_1) room_1).applies x e0.platform about1 = true :=
  (Spec.applies_iff w_frames).mpr ⟨w_running, w_runnable, w_alone, w_named, w_hears, w_ripe, w_room, w_tables⟩
theorem atStart : AtStart classFile x code maxLocals ret World_1 tables_1 room_1 Calls_1 rest_1 Pre_1 launch0 p0 e0 about1 theMethod args0 below0 :=
  ⟨lists_1, trivial, launch0.admits_env _ _ _, launch0.least_env, fairChoices_fair.cas, fairChoices_fair.clock, w_frames, w_args, w_heap, w_applies, trivial, trivial, w_case⟩
end start1
theorem witness_1 : WitnessClaimed_1 := ⟨start1.p0, start1.e0, start1.about1, start1.theMethod, start1.args0, start1.below0, start1.atStart⟩
end Jvm.Pilot.@@N@@
