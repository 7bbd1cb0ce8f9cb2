import JvmDerived
import JvmDerived.Pilot.@@N@@Statement
import JvmDerived.Pilot.@@N@@Code
set_option linter.unusedVariables false
set_option linter.unusedSimpArgs false
namespace Jvm.RoadKit
open Sem ClassFile Op Lib Jvm.Stand Jvm.Free Jvm.LawKit
section New
variable {p : Program} {l : Launch} {e : Env} {R : Room} {s : State} {m : MethodId} {args : Array Value} {below : List Frame} {meth : Method} {c : Code} {T : State} {locs : List Loc} {cells slots : Nat}
theorem retI (X : Stand p l e R s m args below meth c T locs cells slots) (hx : p.tables.exec = Jvm.exec) {pc : Nat} {Ls : Array Slot} {z : Int32} {rest : List Value} (hret : meth.sig.returnType = some .int) (hd : decode c.code pc = .ok (.ireturn, 1)) {fs : List Frame}
    (hl : ∀ (f : JFrame) (acts : List Action), f.method = m → f.locked = none → f.entered = [] → (doReturn e (T.setTop f) acts (some (.int z))).1 = T.setFrames fs) : Steps p.tables e below (T.setTop (mkF m pc Ls (.int z :: rest))) (T.setFrames fs) := by
  have hm' : T.vm.method? m = some meth := X.method'
  have hn : narrow .int (.int z) = .int z := rfl
  show Steps p.tables e below (T.setTop { method := m, pc := pc, locals := Ls, stack := _ :: rest, locked := none }) _
  jvm_step X.here [X.here.top, hx, hd, hm', hret, hn]
  first | (intro acts; rw [hl _ acts rfl rfl rfl]) | rw [hl _ _ rfl rfl rfl]
  exact Steps.refl _
theorem own_retZ (X : Stand p l e R s m args below meth c T locs cells slots) (hx : p.tables.exec = Jvm.exec) {pc : Nat} {Ls : Array Slot} {z : Int32} {rest : List Value} (hret : meth.sig.returnType = some .boolean) (hz : z &&& 1 = z) (hd : decode c.code pc = .ok (.ireturn, 1)) {fs : List Frame}
    (hl : ∀ (f : JFrame) (acts : List Action), f.method = m → f.locked = none → f.entered = [] → (doReturn e (T.setTop f) acts (some (.int z))).1 = T.setFrames fs) : Steps p.tables e below (T.setTop (mkF m pc Ls (.int z :: rest))) (T.setFrames fs) :=
  retN X hx (t := .boolean) hret (Or.inl rfl) hd (by have q : nar .boolean z = z := hz; rw [q]; exact hl)
theorem own_lrem {g : JFrame} {target : State} (X : Stand p l e R s m args below meth c T locs cells slots) (hx : p.tables.exec = Jvm.exec) (hg : g.method = m) {x y : Int64} {rest : List Value} (hd : decode c.code g.pc = .ok (.lrem, 1)) (hs : g.stack = .long y :: .long x :: rest) (hy : y ≠ 0)
    (hr : Steps p.tables e below (T.setTop { g with pc := g.pc + 1, stack := .long (x % y) :: rest }) target) : Steps p.tables e below (T.setTop g) target :=
  XS.lrem X.here hx hg hd hs hy (by rw [lrem_mod x y]; exact hr)
end New
end Jvm.RoadKit
namespace Jvm.Pilot.@@N@@
open Jvm Jvm.ClassFile Sem Op Lib Jvm.Free Jvm.Stand Jvm.LawKit Jvm.RoadKit Bundle Jvm.Pilot.@@N@@.Jvm.D
section Own
variable {p : Program} {l : Launch} {e : Env} {R : Room} {s : State} {m : MethodId} {args : Array Value} {below : List Frame} {meth : Method} {c : Code} {T : State} {locs : List Loc} {cells slots : Nat} {Z : State} {h h' : Heap} {a b : Addr} {ty : FieldType} {vs : List Value}
/-- the array at a, of elements of kind ty, holds just vs -/
def LA (Z : State) (h : Heap) (a : Addr) (ty : FieldType) (vs : List Value) : Prop := ∃ c : Cell, Arr Z h a c ty ∧ c.slots.toList = vs
theorem LA.lt (F : LA Z h a ty vs) : a < h.size := by obtain ⟨c, A, -⟩ := F; exact A.lt
theorem LA.ext (F : LA Z h a ty vs) (E : Ext h h') : LA Z h' a ty vs := by obtain ⟨c, A, r⟩ := F; exact ⟨c, A.ext E, r⟩
theorem LA.other {sl : Nat} {v : Value} (F : LA Z h b ty vs) (W : Wr h h' a sl v) (q : b ≠ a) : LA Z h' b ty vs := by obtain ⟨c, A, r⟩ := F; exact ⟨c, A.other W q, r⟩
theorem LA.keep {ws : List Addr} (F : LA Z h a ty vs) (K : Keep h h' ws) (q : a ∉ ws) : LA Z h' a ty vs := by obtain ⟨c, A, r⟩ := F; exact ⟨c, ⟨K.2.1 a c A.1 q, A.2⟩, r⟩
theorem LA.new {k : ClassId} {z : Int32} (A : Arr Z h a (newA k ty z) ty) (n : Nat) (q : z.toNatClampNeg = n) : LA Z h a ty (List.replicate n (defaultValue ty)) := ⟨_, A, by subst q; simp [newA]⟩
theorem own_stI (X : Stand p l e R s m args below meth c T locs cells slots) (hx : p.tables.exec = Jvm.exec) (hZ : Z.Warmed39 s.vm) (eT : T.heap = h) (A : LA Z h a .int vs) {j x : Int32} {i : Nat} (hj : j.toNatClampNeg = i) (hi : ¬ j < 0 ∧ i < vs.length) {g : JFrame} (hg : g.method = m) {rest : List Value} (hs : g.stack = .int x :: .int j :: .ref a :: rest) (hd : decode c.code g.pc = .ok (.iastore, 1)) :
    ∃ T' h', Stand p l e R s m args below meth c T' (locs ++ [⟨a, j.toNatClampNeg⟩]) cells slots ∧ T'.heap = h' ∧ Wr h h' a j.toNatClampNeg (.int x) ∧ LA Z h' a .int (vs.set i (.int x)) ∧ ∀ target, Steps p.tables e below (T'.setTop { g with pc := g.pc + 1, stack := rest }) target → Steps p.tables e below (T.setTop g) target := by
  obtain ⟨cl, A, rfl⟩ := A
  subst hj
  have hb : ¬ (j < 0 ∨ cl.slots.size ≤ j.toNatClampNeg) := fun q => q.elim hi.1 fun r => by have := hi.2; rw [Array.length_toList] at this; omega
  obtain ⟨T', h', X', e', W, st⟩ := stI X hx hZ eT A hb hg hs hd
  exact ⟨T', h', X', e', W, ⟨_, A.same W, by simp [Cell.setSlot]⟩, st⟩
theorem own_stJ (X : Stand p l e R s m args below meth c T locs cells slots) (hx : p.tables.exec = Jvm.exec) (hZ : Z.Warmed39 s.vm) (eT : T.heap = h) (A : LA Z h a .long vs) {j : Int32} {x : Int64} {i : Nat} (hj : j.toNatClampNeg = i) (hi : ¬ j < 0 ∧ i < vs.length) {g : JFrame} (hg : g.method = m) {rest : List Value} (hs : g.stack = .long x :: .int j :: .ref a :: rest) (hd : decode c.code g.pc = .ok (.lastore, 1)) :
    ∃ T' h', Stand p l e R s m args below meth c T' (locs ++ [⟨a, j.toNatClampNeg⟩]) cells slots ∧ T'.heap = h' ∧ Wr h h' a j.toNatClampNeg (.long x) ∧ LA Z h' a .long (vs.set i (.long x)) ∧ ∀ target, Steps p.tables e below (T'.setTop { g with pc := g.pc + 1, stack := rest }) target → Steps p.tables e below (T.setTop g) target := by
  obtain ⟨cl, A, rfl⟩ := A
  subst hj
  have hb : ¬ (j < 0 ∨ cl.slots.size ≤ j.toNatClampNeg) := fun q => q.elim hi.1 fun r => by have := hi.2; rw [Array.length_toList] at this; omega
  obtain ⟨T', h', X', e', W, st⟩ := stJ X hx hZ eT A hb hg hs hd
  exact ⟨T', h', X', e', W, ⟨_, A.same W, by simp [Cell.setSlot]⟩, st⟩
theorem own_at {cl : Cell} {j : Int32} {v : Value} (hn : ¬ j < 0) (hat : cl.slots.toList[j.toNatClampNeg]? = some v) : ¬ (j < 0 ∨ cl.slots.size ≤ j.toNatClampNeg) ∧ cl.slots[j.toNatClampNeg]? = some v := by
  have q : cl.slots[j.toNatClampNeg]? = some v := by rw [← Array.getElem?_toList]; exact hat
  exact ⟨fun r => r.elim hn fun z => absurd (Array.getElem?_eq_some_iff.mp q).1 (Nat.not_lt.mpr z), q⟩
theorem own_ldI (X : Stand p l e R s m args below meth c T locs cells slots) (hx : p.tables.exec = Jvm.exec) (hZ : Z.Warmed39 s.vm) (eT : T.heap = h) (A : LA Z h a .int vs) {j x : Int32} (hn : ¬ j < 0) (hat : vs[j.toNatClampNeg]? = some (.int x)) {g : JFrame} (hg : g.method = m) {rest : List Value} (hs : g.stack = .int j :: .ref a :: rest) (hd : decode c.code g.pc = .ok (.iaload, 1)) (target : State)
    (hr : Steps p.tables e below (T.setTop { g with pc := g.pc + 1, stack := .int x :: rest }) target) : Steps p.tables e below (T.setTop g) target := by
  obtain ⟨cl, A, rfl⟩ := A
  exact X.iaload hx (by rw [eT]; exact A.1) (State.isArrayOf_alike hZ.alike A.2.1) A.2.2 (own_at hn hat).1 (own_at hn hat).2 hg hs hd target hr
theorem own_ldJ (X : Stand p l e R s m args below meth c T locs cells slots) (hx : p.tables.exec = Jvm.exec) (hZ : Z.Warmed39 s.vm) (eT : T.heap = h) (A : LA Z h a .long vs) {j : Int32} {x : Int64} (hn : ¬ j < 0) (hat : vs[j.toNatClampNeg]? = some (.long x)) {g : JFrame} (hg : g.method = m) {rest : List Value} (hs : g.stack = .int j :: .ref a :: rest) (hd : decode c.code g.pc = .ok (.laload, 1)) (target : State)
    (hr : Steps p.tables e below (T.setTop { g with pc := g.pc + 1, stack := .long x :: rest }) target) : Steps p.tables e below (T.setTop g) target := by
  obtain ⟨cl, A, rfl⟩ := A
  exact X.laload hx (by rw [eT]; exact A.1) (State.isArrayOf_alike hZ.alike A.2.1) A.2.2 (own_at hn hat).1 (own_at hn hat).2 hg hs hd target hr
theorem own_len (X : Stand p l e R s m args below meth c T locs cells slots) (hx : p.tables.exec = Jvm.exec) (hZ : Z.Warmed39 s.vm) (eT : T.heap = h) (A : LA Z h a ty vs) {n : Int32} (hn : vs.length.toInt32 = n) {g : JFrame} (hg : g.method = m) {rest : List Value} (hs : g.stack = .ref a :: rest) (hd : decode c.code g.pc = .ok (.arraylength, 1)) (target : State)
    (hr : Steps p.tables e below (T.setTop { g with pc := g.pc + 1, stack := .int n :: rest }) target) : Steps p.tables e below (T.setTop g) target := by
  obtain ⟨cl, A, rfl⟩ := A
  refine X.arraylength hx (by rw [eT]; exact A.1) (State.isArrayOf_alike hZ.alike A.2.1) hg hs hd target ?_
  have q : cl.slots.size.toInt32 = n := by rw [← hn, Array.length_toList]
  rw [q]; exact hr
theorem own_clone {a0 : Array Value} (X : Stand p l e R s m args below meth c T locs cells slots) (hx : p.tables.exec = Jvm.exec) (hZ : Z.Warmed39 s.vm) {own ad : String} {index : Nat} (hown : s.vm.findClass own = some m.cls)
    (w1 : (Cond.methodLink own index ⟨ad, "clone", "()Ljava/lang/Object;"⟩).before a0 Z = true) (w2 : (Cond.sameMethod ad "java/lang/Object" "clone" "()Ljava/lang/Object;").before a0 Z = true) (w3 : (Cond.native ⟨"java/lang/Object", "clone", "()Ljava/lang/Object;"⟩).before a0 Z = true)
    (w4 : (Cond.instanceMethod ⟨"java/lang/Object", "clone", "()Ljava/lang/Object;"⟩).before a0 Z = true) (w5 : (Cond.selects ad ⟨ad, "clone", "()Ljava/lang/Object;"⟩ ⟨"java/lang/Object", "clone", "()Ljava/lang/Object;"⟩).before a0 Z = true) (w6 : (Cond.castable ad "java/lang/Cloneable").before a0 Z = true)
    (eT : T.heap = h) (A : LA Z h a ty vs) (E : Exa Z h a ad) (F : ∀ v ∈ vs, fits ty v = true) {g : JFrame} (hg : g.method = m) (hsize : g.locals.size = c.maxLocals) {rest : List Value} (hs : g.stack = .ref a :: rest) (hd : decode c.code g.pc = .ok (.invokevirtual index, 3))
    (hf : 1 ≤ R.frames) {W cap : Nat} (hW : 2 * g.monitorRoom + (rest.map fun v => v.category).sum ≤ W) (hl : W + 14 ≤ R.locals) (hcap : vs.length ≤ cap) (hc : cells + 1 ≤ R.cells) (hsl : slots + cap ≤ R.slots) :
    ∃ T' h', Stand p l e R s m args below meth c T' locs (cells + 1) (slots + cap) ∧ T'.heap = h' ∧ Ext h h' ∧ LA Z h' h.size ty vs ∧ Exa Z h' h.size ad ∧
      ∀ target, Steps p.tables e below (T'.setTop { g with pc := g.pc + 3, stack := .ref h.size :: rest }) target → Steps p.tables e below (T.setTop g) target := by
  obtain ⟨cl, A, rfl⟩ := A
  have FC : FitC Z cl := fitC_of A fun i hi v hv => F v (Array.mem_toList_iff.mpr (Array.mem_of_getElem? hv))
  obtain ⟨T', h', X', e', ex, A', E', st⟩ := cloneA X hx hZ hown w1 w2 w3 w4 w5 w6 eT A E FC hg hsize hs hd hf hW hl (by rw [Array.length_toList] at hcap; exact hcap) hc hsl
  exact ⟨T', h', X', e', ex, ⟨cloneOf cl, A', rfl⟩, E', st⟩
theorem own_fitsJ (xs : List Int64) : ∀ v ∈ xs.map Value.long, fits .long v = true := fun v hv => by
  obtain ⟨x, -, rfl⟩ := List.mem_map.mp hv
  rfl
theorem own_readJ {xs pr rest : List Int64} {x : Int64} {k : Nat} (e : xs = pr ++ x :: rest) (hk : k = pr.length) : (xs.map Value.long)[k]? = some (.long x) := by
  subst e hk
  simp
end Own
theorem own_idx {j : Int32} {n : Nat} (h0 : 0 ≤ j.toInt) (h1 : j.toInt < n) : ¬ j < 0 ∧ j.toNatClampNeg < n := by
  have q : ¬ j < 0 := fun q => by have := Int32.lt_iff_toInt_lt.mp q; have z : (0 : Int32).toInt = 0 := (by decide); omega
  have r := nat_of q
  exact ⟨q, by omega⟩
theorem own_get {vs : List Value} (L : List Int32) (e : vs = L.map Value.int) {k : Nat} (hk : k < L.length) : ∃ x, vs[k]? = some (.int x) := by
  subst e
  exact ⟨L[k], by simp [hk]⟩
theorem own_inj {s t : Int32} {k : Int} (h : s.toInt = k) (e : t.toInt = k) : s = t := Int32.toInt_inj.mp (h.trans e.symm)
theorem own_inc (x : Int32) (h : x.toInt < 2147483647) : (x + (1 : Int32)).toInt = x.toInt + 1 := by
  have c := c_iadd x (1 : Int32)
  have r := rng32 (x + (1 : Int32))
  have q := rng32 x
  have o : (1 : Int32).toInt = 1 := by decide
  omega

theorem own_wS {Z : State} {a0 : Array Value} (hw : ∀ d ∈ tables_1, d.before a0 Z = true) : ∀ a ∈ Bundle.stringAtoms, a.before a0 Z = true := fun a ha => hw a ((by decide +kernel : ∀ a ∈ Bundle.stringAtoms, a ∈ tables_1) a ha)
theorem own_neA {Z : State} {h : Heap} {a b : Addr} {C : String} {a0 : Array Value} {k : Nat} {ty : FieldType} {vs : List Value} (E : Exa Z h a C) (wi : (Cond.instantiable C k).before a0 Z = true) (A : LA Z h b ty vs) : b ≠ a := by
  obtain ⟨c, A, -⟩ := A
  exact Ne.symm (ne_arr E wi A)
def own_lag (x e : Int64) : Int64 := if x = (-1 : Int64) then (-1 : Int64) else (e - x)
theorem own_lm1 {x : Int64} (h : -1 ≤ x.toInt) : ¬ x < (-1 : Int64) := fun q => by have := Int64.lt_iff_toInt_lt.mp q; have o : (-1 : Int64).toInt = -1 := (by decide); omega

theorem own_nn (w : Int64) : 0 ≤ (w &&& (9223372036854775807 : Int64)).toInt := by
  rw [c_maskL w (9223372036854775807 : Int64) 63 (by decide) (by decide)]
  exact Int.emod_nonneg _ (by decide)
theorem own_of {P : Prop} [Decidable P] {x y : Int64} (h : x = if P then (y &&& (9223372036854775807 : Int64)) else (-1 : Int64)) : -1 ≤ x.toInt := by
  subst h
  by_cases q : P
  · rw [if_pos q]; have := own_nn y; omega
  · rw [if_neg q]; decide
theorem own_two (a b : Int64) (ha : -1 ≤ a.toInt) (hb : -1 ≤ b.toInt) : ∀ x ∈ [a, b], -1 ≤ x.toInt := fun x hx => by
  rcases List.mem_cons.mp hx with rfl | hx
  · exact ha
  · rcases List.mem_cons.mp hx with rfl | hx
    · exact hb
    · exact absurd hx (by simp)
theorem own_pick (a b : Int64) (q : Int32) (h : q.toInt = 0 ∨ q.toInt = 1) : ([a, b].map Value.long)[q.toNatClampNeg]? = some (.long (if q = (0 : Int32) then a else b)) := by
  rcases h with h | h
  · obtain rfl := own_inj h (by decide : (0 : Int32).toInt = 0); rfl
  · obtain rfl := own_inj h (by decide : (1 : Int32).toInt = 1); rfl
theorem own_back (x e : Int64) (h : ¬ x = (-1 : Int64)) : (own_lag x e + x) = e := by rw [own_lag, if_neg h, Int64.sub_add_cancel]
theorem d3_0 : decode prog_45_method_3_code 0 = .ok (.iload_n 0, 1) := by decide +kernel
theorem d3_1 : decode prog_45_method_3_code 1 = .ok (.iconst 1, 1) := by decide +kernel
theorem d3_2 : decode prog_45_method_3_code 2 = .ok (.if_icmp .lt 10, 3) := by decide +kernel
theorem d3_5 : decode prog_45_method_3_code 5 = .ok (.iload_n 0, 1) := by decide +kernel
theorem d3_6 : decode prog_45_method_3_code 6 = .ok (.sipush 256, 3) := by decide +kernel
theorem d3_9 : decode prog_45_method_3_code 9 = .ok (.if_icmp .le 17, 3) := by decide +kernel
theorem d3_26 : decode prog_45_method_3_code 26 = .ok (.iload_n 0, 1) := by decide +kernel
theorem d3_27 : decode prog_45_method_3_code 27 = .ok (.ireturn, 1) := by decide +kernel
theorem pn_0 : plainName "com/example/ingest/ingest/common/Protocol" = true := by first | (simp [plainName, overriddenIn]; done) | decide +kernel
theorem ef_rm3 (m : MethodId) (x0 : Int32) : entryFrame m #[(.int x0)] 1 = mkF m 0 #[.val (.int x0)] [] := by first | (simp [entryFrame, mkF, argsToLocals, Value.category]; done) | rfl
def Q3 (Z : State) (p1 : Int32) (h0 : Heap) (n0 : Nat) (v : Option Value) (h : Heap) (L : List Loc) : Prop := v = some (.int p1) ∧ Fr n0 L ∧ h = h0
set_option maxRecDepth 65536 in
set_option maxHeartbeats 40000000 in
theorem rm3 (l : Launch) (Z : State) (a0 : Array Value) (hw : ∀ d ∈ tables_1, d.before a0 Z = true) (ws : List Jvm.Cond) (p1 : Int32) (h0 : Heap) (n0 : Nat) (Z0 : n0 ≤ h0.size) (b1 : ¬ p1 < (1 : Int32)) (b2 : ¬ (256 : Int32) < p1) :
    MetFree l (⟨"com/example/ingest/ingest/common/Protocol", "checkQueueCount", "(I)I"⟩ : MethodName) (head1 (Jvm.Cond.code (⟨"com/example/ingest/ingest/common/Protocol", "checkQueueCount", "(I)I"⟩ : MethodName) prog_45_method_3_code 1 (some .int) :: ws) ({ frames := 0, cells := 0, slots := 0, locals := 0 } : Room)) (fun aa U => aa = #[(.int p1)] ∧ Z.Warmed39 U.vm ∧ U.heap = h0) (fun _ _ _ _ _ => True) (fun _ U o U' => ∃ v L, o = .returned v ∧ Q3 Z p1 h0 n0 v U'.heap L ∧ FrameEnd U o U' L ({ frames := 0, cells := 0, slots := 0, locals := 0 } : Room).cells ({ frames := 0, cells := 0, slots := 0, locals := 0 } : Room).slots) := by
  refine MetFree.of_bodySF (plainFor_of_name pn_0) hisR ?_
  intro p e s m args below meth c s₁ Bd hml0 hP hK
  obtain ⟨rfl, hZ, hh⟩ := hP
  have hx := Bd.exec
  have hby := Bd.bytes
  have hml : c.maxLocals = 1 := hml0
  have hown : s.vm.findClass "com/example/ingest/ingest/common/Protocol" = some m.cls := findClass_of_methodNamed Bd.named
  have hnm := (name_of_methodNamed Bd.named Bd.method).1
  have X0 : Stand p l e ({ frames := 0, cells := 0, slots := 0, locals := 0 } : Room) s m #[(.int p1)] below meth c s₁ [] 0 0 := Stand.of_body Bd
  have e0 : s₁.heap = h0 := by rw [← hh, Bd.state]; rfl
  have N0 := Fr.nil n0
  obtain ⟨Ω, hΩ⟩ : ∃ z, z = s₁.setTop (entryFrame m #[(.int p1)] 1) := ⟨_, rfl⟩
  have S0 : Steps p.tables e below Ω (s₁.setTop (mkF m 0 #[.val (.int p1)] [])) := by rw [hΩ]; exact castTop (ef_rm3 m p1) (Steps.refl _)
  have S1 : Steps p.tables e below Ω (s₁.setTop (mkF m 27 #[.val (.int p1)] [(.int p1)])) := by
    refine S0.trans ?_
    refine XS.iloadN X0.here hx rfl (hb hby d3_0) rfl ?_
    show Steps p.tables e below (s₁.setTop (mkF m 1 #[.val (.int p1)] [(.int p1)])) _
    refine XS.iconst X0.here hx rfl (hb hby d3_1) ?_
    show Steps p.tables e below (s₁.setTop (mkF m 2 #[.val (.int p1)] [(.int (1 : Int32)), (.int p1)])) _
    refine XS.icmpNo X0.here hx rfl (hb hby d3_2) rfl (XT.ii_lt_f b1) ?_
    show Steps p.tables e below (s₁.setTop (mkF m 5 #[.val (.int p1)] [])) _
    refine XS.iloadN X0.here hx rfl (hb hby d3_5) rfl ?_
    show Steps p.tables e below (s₁.setTop (mkF m 6 #[.val (.int p1)] [(.int p1)])) _
    refine XS.sipush X0.here hx rfl (hb hby d3_6) ?_
    show Steps p.tables e below (s₁.setTop (mkF m 9 #[.val (.int p1)] [(.int (256 : Int32)), (.int p1)])) _
    refine XS.icmpYes X0.here hx rfl (pc0 := 9) (pc' := 26) rfl (hb hby d3_9) rfl (XT.ii_le_t b2) (by decide) (by decide) ?_
    show Steps p.tables e below (s₁.setTop (mkF m 26 #[.val (.int p1)] [])) _
    refine XS.iloadN X0.here hx rfl (hb hby d3_26) rfl ?_
    exact Steps.refl _
  obtain ⟨fs, hr, hrun, hended, hW, hsame⟩ := X0.leave (v := some (.int p1)) (fun h => by rw [Bd.returns] at h; cases h)
  have hfin : Steps p.tables e below Ω (s₁.setFrames fs) := by
    refine S1.trans ?_
    exact retI X0 hx Bd.returns (hb hby d3_27) hr
  rw [hΩ] at hfin
  refine ⟨_, _, hfin, hrun, hended, _, _, rfl, ?_, ⟨_, rfl⟩, hW, hsame.mono (by decide) (by decide)⟩
  show Q3 Z p1 h0 n0 _ s₁.heap _
  rw [e0]
  exact ⟨rfl, N0, rfl⟩
theorem d4_0 : decode prog_27_method_13_code 0 = .ok (.iconst 0, 1) := by decide +kernel
theorem d4_1 : decode prog_27_method_13_code 1 = .ok (.istore_n 2, 1) := by decide +kernel
theorem d4_2 : decode prog_27_method_13_code 2 = .ok (.iload_n 2, 1) := by decide +kernel
theorem d4_3 : decode prog_27_method_13_code 3 = .ok (.aload_n 1, 1) := by decide +kernel
theorem d4_4 : decode prog_27_method_13_code 4 = .ok (.arraylength, 1) := by decide +kernel
theorem d4_5 : decode prog_27_method_13_code 5 = .ok (.if_icmp .ge 37, 3) := by decide +kernel
theorem d4_8 : decode prog_27_method_13_code 8 = .ok (.aload_n 1, 1) := by decide +kernel
theorem d4_9 : decode prog_27_method_13_code 9 = .ok (.iload_n 2, 1) := by decide +kernel
theorem d4_10 : decode prog_27_method_13_code 10 = .ok (.laload, 1) := by decide +kernel
theorem d4_11 : decode prog_27_method_13_code 11 = .ok (.ldc2_w 54, 3) := by decide +kernel
theorem d4_14 : decode prog_27_method_13_code 14 = .ok (.lcmp, 1) := by decide +kernel
theorem d4_15 : decode prog_27_method_13_code 15 = .ok (.ifCond .ge 21, 3) := by decide +kernel
theorem d4_36 : decode prog_27_method_13_code 36 = .ok (.iinc 2 1, 3) := by decide +kernel
theorem d4_39 : decode prog_27_method_13_code 39 = .ok (.goto (-37), 3) := by decide +kernel
theorem d4_42 : decode prog_27_method_13_code 42 = .ok (.return_, 1) := by decide +kernel
theorem pn_1 : plainName "com/example/ingest/ingest/common/GroupProgress" = true := by first | (simp [plainName, overriddenIn]; done) | decide +kernel
theorem ef_rm4 (m : MethodId) (x0 : Addr) (x1 : Addr) : entryFrame m #[(.ref x0), (.ref x1)] 3 = mkF m 0 #[.val (.ref x0), .val (.ref x1), .unset] [] := by first | (simp [entryFrame, mkF, argsToLocals, Value.category]; done) | rfl
def Q4 (Z : State) (s1 : Addr) (b : Addr) (xs : List Int64) (h0 : Heap) (n0 : Nat) (v : Option Value) (h : Heap) (L : List Loc) : Prop := v = none ∧ Fr n0 L ∧ h = h0
set_option maxRecDepth 65536 in
set_option maxHeartbeats 40000000 in
theorem rm4 (l : Launch) (Z : State) (a0 : Array Value) (hw : ∀ d ∈ tables_1, d.before a0 Z = true) (ws : List Jvm.Cond) (s1 : Addr) (b : Addr) (xs : List Int64) (h0 : Heap) (n0 : Nat) (Z0 : n0 ≤ h0.size) (A1 : LA Z h0 b .long (xs.map Value.long)) (b1 : xs.length = 2) (b2 : ∀ x ∈ xs, -1 ≤ x.toInt) :
    MetFree l (⟨"com/example/ingest/ingest/common/GroupProgress", "checkOffsets", "(Ljava/lang/String;[J)V"⟩ : MethodName) (head1 (Jvm.Cond.code (⟨"com/example/ingest/ingest/common/GroupProgress", "checkOffsets", "(Ljava/lang/String;[J)V"⟩ : MethodName) prog_27_method_13_code 3 none :: ws) ({ frames := 0, cells := 0, slots := 0, locals := 0 } : Room)) (fun aa U => aa = #[(.ref s1), (.ref b)] ∧ Z.Warmed39 U.vm ∧ U.heap = h0) (fun _ _ _ _ _ => True) (fun _ U o U' => ∃ v L, o = .returned v ∧ Q4 Z s1 b xs h0 n0 v U'.heap L ∧ FrameEnd U o U' L ({ frames := 0, cells := 0, slots := 0, locals := 0 } : Room).cells ({ frames := 0, cells := 0, slots := 0, locals := 0 } : Room).slots) := by
  refine MetFree.of_bodySF (plainFor_of_name pn_1) hisR ?_
  intro p e s m args below meth c s₁ Bd hml0 hP hK
  obtain ⟨rfl, hZ, hh⟩ := hP
  have hx := Bd.exec
  have hby := Bd.bytes
  have hml : c.maxLocals = 3 := hml0
  have hown : s.vm.findClass "com/example/ingest/ingest/common/GroupProgress" = some m.cls := findClass_of_methodNamed Bd.named
  have hnm := (name_of_methodNamed Bd.named Bd.method).1
  have X0 : Stand p l e ({ frames := 0, cells := 0, slots := 0, locals := 0 } : Room) s m #[(.ref s1), (.ref b)] below meth c s₁ [] 0 0 := Stand.of_body Bd
  have e0 : s₁.heap = h0 := by rw [← hh, Bd.state]; rfl
  have N0 := Fr.nil n0
  obtain ⟨Ω, hΩ⟩ : ∃ z, z = s₁.setTop (entryFrame m #[(.ref s1), (.ref b)] 3) := ⟨_, rfl⟩
  have S0 : Steps p.tables e below Ω (s₁.setTop (mkF m 0 #[.val (.ref s1), .val (.ref b), .unset] [])) := by rw [hΩ]; exact castTop (ef_rm4 m s1 b) (Steps.refl _)
  have S1 : Steps p.tables e below Ω (s₁.setTop (mkF m 2 #[.val (.ref s1), .val (.ref b), .val (.int (0 : Int32))] [])) := by
    refine S0.trans ?_
    refine XS.iconst X0.here hx rfl (hb hby d4_0) ?_
    show Steps p.tables e below (s₁.setTop (mkF m 1 #[.val (.ref s1), .val (.ref b), .unset] [(.int (0 : Int32))])) _
    refine XS.istoreN X0.here hx rfl (hb hby d4_1) rfl (l' := #[.val (.ref s1), .val (.ref b), .val (.int (0 : Int32))]) rfl ?_
    exact Steps.refl _
  have hn : (xs.map Value.long).length.toInt32 = (2 : Int32) := by rw [List.length_map, b1]; rfl
  have n3 : (2 : Int32).toInt = 2 := by decide
  have LOOP : ∀ (rest pr : List Int64) (i : Int32), xs = pr ++ rest → i.toInt = pr.length → ∃ j : Int32, Steps p.tables e below (s₁.setTop (mkF m 2 #[.val (.ref s1), .val (.ref b), .val (.int i)] [])) (s₁.setTop (mkF m 42 #[.val (.ref s1), .val (.ref b), .val (.int j)] [])) := by
    intro rest
    induction rest with
    | nil =>
      intro pr i hxs hi
      have hlen : xs.length = pr.length := by rw [hxs, List.append_nil]
      have hc : ¬ i < (2 : Int32) := fun q => by have := Int32.lt_iff_toInt_lt.mp q; omega
      have P2 : Steps p.tables e below (s₁.setTop (mkF m 2 #[.val (.ref s1), .val (.ref b), .val (.int i)] [])) (s₁.setTop (mkF m 2 #[.val (.ref s1), .val (.ref b), .val (.int i)] [])) := Steps.refl _
      have S3 : Steps p.tables e below (s₁.setTop (mkF m 2 #[.val (.ref s1), .val (.ref b), .val (.int i)] [])) (s₁.setTop (mkF m 4 #[.val (.ref s1), .val (.ref b), .val (.int i)] [(.ref b), (.int i)])) := by
        refine P2.trans ?_
        refine XS.iloadN X0.here hx rfl (hb hby d4_2) rfl ?_
        show Steps p.tables e below (s₁.setTop (mkF m 3 #[.val (.ref s1), .val (.ref b), .val (.int i)] [(.int i)])) _
        refine XS.aloadN X0.here hx rfl (hb hby d4_3) rfl rfl ?_
        exact Steps.refl _
      have S4 : Steps p.tables e below (s₁.setTop (mkF m 2 #[.val (.ref s1), .val (.ref b), .val (.int i)] [])) (s₁.setTop (mkF m 5 #[.val (.ref s1), .val (.ref b), .val (.int i)] [(.int (2 : Int32)), (.int i)])) := S3.trans (own_len X0 hx hZ e0 A1 (n := (2 : Int32)) hn (g := (mkF m 4 #[.val (.ref s1), .val (.ref b), .val (.int i)] [(.ref b), (.int i)])) rfl rfl (hb hby d4_4) _ (Steps.refl _))
      have S5 : Steps p.tables e below (s₁.setTop (mkF m 2 #[.val (.ref s1), .val (.ref b), .val (.int i)] [])) (s₁.setTop (mkF m 42 #[.val (.ref s1), .val (.ref b), .val (.int i)] [])) := by
        refine S4.trans ?_
        refine XS.icmpYes X0.here hx rfl (pc0 := 5) (pc' := 42) rfl (hb hby d4_5) rfl (XT.ii_ge_t hc) (by decide) (by decide) ?_
        exact Steps.refl _
      exact ⟨i, S5⟩
    | cons x rest ih =>
      intro pr i hxs hi
      have hlen : xs.length = pr.length + (rest.length + 1) := by rw [hxs, List.length_append, List.length_cons]
      have hc : i < (2 : Int32) := Int32.lt_iff_toInt_lt.mpr (by omega)
      have hin := own_idx (j := i) (n := 2) (by omega) (by omega)
      have hnat := nat_of hin.1
      have hrd := own_readJ hxs (k := i.toNatClampNeg) (by omega)
      have hinc := own_inc i (by omega)
      have hx1 := b2 x (by rw [hxs]; simp)
      have P2 : Steps p.tables e below (s₁.setTop (mkF m 2 #[.val (.ref s1), .val (.ref b), .val (.int i)] [])) (s₁.setTop (mkF m 2 #[.val (.ref s1), .val (.ref b), .val (.int i)] [])) := Steps.refl _
      have S6 : Steps p.tables e below (s₁.setTop (mkF m 2 #[.val (.ref s1), .val (.ref b), .val (.int i)] [])) (s₁.setTop (mkF m 4 #[.val (.ref s1), .val (.ref b), .val (.int i)] [(.ref b), (.int i)])) := by
        refine P2.trans ?_
        refine XS.iloadN X0.here hx rfl (hb hby d4_2) rfl ?_
        show Steps p.tables e below (s₁.setTop (mkF m 3 #[.val (.ref s1), .val (.ref b), .val (.int i)] [(.int i)])) _
        refine XS.aloadN X0.here hx rfl (hb hby d4_3) rfl rfl ?_
        exact Steps.refl _
      have S7 : Steps p.tables e below (s₁.setTop (mkF m 2 #[.val (.ref s1), .val (.ref b), .val (.int i)] [])) (s₁.setTop (mkF m 5 #[.val (.ref s1), .val (.ref b), .val (.int i)] [(.int (2 : Int32)), (.int i)])) := S6.trans (own_len X0 hx hZ e0 A1 (n := (2 : Int32)) hn (g := (mkF m 4 #[.val (.ref s1), .val (.ref b), .val (.int i)] [(.ref b), (.int i)])) rfl rfl (hb hby d4_4) _ (Steps.refl _))
      have S8 : Steps p.tables e below (s₁.setTop (mkF m 2 #[.val (.ref s1), .val (.ref b), .val (.int i)] [])) (s₁.setTop (mkF m 10 #[.val (.ref s1), .val (.ref b), .val (.int i)] [(.int i), (.ref b)])) := by
        refine S7.trans ?_
        refine XS.icmpNo X0.here hx rfl (hb hby d4_5) rfl (XT.ii_ge_f hc) ?_
        show Steps p.tables e below (s₁.setTop (mkF m 8 #[.val (.ref s1), .val (.ref b), .val (.int i)] [])) _
        refine XS.aloadN X0.here hx rfl (hb hby d4_8) rfl rfl ?_
        show Steps p.tables e below (s₁.setTop (mkF m 9 #[.val (.ref s1), .val (.ref b), .val (.int i)] [(.ref b)])) _
        refine XS.iloadN X0.here hx rfl (hb hby d4_9) rfl ?_
        exact Steps.refl _
      have S9 : Steps p.tables e below (s₁.setTop (mkF m 2 #[.val (.ref s1), .val (.ref b), .val (.int i)] [])) (s₁.setTop (mkF m 11 #[.val (.ref s1), .val (.ref b), .val (.int i)] [(.long x)])) := S8.trans (own_ldJ X0 hx hZ e0 A1 (j := i) (x := x) hin.1 hrd (g := (mkF m 10 #[.val (.ref s1), .val (.ref b), .val (.int i)] [(.int i), (.ref b)])) rfl rfl (hb hby d4_10) _ (Steps.refl _))
      have S10 : Steps p.tables e below (s₁.setTop (mkF m 2 #[.val (.ref s1), .val (.ref b), .val (.int i)] [])) (s₁.setTop (mkF m 2 #[.val (.ref s1), .val (.ref b), .val (.int (i + (1 : Int32)))] [])) := by
        refine S9.trans ?_
        refine X0.ldc2Long hx hown (mvT hZ (hw _ (List.mem_of_getElem? (i := 27) rfl))) (g := (mkF m 11 #[.val (.ref s1), .val (.ref b), .val (.int i)] [(.long x)])) rfl (hb hby d4_11) _ ?_
        show Steps p.tables e below (s₁.setTop (mkF m 14 #[.val (.ref s1), .val (.ref b), .val (.int i)] [(.long (-1 : Int64)), (.long x)])) _
        refine XS.lcmp X0.here hx rfl (hb hby d4_14) rfl ?_
        show Steps p.tables e below (s₁.setTop (mkF m 15 #[.val (.ref s1), .val (.ref b), .val (.int i)] [(.int (lcmpW x (-1 : Int64)))])) _
        refine XS.ifYes X0.here hx rfl (pc0 := 15) (pc' := 36) rfl (hb hby d4_15) rfl (XT.ll_ge_t (own_lm1 hx1)) (by decide) (by decide) ?_
        show Steps p.tables e below (s₁.setTop (mkF m 36 #[.val (.ref s1), .val (.ref b), .val (.int i)] [])) _
        refine XS.iinc X0.here hx rfl (hb hby d4_36) rfl (l' := #[.val (.ref s1), .val (.ref b), .val (.int (i + (1 : Int32)))]) rfl ?_
        show Steps p.tables e below (s₁.setTop (mkF m 39 #[.val (.ref s1), .val (.ref b), .val (.int (i + (1 : Int32)))] [])) _
        refine XS.goto X0.here hx rfl (pc0 := 39) (pc' := 2) rfl (hb hby d4_39) (by decide) (by decide) ?_
        exact Steps.refl _
      obtain ⟨j, SL⟩ := ih (pr ++ [x]) (i + (1 : Int32)) (by rw [hxs]; simp) (by rw [hinc, hi]; simp)
      exact ⟨j, S10.trans SL⟩
  obtain ⟨j, SL⟩ := LOOP xs [] (0 : Int32) rfl (by decide)
  have S11 : Steps p.tables e below Ω (s₁.setTop (mkF m 42 #[.val (.ref s1), .val (.ref b), .val (.int j)] [])) := S1.trans SL
  obtain ⟨fs, hr, hrun, hended, hW, hsame⟩ := X0.leave (v := none) (fun _ => rfl)
  have hfin : Steps p.tables e below Ω (s₁.setFrames fs) := by
    refine S11.trans ?_
    exact X0.returnOut hx Bd.returns (hb hby d4_42) hr
  rw [hΩ] at hfin
  refine ⟨_, _, hfin, hrun, hended, _, _, rfl, ?_, ⟨_, rfl⟩, hW, hsame.mono (by decide) (by decide)⟩
  show Q4 Z s1 b xs h0 n0 _ s₁.heap _
  rw [e0]
  exact ⟨rfl, N0, rfl⟩
theorem d1_0 : decode prog_27_method_2_code 0 = .ok (.aload_n 0, 1) := by decide +kernel
theorem d1_1 : decode prog_27_method_2_code 1 = .ok (.invokespecial 11, 3) := by decide +kernel
theorem d1_4 : decode prog_27_method_2_code 4 = .ok (.aload_n 1, 1) := by decide +kernel
theorem d1_5 : decode prog_27_method_2_code 5 = .ok (.arraylength, 1) := by decide +kernel
theorem pd_0 : parseMethodDescriptor "(I)I" = some ⟨[.int], some .int⟩ := by decide +kernel
theorem d1_6 : decode prog_27_method_2_code 6 = .ok (.invokestatic 16, 3) := by decide +kernel
theorem d1_9 : decode prog_27_method_2_code 9 = .ok (.pop, 1) := by decide +kernel
theorem d1_10 : decode prog_27_method_2_code 10 = .ok (.aload_n 2, 1) := by decide +kernel
theorem d1_11 : decode prog_27_method_2_code 11 = .ok (.arraylength, 1) := by decide +kernel
theorem d1_12 : decode prog_27_method_2_code 12 = .ok (.aload_n 1, 1) := by decide +kernel
theorem d1_13 : decode prog_27_method_2_code 13 = .ok (.arraylength, 1) := by decide +kernel
theorem d1_14 : decode prog_27_method_2_code 14 = .ok (.if_icmp .eq 20, 3) := by decide +kernel
theorem d1_34 : decode prog_27_method_2_code 34 = .ok (.ldc 31, 2) := by decide +kernel
theorem d1_36 : decode prog_27_method_2_code 36 = .ok (.aload_n 1, 1) := by decide +kernel
theorem pd_1 : parseMethodDescriptor "(Ljava/lang/String;[J)V" = some ⟨[(.object "java/lang/String"), (.array .long)], none⟩ := by decide +kernel
theorem d1_37 : decode prog_27_method_2_code 37 = .ok (.invokestatic 33, 3) := by decide +kernel
theorem d1_40 : decode prog_27_method_2_code 40 = .ok (.ldc 37, 2) := by decide +kernel
theorem d1_42 : decode prog_27_method_2_code 42 = .ok (.aload_n 2, 1) := by decide +kernel
theorem d1_43 : decode prog_27_method_2_code 43 = .ok (.invokestatic 33, 3) := by decide +kernel
theorem d1_46 : decode prog_27_method_2_code 46 = .ok (.aload_n 0, 1) := by decide +kernel
theorem d1_47 : decode prog_27_method_2_code 47 = .ok (.aload_n 1, 1) := by decide +kernel
theorem d1_48 : decode prog_27_method_2_code 48 = .ok (.invokevirtual 39, 3) := by decide +kernel
theorem d1_51 : decode prog_27_method_2_code 51 = .ok (.checkcast 40, 3) := by decide +kernel
theorem d1_54 : decode prog_27_method_2_code 54 = .ok (.putfield 45, 3) := by decide +kernel
theorem d1_57 : decode prog_27_method_2_code 57 = .ok (.aload_n 0, 1) := by decide +kernel
theorem d1_58 : decode prog_27_method_2_code 58 = .ok (.aload_n 2, 1) := by decide +kernel
theorem d1_59 : decode prog_27_method_2_code 59 = .ok (.invokevirtual 39, 3) := by decide +kernel
theorem d1_62 : decode prog_27_method_2_code 62 = .ok (.checkcast 40, 3) := by decide +kernel
theorem d1_65 : decode prog_27_method_2_code 65 = .ok (.putfield 48, 3) := by decide +kernel
theorem d1_68 : decode prog_27_method_2_code 68 = .ok (.return_, 1) := by decide +kernel
theorem ef_rm1 (m : MethodId) (x0 : Addr) (x1 : Addr) (x2 : Addr) : entryFrame m #[(.ref x0), (.ref x1), (.ref x2)] 3 = mkF m 0 #[.val (.ref x0), .val (.ref x1), .val (.ref x2)] [] := by first | (simp [entryFrame, mkF, argsToLocals, Value.category]; done) | rfl
def Q1 (Z : State) (a : Addr) (b : Addr) (b2 : Addr) (xs : List Int64) (ys : List Int64) (h0 : Heap) (n0 : Nat) (v : Option Value) (h : Heap) (L : List Loc) : Prop := ∃ cA : Addr, v = none ∧ Fr n0 L ∧ Keep h0 h [a] ∧ Exa Z h a "com/example/ingest/ingest/common/GroupProgress" ∧ Fld Z h a "com/example/ingest/ingest/common/GroupProgress" "offsets" "[J" (.ref cA) ∧ LA Z h cA .long (xs.map Value.long)
set_option maxRecDepth 65536 in
set_option maxHeartbeats 40000000 in
theorem rm1 (l : Launch) (Z : State) (a0 : Array Value) (hw : ∀ d ∈ tables_1, d.before a0 Z = true) (ws : List Jvm.Cond) (a : Addr) (b : Addr) (b2 : Addr) (xs : List Int64) (ys : List Int64) (h0 : Heap) (n0 : Nat) (Z0 : n0 ≤ h0.size) (E0 : Exa Z h0 a "com/example/ingest/ingest/common/GroupProgress") (F1 : Fld Z h0 a "com/example/ingest/ingest/common/GroupProgress" "offsets" "[J" .null) (F2 : Fld Z h0 a "com/example/ingest/ingest/common/GroupProgress" "retryOffsets" "[J" .null) (g : n0 ≤ a) (A1 : LA Z h0 b .long (xs.map Value.long)) (A2 : LA Z h0 b2 .long (ys.map Value.long)) (B1 : Exa Z h0 b "[J") (B2 : Exa Z h0 b2 "[J") (l1 : xs.length = 2) (l2 : ys.length = 2) (v1 : ∀ x ∈ xs, -1 ≤ x.toInt) (v2 : ∀ x ∈ ys, -1 ≤ x.toInt) :
    MetFree l (⟨"com/example/ingest/ingest/common/GroupProgress", "<init>", "([J[J)V"⟩ : MethodName) (head1 (Jvm.Cond.code (⟨"com/example/ingest/ingest/common/GroupProgress", "<init>", "([J[J)V"⟩ : MethodName) prog_27_method_2_code 3 none :: ws) ({ frames := 1, cells := 6, slots := 84, locals := 15 } : Room)) (fun aa U => aa = #[(.ref a), (.ref b), (.ref b2)] ∧ Z.Warmed39 U.vm ∧ U.heap = h0) (fun _ _ _ _ _ => True) (fun _ U o U' => ∃ v L, o = .returned v ∧ Q1 Z a b b2 xs ys h0 n0 v U'.heap L ∧ ReturnedEndW U o U' L ({ frames := 1, cells := 6, slots := 84, locals := 15 } : Room).cells ({ frames := 1, cells := 6, slots := 84, locals := 15 } : Room).slots) := by
  refine MetFree.of_bodySF (plainFor_of_name pn_1) hisR ?_
  intro p e s m args below meth c s₁ Bd hml0 hP hK
  obtain ⟨rfl, hZ, hh⟩ := hP
  have hx := Bd.exec
  have hby := Bd.bytes
  have hml : c.maxLocals = 3 := hml0
  have hown : s.vm.findClass "com/example/ingest/ingest/common/GroupProgress" = some m.cls := findClass_of_methodNamed Bd.named
  have hnm := (name_of_methodNamed Bd.named Bd.method).1
  have X0 : Stand p l e ({ frames := 1, cells := 6, slots := 84, locals := 15 } : Room) s m #[(.ref a), (.ref b), (.ref b2)] below meth c s₁ [] 0 0 := Stand.of_body Bd
  have e0 : s₁.heap = h0 := by rw [← hh, Bd.state]; rfl
  have N0 := Fr.nil n0
  obtain ⟨Ω, hΩ⟩ : ∃ z, z = s₁.setTop (entryFrame m #[(.ref a), (.ref b), (.ref b2)] 3) := ⟨_, rfl⟩
  have S0 : Steps p.tables e below Ω (s₁.setTop (mkF m 0 #[.val (.ref a), .val (.ref b), .val (.ref b2)] [])) := by rw [hΩ]; exact castTop (ef_rm1 m a b b2) (Steps.refl _)
  have hS0 : s.Since s.vm h0.size := (State.WarmedH.refl s).since _
  have hn1 : (xs.map Value.long).length.toInt32 = (2 : Int32) := by rw [List.length_map, l1]; rfl
  have hn2 : (ys.map Value.long).length.toInt32 = (2 : Int32) := by rw [List.length_map, l2]; rfl
  have S1 : Steps p.tables e below Ω (s₁.setTop (mkF m 1 #[.val (.ref a), .val (.ref b), .val (.ref b2)] [(.ref a)])) := by
    refine S0.trans ?_
    refine XS.aloadN X0.here hx rfl (hb hby d1_0) rfl rfl ?_
    exact Steps.refl _
  obtain ⟨T2, X2, e2, st2⟩ := initO X0 hx hZ hown (hw _ (List.mem_of_getElem? (i := 9) rfl)) (hw _ (List.mem_of_getElem? (i := 10) rfl)) (hw _ (List.mem_of_getElem? (i := 11) rfl)) e0 (g := (mkF m 1 #[.val (.ref a), .val (.ref b), .val (.ref b2)] [(.ref a)])) rfl (by rw [hml]; rfl) rfl (hb hby d1_1) (by decide) (W := 0) (by show 2 * 0 + _ ≤ _; exact Nat.le_of_eq rfl) (by decide)
  have S3 : Steps p.tables e below Ω (T2.setTop (mkF m 4 #[.val (.ref a), .val (.ref b), .val (.ref b2)] [])) := S1.trans (st2 _ (Steps.refl _))
  have S4 : Steps p.tables e below Ω (T2.setTop (mkF m 5 #[.val (.ref a), .val (.ref b), .val (.ref b2)] [(.ref b)])) := by
    refine S3.trans ?_
    refine XS.aloadN X2.here hx rfl (hb hby d1_4) rfl rfl ?_
    exact Steps.refl _
  have S5 : Steps p.tables e below Ω (T2.setTop (mkF m 6 #[.val (.ref a), .val (.ref b), .val (.ref b2)] [(.int (2 : Int32))])) := S4.trans (own_len X2 hx hZ e2 A1 (n := (2 : Int32)) hn1 (g := (mkF m 5 #[.val (.ref a), .val (.ref b), .val (.ref b2)] [(.ref b)])) rfl rfl (hb hby d1_5) _ (Steps.refl _))
  obtain ⟨_, _, ⟨T6, L6, k6, n6⟩, -, X6, ⟨Lc6, hQ6, l6, y6, z6⟩, st6⟩ := Jvm.LawKit.callS X2 hx (y := (⟨"com/example/ingest/ingest/common/Protocol", "checkQueueCount", "(I)I"⟩ : MethodName)) hown (mvT hZ (hw _ (List.mem_of_getElem? (i := 12) rfl))) (mvT hZ (hw _ (List.mem_of_getElem? (i := 13) rfl))) (mvT hZ (hw _ (List.mem_of_getElem? (i := 14) rfl))) (mvT hZ (hw _ (List.mem_of_getElem? (i := 15) rfl))) (by decide) (backOf (W := 0) (rm3 l Z a0 hw [] (2 : Int32)  h0 n0 Z0 (by decide) (by decide)) hZ (hw _ (List.mem_of_getElem? (i := 15) rfl)) (hw _ (List.mem_of_getElem? (i := 14) rfl)) (by decide) (by decide)) (g := (mkF m 6 #[.val (.ref a), .val (.ref b), .val (.ref b2)] [(.int (2 : Int32))])) rfl (by rw [hml]; rfl) (argsL := [(.int (2 : Int32))]) (rest := []) (lenOf pd_0 rfl) rfl (by show 2 * 0 + _ ≤ _; exact Nat.le_of_eq rfl) (hb hby d1_6) (fun _ _ => ⟨rfl, e2, (by decide : 0 + 0 ≤ _), (by decide : 0 + 0 ≤ _)⟩)
  dsimp only [Pt.U, Pt.locs, Pt.cells, Pt.slots] at X6 l6 y6 z6 st6 hQ6
  subst l6 y6 z6
  obtain ⟨rfl, N6q, e6⟩ := hQ6
  have N6 := Fr.app N0 N6q
  have S7 : Steps p.tables e below Ω (T6.setTop (mkF m 9 #[.val (.ref a), .val (.ref b), .val (.ref b2)] [(.int (2 : Int32))])) := S5.trans (st6 _ (Steps.refl _))
  have S8 : Steps p.tables e below Ω (T6.setTop (mkF m 11 #[.val (.ref a), .val (.ref b), .val (.ref b2)] [(.ref b2)])) := by
    refine S7.trans ?_
    refine XS.pop X6.here hx rfl (hb hby d1_9) rfl rfl ?_
    show Steps p.tables e below (T6.setTop (mkF m 10 #[.val (.ref a), .val (.ref b), .val (.ref b2)] [])) _
    refine XS.aloadN X6.here hx rfl (hb hby d1_10) rfl rfl ?_
    exact Steps.refl _
  have S9 : Steps p.tables e below Ω (T6.setTop (mkF m 12 #[.val (.ref a), .val (.ref b), .val (.ref b2)] [(.int (2 : Int32))])) := S8.trans (own_len X6 hx hZ e6 A2 (n := (2 : Int32)) hn2 (g := (mkF m 11 #[.val (.ref a), .val (.ref b), .val (.ref b2)] [(.ref b2)])) rfl rfl (hb hby d1_11) _ (Steps.refl _))
  have S10 : Steps p.tables e below Ω (T6.setTop (mkF m 13 #[.val (.ref a), .val (.ref b), .val (.ref b2)] [(.ref b), (.int (2 : Int32))])) := by
    refine S9.trans ?_
    refine XS.aloadN X6.here hx rfl (hb hby d1_12) rfl rfl ?_
    exact Steps.refl _
  have S11 : Steps p.tables e below Ω (T6.setTop (mkF m 14 #[.val (.ref a), .val (.ref b), .val (.ref b2)] [(.int (2 : Int32)), (.int (2 : Int32))])) := S10.trans (own_len X6 hx hZ e6 A1 (n := (2 : Int32)) hn1 (g := (mkF m 13 #[.val (.ref a), .val (.ref b), .val (.ref b2)] [(.ref b), (.int (2 : Int32))])) rfl rfl (hb hby d1_13) _ (Steps.refl _))
  have S12 : Steps p.tables e below Ω (T6.setTop (mkF m 34 #[.val (.ref a), .val (.ref b), .val (.ref b2)] [])) := by
    refine S11.trans ?_
    refine XS.icmpYes X6.here hx rfl (pc0 := 14) (pc' := 34) rfl (hb hby d1_14) rfl (XT.ii_eq_t (by decide)) (by decide) (by decide) ?_
    exact Steps.refl _
  obtain ⟨t1, T13, h13, kb13, X13, e13, E13, hS13, hk13, hZ, hown, st13⟩ := ldcS (s := s) (vm0 := s.vm) X6 hx hZ hown (hw _ (List.mem_of_getElem? (i := 16) rfl)) (own_wS hw) e6 hS0 (Nat.le_refl h0.size) (g := (mkF m 34 #[.val (.ref a), .val (.ref b), .val (.ref b2)] [])) rfl (hb hby d1_34) (n := 24) (by decide) (by decide) (by decide) (by decide)
  have S14 : Steps p.tables e below Ω (T13.setTop (mkF m 36 #[.val (.ref a), .val (.ref b), .val (.ref b2)] [(.ref t1)])) := S12.trans (st13 _ (Steps.refl _))
  have E_a_13 := (E0).ext E13
  have F_offsets_a_13 : Fld Z h13 a "com/example/ingest/ingest/common/GroupProgress" "offsets" "[J" .null := (F1).ext E13
  have F_retryOffsets_a_13 : Fld Z h13 a "com/example/ingest/ingest/common/GroupProgress" "retryOffsets" "[J" .null := (F2).ext E13
  have A1_1 := A1.ext E13
  have A2_1 := A2.ext E13
  have B1_1 := B1.ext E13
  have B2_1 := B2.ext E13
  have S15 : Steps p.tables e below Ω (T13.setTop (mkF m 37 #[.val (.ref a), .val (.ref b), .val (.ref b2)] [(.ref b), (.ref t1)])) := by
    refine S14.trans ?_
    refine XS.aloadN X13.here hx rfl (hb hby d1_36) rfl rfl ?_
    exact Steps.refl _
  obtain ⟨_, _, ⟨T16, L16, k16, n16⟩, -, X16, ⟨Lc16, hQ16, l16, y16, z16⟩, st16⟩ := Jvm.LawKit.callS X13 hx (y := (⟨"com/example/ingest/ingest/common/GroupProgress", "checkOffsets", "(Ljava/lang/String;[J)V"⟩ : MethodName)) hown (mvT hZ (hw _ (List.mem_of_getElem? (i := 24) rfl))) (mvT hZ (hw _ (List.mem_of_getElem? (i := 25) rfl))) (mvT hZ (hw _ (List.mem_of_getElem? (i := 5) rfl))) (mvT hZ (hw _ (List.mem_of_getElem? (i := 26) rfl))) (by decide) (backOf (W := 0) (rm4 l Z a0 hw [] t1 b xs h13 n0 (Nat.le_trans Z0 E13.1) A1_1 l1 v1) hZ (hw _ (List.mem_of_getElem? (i := 26) rfl)) (hw _ (List.mem_of_getElem? (i := 5) rfl)) (by decide) (by decide)) (g := (mkF m 37 #[.val (.ref a), .val (.ref b), .val (.ref b2)] [(.ref b), (.ref t1)])) rfl (by rw [hml]; rfl) (argsL := [(.ref t1), (.ref b)]) (rest := []) (lenOf pd_1 rfl) rfl (by show 2 * 0 + _ ≤ _; exact Nat.le_of_eq rfl) (hb hby d1_37) (fun _ _ => ⟨rfl, e13, (by decide : 2 + 0 ≤ _), (by decide : 28 + 0 ≤ _)⟩)
  dsimp only [Pt.U, Pt.locs, Pt.cells, Pt.slots] at X16 l16 y16 z16 st16 hQ16
  subst l16 y16 z16
  obtain ⟨rfl, N16q, e16⟩ := hQ16
  have N16 := Fr.app N6 N16q
  have S17 : Steps p.tables e below Ω (T16.setTop (mkF m 40 #[.val (.ref a), .val (.ref b), .val (.ref b2)] [])) := S15.trans (st16 _ (Steps.refl _))
  obtain ⟨t2, T18, h18, kb18, X18, e18, E18, hS18, hk18, hZ, hown, st18⟩ := ldcS (s := s) (vm0 := T13.vm) X16 hx hZ hown (hw _ (List.mem_of_getElem? (i := 28) rfl)) (own_wS hw) e16 hS13 hk13 (g := (mkF m 40 #[.val (.ref a), .val (.ref b), .val (.ref b2)] [])) rfl (hb hby d1_40) (n := 48) (by decide) (by decide) (by decide) (by decide)
  have S19 : Steps p.tables e below Ω (T18.setTop (mkF m 42 #[.val (.ref a), .val (.ref b), .val (.ref b2)] [(.ref t2)])) := S17.trans (st18 _ (Steps.refl _))
  have E_a_18 := (E_a_13).ext E18
  have F_offsets_a_18 : Fld Z h18 a "com/example/ingest/ingest/common/GroupProgress" "offsets" "[J" .null := (F_offsets_a_13).ext E18
  have F_retryOffsets_a_18 : Fld Z h18 a "com/example/ingest/ingest/common/GroupProgress" "retryOffsets" "[J" .null := (F_retryOffsets_a_13).ext E18
  have A1_2 := A1_1.ext E18
  have A2_2 := A2_1.ext E18
  have B1_2 := B1_1.ext E18
  have B2_2 := B2_1.ext E18
  have S20 : Steps p.tables e below Ω (T18.setTop (mkF m 43 #[.val (.ref a), .val (.ref b), .val (.ref b2)] [(.ref b2), (.ref t2)])) := by
    refine S19.trans ?_
    refine XS.aloadN X18.here hx rfl (hb hby d1_42) rfl rfl ?_
    exact Steps.refl _
  obtain ⟨_, _, ⟨T21, L21, k21, n21⟩, -, X21, ⟨Lc21, hQ21, l21, y21, z21⟩, st21⟩ := Jvm.LawKit.callS X18 hx (y := (⟨"com/example/ingest/ingest/common/GroupProgress", "checkOffsets", "(Ljava/lang/String;[J)V"⟩ : MethodName)) hown (mvT hZ (hw _ (List.mem_of_getElem? (i := 24) rfl))) (mvT hZ (hw _ (List.mem_of_getElem? (i := 25) rfl))) (mvT hZ (hw _ (List.mem_of_getElem? (i := 5) rfl))) (mvT hZ (hw _ (List.mem_of_getElem? (i := 26) rfl))) (by decide) (backOf (W := 0) (rm4 l Z a0 hw [] t2 b2 ys h18 n0 (Nat.le_trans (Nat.le_trans Z0 E13.1) E18.1) A2_2 l2 v2) hZ (hw _ (List.mem_of_getElem? (i := 26) rfl)) (hw _ (List.mem_of_getElem? (i := 5) rfl)) (by decide) (by decide)) (g := (mkF m 43 #[.val (.ref a), .val (.ref b), .val (.ref b2)] [(.ref b2), (.ref t2)])) rfl (by rw [hml]; rfl) (argsL := [(.ref t2), (.ref b2)]) (rest := []) (lenOf pd_1 rfl) rfl (by show 2 * 0 + _ ≤ _; exact Nat.le_of_eq rfl) (hb hby d1_43) (fun _ _ => ⟨rfl, e18, (by decide : 4 + 0 ≤ _), (by decide : 80 + 0 ≤ _)⟩)
  dsimp only [Pt.U, Pt.locs, Pt.cells, Pt.slots] at X21 l21 y21 z21 st21 hQ21
  subst l21 y21 z21
  obtain ⟨rfl, N21q, e21⟩ := hQ21
  have N21 := Fr.app N16 N21q
  have S22 : Steps p.tables e below Ω (T21.setTop (mkF m 46 #[.val (.ref a), .val (.ref b), .val (.ref b2)] [])) := S20.trans (st21 _ (Steps.refl _))
  have S23 : Steps p.tables e below Ω (T21.setTop (mkF m 48 #[.val (.ref a), .val (.ref b), .val (.ref b2)] [(.ref b), (.ref a)])) := by
    refine S22.trans ?_
    refine XS.aloadN X21.here hx rfl (hb hby d1_46) rfl rfl ?_
    show Steps p.tables e below (T21.setTop (mkF m 47 #[.val (.ref a), .val (.ref b), .val (.ref b2)] [(.ref a)])) _
    refine XS.aloadN X21.here hx rfl (hb hby d1_47) rfl rfl ?_
    exact Steps.refl _
  obtain ⟨T24, h24, X24, e24, E24, V24, B24, st24⟩ := own_clone X21 hx hZ hown (hw _ (List.mem_of_getElem? (i := 29) rfl)) (hw _ (List.mem_of_getElem? (i := 30) rfl)) (hw _ (List.mem_of_getElem? (i := 34) rfl)) (hw _ (List.mem_of_getElem? (i := 32) rfl)) (hw _ (List.mem_of_getElem? (i := 33) rfl)) (hw _ (List.mem_of_getElem? (i := 35) rfl)) e21 A1_2 B1_2 (own_fitsJ xs) (g := (mkF m 48 #[.val (.ref a), .val (.ref b), .val (.ref b2)] [(.ref b), (.ref a)])) rfl (by rw [hml]; rfl) rfl (hb hby d1_48) (by decide) (W := 1) (cap := 2) (by show 2 * 0 + _ ≤ _; exact Nat.le_of_eq rfl) (by decide) (by rw [List.length_map, l1]; exact Nat.le_refl _) (by decide) (by decide)
  obtain ⟨cA, s_cA⟩ : ∃ z, z = h18.size := ⟨_, rfl⟩
  rw [← s_cA] at V24 B24 st24
  have S25 : Steps p.tables e below Ω (T24.setTop (mkF m 51 #[.val (.ref a), .val (.ref b), .val (.ref b2)] [(.ref cA), (.ref a)])) := S23.trans (st24 _ (Steps.refl _))
  obtain ⟨T26, X26, e26, st26⟩ := castY X24 hx hZ hown (hw _ (List.mem_of_getElem? (i := 36) rfl)) e24 (Ins.self B24) (g := (mkF m 51 #[.val (.ref a), .val (.ref b), .val (.ref b2)] [(.ref cA), (.ref a)])) rfl rfl (hb hby d1_51)
  have S27 : Steps p.tables e below Ω (T26.setTop (mkF m 54 #[.val (.ref a), .val (.ref b), .val (.ref b2)] [(.ref cA), (.ref a)])) := S25.trans (st26 _ (Steps.refl _))
  have E_a_24 := (E_a_18).ext E24
  have F_offsets_a_24 : Fld Z h24 a "com/example/ingest/ingest/common/GroupProgress" "offsets" "[J" .null := (F_offsets_a_18).ext E24
  have F_retryOffsets_a_24 : Fld Z h24 a "com/example/ingest/ingest/common/GroupProgress" "retryOffsets" "[J" .null := (F_retryOffsets_a_18).ext E24
  have A2_3 := A2_2.ext E24
  have B2_3 := B2_2.ext E24
  have C1 := V24
  have hac : cA ≠ a := Nat.ne_of_gt (Nat.lt_of_lt_of_le (E_a_18).lt (Nat.le_of_eq s_cA.symm))
  have hb2a : b2 ≠ a := own_neA E0 (hw _ (List.mem_of_getElem? (i := 4) rfl)) A2
  obtain ⟨T28, h28, X28, e28, W28, st28⟩ := putF X26 hx hZ hown (host := "") (Or.inl (hw _ (List.mem_of_getElem? (i := 38) rfl))) Via.refl e26 F_offsets_a_24 E_a_24 (Or.inr ⟨(hw _ (List.mem_of_getElem? (i := 39) rfl)), rfl, hnm⟩) (hw _ (List.mem_of_getElem? (i := 4) rfl)) (ty := (.array .long)) (by decide) rfl rfl (g := (mkF m 54 #[.val (.ref a), .val (.ref b), .val (.ref b2)] [(.ref cA), (.ref a)])) rfl rfl (hb hby d1_54)
  have S29 : Steps p.tables e below Ω (T28.setTop (mkF m 57 #[.val (.ref a), .val (.ref b), .val (.ref b2)] [])) := S27.trans (st28 _ (Steps.refl _))
  have N28 := Fr.snoc X28 N21 g
  have E_a_28 := (E_a_24).wr W28
  have F_offsets_a_28 : Fld Z h28 a "com/example/ingest/ingest/common/GroupProgress" "offsets" "[J" (.ref cA) := (F_offsets_a_24).same W28
  have F_retryOffsets_a_28 : Fld Z h28 a "com/example/ingest/ingest/common/GroupProgress" "retryOffsets" "[J" .null := (F_retryOffsets_a_24).other W28 (Or.inr (slot_ne (Or.inr (hw _ (List.mem_of_getElem? (i := 41) rfl))) (Or.inr (hw _ (List.mem_of_getElem? (i := 39) rfl))) (by decide) (t := (.array .long)) (t' := (.array .long)) (by decide) (by decide)))
  have C2 := C1.other W28 hac
  have A2_4 := A2_3.other W28 hb2a
  have B2_4 := B2_3.wr W28
  have S30 : Steps p.tables e below Ω (T28.setTop (mkF m 59 #[.val (.ref a), .val (.ref b), .val (.ref b2)] [(.ref b2), (.ref a)])) := by
    refine S29.trans ?_
    refine XS.aloadN X28.here hx rfl (hb hby d1_57) rfl rfl ?_
    show Steps p.tables e below (T28.setTop (mkF m 58 #[.val (.ref a), .val (.ref b), .val (.ref b2)] [(.ref a)])) _
    refine XS.aloadN X28.here hx rfl (hb hby d1_58) rfl rfl ?_
    exact Steps.refl _
  obtain ⟨T31, h31, X31, e31, E31, V31, B31, st31⟩ := own_clone X28 hx hZ hown (hw _ (List.mem_of_getElem? (i := 29) rfl)) (hw _ (List.mem_of_getElem? (i := 30) rfl)) (hw _ (List.mem_of_getElem? (i := 34) rfl)) (hw _ (List.mem_of_getElem? (i := 32) rfl)) (hw _ (List.mem_of_getElem? (i := 33) rfl)) (hw _ (List.mem_of_getElem? (i := 35) rfl)) e28 A2_4 B2_4 (own_fitsJ ys) (g := (mkF m 59 #[.val (.ref a), .val (.ref b), .val (.ref b2)] [(.ref b2), (.ref a)])) rfl (by rw [hml]; rfl) rfl (hb hby d1_59) (by decide) (W := 1) (cap := 2) (by show 2 * 0 + _ ≤ _; exact Nat.le_of_eq rfl) (by decide) (by rw [List.length_map, l2]; exact Nat.le_refl _) (by decide) (by decide)
  obtain ⟨c2, s_c2⟩ : ∃ z, z = h28.size := ⟨_, rfl⟩
  rw [← s_c2] at V31 B31 st31
  have S32 : Steps p.tables e below Ω (T31.setTop (mkF m 62 #[.val (.ref a), .val (.ref b), .val (.ref b2)] [(.ref c2), (.ref a)])) := S30.trans (st31 _ (Steps.refl _))
  obtain ⟨T33, X33, e33, st33⟩ := castY X31 hx hZ hown (hw _ (List.mem_of_getElem? (i := 36) rfl)) e31 (Ins.self B31) (g := (mkF m 62 #[.val (.ref a), .val (.ref b), .val (.ref b2)] [(.ref c2), (.ref a)])) rfl rfl (hb hby d1_62)
  have S34 : Steps p.tables e below Ω (T33.setTop (mkF m 65 #[.val (.ref a), .val (.ref b), .val (.ref b2)] [(.ref c2), (.ref a)])) := S32.trans (st33 _ (Steps.refl _))
  have E_a_31 := (E_a_28).ext E31
  have F_offsets_a_31 : Fld Z h31 a "com/example/ingest/ingest/common/GroupProgress" "offsets" "[J" (.ref cA) := (F_offsets_a_28).ext E31
  have F_retryOffsets_a_31 : Fld Z h31 a "com/example/ingest/ingest/common/GroupProgress" "retryOffsets" "[J" .null := (F_retryOffsets_a_28).ext E31
  have C3 := C2.ext E31
  obtain ⟨T35, h35, X35, e35, W35, st35⟩ := putF X33 hx hZ hown (host := "") (Or.inl (hw _ (List.mem_of_getElem? (i := 40) rfl))) Via.refl e33 F_retryOffsets_a_31 E_a_31 (Or.inr ⟨(hw _ (List.mem_of_getElem? (i := 41) rfl)), rfl, hnm⟩) (hw _ (List.mem_of_getElem? (i := 4) rfl)) (ty := (.array .long)) (by decide) rfl rfl (g := (mkF m 65 #[.val (.ref a), .val (.ref b), .val (.ref b2)] [(.ref c2), (.ref a)])) rfl rfl (hb hby d1_65)
  have S36 : Steps p.tables e below Ω (T35.setTop (mkF m 68 #[.val (.ref a), .val (.ref b), .val (.ref b2)] [])) := S34.trans (st35 _ (Steps.refl _))
  have N35 := Fr.snoc X35 N28 g
  have E_a_35 := (E_a_31).wr W35
  have F_offsets_a_35 : Fld Z h35 a "com/example/ingest/ingest/common/GroupProgress" "offsets" "[J" (.ref cA) := (F_offsets_a_31).other W35 (Or.inr (slot_ne (Or.inr (hw _ (List.mem_of_getElem? (i := 39) rfl))) (Or.inr (hw _ (List.mem_of_getElem? (i := 41) rfl))) (by decide) (t := (.array .long)) (t' := (.array .long)) (by decide) (by decide)))
  have F_retryOffsets_a_35 : Fld Z h35 a "com/example/ingest/ingest/common/GroupProgress" "retryOffsets" "[J" (.ref c2) := (F_retryOffsets_a_31).same W35
  have C4 := C3.other W35 hac
  obtain ⟨fs, hr, hrun, hended, hend⟩ := Stand.leaveW (s := s) (vm₁ := T18.vm) X35 hS18 (by rw [e35]; exact (Nat.le_trans (Nat.le_trans (Nat.le_trans (Nat.le_trans hk18 E24.1) (Keep.of_wr W28).1) E31.1) (Keep.of_wr W35).1)) (v := none) (fun _ => rfl)
  have hfin : Steps p.tables e below Ω (T35.setFrames fs) := by
    refine S36.trans ?_
    exact X35.returnOut hx Bd.returns (hb hby d1_68) hr
  rw [hΩ] at hfin
  refine ⟨_, _, hfin, hrun, hended, _, _, rfl, ?_, hend.1, hend.2.1, hend.2.2.1, hend.2.2.2.mono (by decide) (by decide)⟩
  show Q1 Z a b b2 xs ys h0 n0 _ T35.heap _
  rw [e35]
  exact ⟨cA, rfl, N35, (((((((((((((Keep.refl h0 [a])).ext E13)).ext E18)).ext E24)).wr W28 (Or.inl (List.mem_of_getElem? (i := 0) rfl)))).ext E31)).wr W35 (Or.inl (List.mem_of_getElem? (i := 0) rfl))), E_a_35, F_offsets_a_35, C4⟩
theorem d5_0 : decode prog_27_method_7_code 0 = .ok (.aload_n 0, 1) := by decide +kernel
theorem d5_1 : decode prog_27_method_7_code 1 = .ok (.getfield 45, 3) := by decide +kernel
theorem d5_4 : decode prog_27_method_7_code 4 = .ok (.iload_n 1, 1) := by decide +kernel
theorem d5_5 : decode prog_27_method_7_code 5 = .ok (.laload, 1) := by decide +kernel
theorem d5_6 : decode prog_27_method_7_code 6 = .ok (.lstore 4, 2) := by decide +kernel
theorem d5_8 : decode prog_27_method_7_code 8 = .ok (.lload 4, 2) := by decide +kernel
theorem d5_10 : decode prog_27_method_7_code 10 = .ok (.ldc2_w 54, 3) := by decide +kernel
theorem d5_13 : decode prog_27_method_7_code 13 = .ok (.lcmp, 1) := by decide +kernel
theorem d5_14 : decode prog_27_method_7_code 14 = .ok (.ifCond .ne 9, 3) := by decide +kernel
theorem d5_17 : decode prog_27_method_7_code 17 = .ok (.ldc2_w 54, 3) := by decide +kernel
theorem d5_20 : decode prog_27_method_7_code 20 = .ok (.goto 7, 3) := by decide +kernel
theorem d5_27 : decode prog_27_method_7_code 27 = .ok (.lreturn, 1) := by decide +kernel
theorem d5_23 : decode prog_27_method_7_code 23 = .ok (.lload_n 2, 1) := by decide +kernel
theorem d5_24 : decode prog_27_method_7_code 24 = .ok (.lload 4, 2) := by decide +kernel
theorem d5_26 : decode prog_27_method_7_code 26 = .ok (.lsub, 1) := by decide +kernel
theorem ef_rm5 (m : MethodId) (x0 : Addr) (x1 : Int32) (x2 : Int64) : entryFrame m #[(.ref x0), (.int x1), (.long x2)] 6 = mkF m 0 #[.val (.ref x0), .val (.int x1), .val (.long x2), .second, .unset, .unset] [] := by first | (simp [entryFrame, mkF, argsToLocals, Value.category]; done) | rfl
def Q5 (Z : State) (a : Addr) (p1 : Int32) (q1 : Int64) (cA : Addr) (xs : List Int64) (x : Int64) (h0 : Heap) (n0 : Nat) (v : Option Value) (h : Heap) (L : List Loc) : Prop := v = some (.long (own_lag x q1)) ∧ Fr n0 L ∧ h = h0
set_option maxRecDepth 65536 in
set_option maxHeartbeats 40000000 in
theorem rm5 (l : Launch) (Z : State) (a0 : Array Value) (hw : ∀ d ∈ tables_1, d.before a0 Z = true) (ws : List Jvm.Cond) (a : Addr) (p1 : Int32) (q1 : Int64) (cA : Addr) (xs : List Int64) (x : Int64) (h0 : Heap) (n0 : Nat) (Z0 : n0 ≤ h0.size) (F1 : Fld Z h0 a "com/example/ingest/ingest/common/GroupProgress" "offsets" "[J" (.ref cA)) (A1 : LA Z h0 cA .long (xs.map Value.long)) (b1 : ¬ p1 < 0) (b2 : (xs.map Value.long)[p1.toNatClampNeg]? = some (.long x)) :
    MetFree l (⟨"com/example/ingest/ingest/common/GroupProgress", "lag", "(IJ)J"⟩ : MethodName) (head1 (Jvm.Cond.code (⟨"com/example/ingest/ingest/common/GroupProgress", "lag", "(IJ)J"⟩ : MethodName) prog_27_method_7_code 6 (some .long) :: ws) ({ frames := 0, cells := 0, slots := 0, locals := 0 } : Room)) (fun aa U => aa = #[(.ref a), (.int p1), (.long q1)] ∧ Z.Warmed39 U.vm ∧ U.heap = h0) (fun _ _ _ _ _ => True) (fun _ U o U' => ∃ v L, o = .returned v ∧ Q5 Z a p1 q1 cA xs x h0 n0 v U'.heap L ∧ FrameEnd U o U' L ({ frames := 0, cells := 0, slots := 0, locals := 0 } : Room).cells ({ frames := 0, cells := 0, slots := 0, locals := 0 } : Room).slots) := by
  refine MetFree.of_bodySF (plainFor_of_name pn_1) hisR ?_
  intro p e s m args below meth c s₁ Bd hml0 hP hK
  obtain ⟨rfl, hZ, hh⟩ := hP
  have hx := Bd.exec
  have hby := Bd.bytes
  have hml : c.maxLocals = 6 := hml0
  have hown : s.vm.findClass "com/example/ingest/ingest/common/GroupProgress" = some m.cls := findClass_of_methodNamed Bd.named
  have hnm := (name_of_methodNamed Bd.named Bd.method).1
  have X0 : Stand p l e ({ frames := 0, cells := 0, slots := 0, locals := 0 } : Room) s m #[(.ref a), (.int p1), (.long q1)] below meth c s₁ [] 0 0 := Stand.of_body Bd
  have e0 : s₁.heap = h0 := by rw [← hh, Bd.state]; rfl
  have N0 := Fr.nil n0
  obtain ⟨Ω, hΩ⟩ : ∃ z, z = s₁.setTop (entryFrame m #[(.ref a), (.int p1), (.long q1)] 6) := ⟨_, rfl⟩
  have S0 : Steps p.tables e below Ω (s₁.setTop (mkF m 0 #[.val (.ref a), .val (.int p1), .val (.long q1), .second, .unset, .unset] [])) := by rw [hΩ]; exact castTop (ef_rm5 m a p1 q1) (Steps.refl _)
  have S1 : Steps p.tables e below Ω (s₁.setTop (mkF m 1 #[.val (.ref a), .val (.int p1), .val (.long q1), .second, .unset, .unset] [(.ref a)])) := by
    refine S0.trans ?_
    refine XS.aloadN X0.here hx rfl (hb hby d5_0) rfl rfl ?_
    exact Steps.refl _
  obtain ⟨T2, X2, e2, st2⟩ := getF X0 hx hZ hown (host := "") (Or.inl (hw _ (List.mem_of_getElem? (i := 38) rfl))) Via.refl e0 F1 (g := (mkF m 1 #[.val (.ref a), .val (.int p1), .val (.long q1), .second, .unset, .unset] [(.ref a)])) rfl rfl (hb hby d5_1)
  have S3 : Steps p.tables e below Ω (T2.setTop (mkF m 4 #[.val (.ref a), .val (.int p1), .val (.long q1), .second, .unset, .unset] [(.ref cA)])) := S1.trans (st2 _ (Steps.refl _))
  have S4 : Steps p.tables e below Ω (T2.setTop (mkF m 5 #[.val (.ref a), .val (.int p1), .val (.long q1), .second, .unset, .unset] [(.int p1), (.ref cA)])) := by
    refine S3.trans ?_
    refine XS.iloadN X2.here hx rfl (hb hby d5_4) rfl ?_
    exact Steps.refl _
  have S5 : Steps p.tables e below Ω (T2.setTop (mkF m 6 #[.val (.ref a), .val (.int p1), .val (.long q1), .second, .unset, .unset] [(.long x)])) := S4.trans (own_ldJ X2 hx hZ e2 A1 (j := p1) (x := x) b1 b2 (g := (mkF m 5 #[.val (.ref a), .val (.int p1), .val (.long q1), .second, .unset, .unset] [(.int p1), (.ref cA)])) rfl rfl (hb hby d5_5) _ (Steps.refl _))
  have S6 : Steps p.tables e below Ω (T2.setTop (mkF m 14 #[.val (.ref a), .val (.int p1), .val (.long q1), .second, .val (.long x), .second] [(.int (lcmpW x (-1 : Int64)))])) := by
    refine S5.trans ?_
    refine XS.lstore X2.here hx rfl (hb hby d5_6) rfl (l' := #[.val (.ref a), .val (.int p1), .val (.long q1), .second, .val (.long x), .second]) rfl ?_
    show Steps p.tables e below (T2.setTop (mkF m 8 #[.val (.ref a), .val (.int p1), .val (.long q1), .second, .val (.long x), .second] [])) _
    refine XS.lload X2.here hx rfl (hb hby d5_8) rfl ?_
    show Steps p.tables e below (T2.setTop (mkF m 10 #[.val (.ref a), .val (.int p1), .val (.long q1), .second, .val (.long x), .second] [(.long x)])) _
    refine X2.ldc2Long hx hown (mvT hZ (hw _ (List.mem_of_getElem? (i := 27) rfl))) (g := (mkF m 10 #[.val (.ref a), .val (.int p1), .val (.long q1), .second, .val (.long x), .second] [(.long x)])) rfl (hb hby d5_10) _ ?_
    show Steps p.tables e below (T2.setTop (mkF m 13 #[.val (.ref a), .val (.int p1), .val (.long q1), .second, .val (.long x), .second] [(.long (-1 : Int64)), (.long x)])) _
    refine XS.lcmp X2.here hx rfl (hb hby d5_13) rfl ?_
    exact Steps.refl _
  by_cases hc : x = (-1 : Int64)
  · have qhc : x.toInt = (-1) := congrArg Int64.toInt hc
    have S7 : Steps p.tables e below Ω (T2.setTop (mkF m 27 #[.val (.ref a), .val (.int p1), .val (.long q1), .second, .val (.long x), .second] [(.long (-1 : Int64))])) := by
      refine S6.trans ?_
      refine XS.ifNo X2.here hx rfl (hb hby d5_14) rfl (XT.ll_ne_f hc) ?_
      show Steps p.tables e below (T2.setTop (mkF m 17 #[.val (.ref a), .val (.int p1), .val (.long q1), .second, .val (.long x), .second] [])) _
      refine X2.ldc2Long hx hown (mvT hZ (hw _ (List.mem_of_getElem? (i := 27) rfl))) (g := (mkF m 17 #[.val (.ref a), .val (.int p1), .val (.long q1), .second, .val (.long x), .second] [])) rfl (hb hby d5_17) _ ?_
      show Steps p.tables e below (T2.setTop (mkF m 20 #[.val (.ref a), .val (.int p1), .val (.long q1), .second, .val (.long x), .second] [(.long (-1 : Int64))])) _
      refine XS.goto X2.here hx rfl (pc0 := 20) (pc' := 27) rfl (hb hby d5_20) (by decide) (by decide) ?_
      exact Steps.refl _
    obtain ⟨fs, hr, hrun, hended, hW, hsame⟩ := X2.leave (v := some (.long (-1 : Int64))) (fun h => by rw [Bd.returns] at h; cases h)
    have hfin : Steps p.tables e below Ω (T2.setFrames fs) := by
      refine S7.trans ?_
      exact X2.lreturnOut hx Bd.returns (hb hby d5_27) hr
    rw [hΩ] at hfin
    refine ⟨_, _, hfin, hrun, hended, _, _, rfl, ?_, ⟨_, rfl⟩, hW, hsame.mono (by decide) (by decide)⟩
    show Q5 Z a p1 q1 cA xs x h0 n0 _ T2.heap _
    rw [e2]
    exact ⟨by rw [own_lag, if_pos hc], N0, rfl⟩
  · have qhc : ¬ x.toInt = (-1) := fun q => hc (Int64.toInt_inj.mp q)
    have S8 : Steps p.tables e below Ω (T2.setTop (mkF m 27 #[.val (.ref a), .val (.int p1), .val (.long q1), .second, .val (.long x), .second] [(.long (q1 - x))])) := by
      refine S6.trans ?_
      refine XS.ifYes X2.here hx rfl (pc0 := 14) (pc' := 23) rfl (hb hby d5_14) rfl (XT.ll_ne_t hc) (by decide) (by decide) ?_
      show Steps p.tables e below (T2.setTop (mkF m 23 #[.val (.ref a), .val (.int p1), .val (.long q1), .second, .val (.long x), .second] [])) _
      refine XS.lloadN X2.here hx rfl (hb hby d5_23) rfl ?_
      show Steps p.tables e below (T2.setTop (mkF m 24 #[.val (.ref a), .val (.int p1), .val (.long q1), .second, .val (.long x), .second] [(.long q1)])) _
      refine XS.lload X2.here hx rfl (hb hby d5_24) rfl ?_
      show Steps p.tables e below (T2.setTop (mkF m 26 #[.val (.ref a), .val (.int p1), .val (.long q1), .second, .val (.long x), .second] [(.long x), (.long q1)])) _
      refine XS.lsub X2.here hx rfl (hb hby d5_26) rfl ?_
      exact Steps.refl _
    obtain ⟨fs, hr, hrun, hended, hW, hsame⟩ := X2.leave (v := some (.long (q1 - x))) (fun h => by rw [Bd.returns] at h; cases h)
    have hfin : Steps p.tables e below Ω (T2.setFrames fs) := by
      refine S8.trans ?_
      exact X2.lreturnOut hx Bd.returns (hb hby d5_27) hr
    rw [hΩ] at hfin
    refine ⟨_, _, hfin, hrun, hended, _, _, rfl, ?_, ⟨_, rfl⟩, hW, hsame.mono (by decide) (by decide)⟩
    show Q5 Z a p1 q1 cA xs x h0 n0 _ T2.heap _
    rw [e2]
    exact ⟨by rw [own_lag, if_neg hc], N0, rfl⟩
theorem pd_2 : parseMethodDescriptor "([J[J)V" = some ⟨[(.array .long), (.array .long)], none⟩ := by decide +kernel
theorem pd_3 : parseMethodDescriptor "(IJ)J" = some ⟨[.int, .long], some .long⟩ := by decide +kernel
theorem pn_2 : plainName "com/example/ingest/ingest/common/GroupProgressLagPinLaw" = true := by first | (simp [plainName, overriddenIn]; done) | decide +kernel
theorem ef_rm0 (m : MethodId) (x0 : Int64) (x1 : Int64) (x2 : Int64) (x3 : Int64) (x4 : Int32) : entryFrame m #[(.long x0), (.long x1), (.long x2), (.long x3), (.int x4)] maxLocals = mkF m 0 #[.val (.long x0), .second, .val (.long x1), .second, .val (.long x2), .second, .val (.long x3), .second, .val (.int x4), .unset, .unset, .unset, .unset, .unset, .unset, .unset, .unset, .unset, .unset, .unset, .unset, .unset, .unset, .unset, .unset] [] := by first | (simp [entryFrame, mkF, argsToLocals, Value.category, maxLocals]; done) | rfl
def Q0 (Z : State) (o0 : Int64) (o1 : Int64) (r : Int64) (en : Int64) (se : Int32) (h0 : Heap) (n0 : Nat) (v : Option Value) (h : Heap) (L : List Loc) : Prop := v = some (.int 1) ∧ Fr n0 L
set_option maxRecDepth 65536 in
set_option maxHeartbeats 40000000 in
theorem rm0 (l : Launch) (Z : State) (a0 : Array Value) (hw : ∀ d ∈ tables_1, d.before a0 Z = true) (ws : List Jvm.Cond) (o0 : Int64) (o1 : Int64) (r : Int64) (en : Int64) (se : Int32) (h0 : Heap) (n0 : Nat) (Z0 : n0 ≤ h0.size) :
    MetFree l x (head1 (Jvm.Cond.code x code maxLocals ret :: ws) room_1) (fun aa U => aa = #[(.long o0), (.long o1), (.long r), (.long en), (.int se)] ∧ Z.Warmed39 U.vm ∧ U.heap = h0) (fun _ _ _ _ _ => True) (fun _ U o U' => ∃ v L, o = .returned v ∧ Q0 Z o0 o1 r en se h0 n0 v U'.heap L ∧ ReturnedEndW U o U' L room_1.cells room_1.slots) := by
  refine MetFree.of_bodySF (plainFor_of_name pn_2) hisR ?_
  intro p e s m args below meth c s₁ Bd hml0 hP hK
  obtain ⟨rfl, hZ, hh⟩ := hP
  have hx := Bd.exec
  have hby := Bd.bytes
  have hml : c.maxLocals = 25 := hml0
  have hown : s.vm.findClass "com/example/ingest/ingest/common/GroupProgressLagPinLaw" = some m.cls := findClass_of_methodNamed Bd.named
  have hnm := (name_of_methodNamed Bd.named Bd.method).1
  have X0 : Stand p l e room_1 s m #[(.long o0), (.long o1), (.long r), (.long en), (.int se)] below meth c s₁ [] 0 0 := Stand.of_body Bd
  have e0 : s₁.heap = h0 := by rw [← hh, Bd.state]; rfl
  have N0 := Fr.nil n0
  obtain ⟨Ω, hΩ⟩ : ∃ z, z = s₁.setTop (entryFrame m #[(.long o0), (.long o1), (.long r), (.long en), (.int se)] maxLocals) := ⟨_, rfl⟩
  have S0 : Steps p.tables e below Ω (s₁.setTop (mkF m 0 #[.val (.long o0), .second, .val (.long o1), .second, .val (.long r), .second, .val (.long en), .second, .val (.int se), .unset, .unset, .unset, .unset, .unset, .unset, .unset, .unset, .unset, .unset, .unset, .unset, .unset, .unset, .unset, .unset] [])) := by rw [hΩ]; exact castTop (ef_rm0 m o0 o1 r en se) (Steps.refl _)
  have hS0 : s.Since s.vm h0.size := (State.WarmedH.refl s).since _
  have S1 : Steps p.tables e below Ω (s₁.setTop (mkF m 4 #[.val (.long o0), .second, .val (.long o1), .second, .val (.long r), .second, .val (.long en), .second, .val (.int se), .unset, .unset, .unset, .unset, .unset, .unset, .unset, .unset, .unset, .unset, .unset, .unset, .unset, .unset, .unset, .unset] [(.int (se &&& (1 : Int32)))])) := by
    refine S0.trans ?_
    refine XS.iload X0.here hx rfl (hb hby at_0) rfl ?_
    show Steps p.tables e below (s₁.setTop (mkF m 2 #[.val (.long o0), .second, .val (.long o1), .second, .val (.long r), .second, .val (.long en), .second, .val (.int se), .unset, .unset, .unset, .unset, .unset, .unset, .unset, .unset, .unset, .unset, .unset, .unset, .unset, .unset, .unset, .unset] [(.int se)])) _
    refine XS.iconst X0.here hx rfl (hb hby at_2) ?_
    show Steps p.tables e below (s₁.setTop (mkF m 3 #[.val (.long o0), .second, .val (.long o1), .second, .val (.long r), .second, .val (.long en), .second, .val (.int se), .unset, .unset, .unset, .unset, .unset, .unset, .unset, .unset, .unset, .unset, .unset, .unset, .unset, .unset, .unset, .unset] [(.int (1 : Int32)), (.int se)])) _
    refine XS.iand X0.here hx rfl (hb hby at_3) rfl ?_
    exact Steps.refl _
  obtain ⟨f0, h_f0, S3⟩ : ∃ (f0 : Int64), f0 = (if (se &&& (1 : Int32)) = (0 : Int32) then (o0 &&& (9223372036854775807 : Int64)) else (-1 : Int64)) ∧ Steps p.tables e below Ω (s₁.setTop (mkF m 18 #[.val (.long o0), .second, .val (.long o1), .second, .val (.long r), .second, .val (.long en), .second, .val (.int se), .unset, .unset, .unset, .unset, .unset, .unset, .unset, .unset, .unset, .unset, .unset, .unset, .unset, .unset, .unset, .unset] [(.long f0)])) := by
    by_cases c2 : (se &&& (1 : Int32)) = (0 : Int32)
    · refine ⟨(o0 &&& (9223372036854775807 : Int64)), (by rw [if_pos c2]), S1.trans ?_⟩
      refine XS.ifYes X0.here hx rfl (pc0 := 4) (pc' := 13) rfl (hb hby at_4) rfl (XT.i0_eq_t c2) (by decide) (by decide) ?_
      show Steps p.tables e below (s₁.setTop (mkF m 13 #[.val (.long o0), .second, .val (.long o1), .second, .val (.long r), .second, .val (.long en), .second, .val (.int se), .unset, .unset, .unset, .unset, .unset, .unset, .unset, .unset, .unset, .unset, .unset, .unset, .unset, .unset, .unset, .unset] [])) _
      refine XS.lloadN X0.here hx rfl (hb hby at_13) rfl ?_
      show Steps p.tables e below (s₁.setTop (mkF m 14 #[.val (.long o0), .second, .val (.long o1), .second, .val (.long r), .second, .val (.long en), .second, .val (.int se), .unset, .unset, .unset, .unset, .unset, .unset, .unset, .unset, .unset, .unset, .unset, .unset, .unset, .unset, .unset, .unset] [(.long o0)])) _
      refine X0.ldc2Long hx hown (mvT hZ (hw _ (List.mem_of_getElem? (i := 1) rfl))) (g := (mkF m 14 #[.val (.long o0), .second, .val (.long o1), .second, .val (.long r), .second, .val (.long en), .second, .val (.int se), .unset, .unset, .unset, .unset, .unset, .unset, .unset, .unset, .unset, .unset, .unset, .unset, .unset, .unset, .unset, .unset] [(.long o0)])) rfl (hb hby at_14) _ ?_
      show Steps p.tables e below (s₁.setTop (mkF m 17 #[.val (.long o0), .second, .val (.long o1), .second, .val (.long r), .second, .val (.long en), .second, .val (.int se), .unset, .unset, .unset, .unset, .unset, .unset, .unset, .unset, .unset, .unset, .unset, .unset, .unset, .unset, .unset, .unset] [(.long (9223372036854775807 : Int64)), (.long o0)])) _
      refine XS.land X0.here hx rfl (hb hby at_17) rfl ?_
      exact Steps.refl _
    · refine ⟨(-1 : Int64), (by rw [if_neg c2]), S1.trans ?_⟩
      refine XS.ifNo X0.here hx rfl (hb hby at_4) rfl (XT.i0_eq_f c2) ?_
      show Steps p.tables e below (s₁.setTop (mkF m 7 #[.val (.long o0), .second, .val (.long o1), .second, .val (.long r), .second, .val (.long en), .second, .val (.int se), .unset, .unset, .unset, .unset, .unset, .unset, .unset, .unset, .unset, .unset, .unset, .unset, .unset, .unset, .unset, .unset] [])) _
      refine X0.ldc2Long hx hown (mvT hZ (hw _ (List.mem_of_getElem? (i := 0) rfl))) (g := (mkF m 7 #[.val (.long o0), .second, .val (.long o1), .second, .val (.long r), .second, .val (.long en), .second, .val (.int se), .unset, .unset, .unset, .unset, .unset, .unset, .unset, .unset, .unset, .unset, .unset, .unset, .unset, .unset, .unset, .unset] [])) rfl (hb hby at_7) _ ?_
      show Steps p.tables e below (s₁.setTop (mkF m 10 #[.val (.long o0), .second, .val (.long o1), .second, .val (.long r), .second, .val (.long en), .second, .val (.int se), .unset, .unset, .unset, .unset, .unset, .unset, .unset, .unset, .unset, .unset, .unset, .unset, .unset, .unset, .unset, .unset] [(.long (-1 : Int64))])) _
      refine XS.goto X0.here hx rfl (pc0 := 10) (pc' := 18) rfl (hb hby at_10) (by decide) (by decide) ?_
      exact Steps.refl _
  have hf0 := own_of h_f0
  have S4 : Steps p.tables e below Ω (s₁.setTop (mkF m 24 #[.val (.long o0), .second, .val (.long o1), .second, .val (.long r), .second, .val (.long en), .second, .val (.int se), .val (.long f0), .second, .unset, .unset, .unset, .unset, .unset, .unset, .unset, .unset, .unset, .unset, .unset, .unset, .unset, .unset] [(.int (se &&& (2 : Int32)))])) := by
    refine S3.trans ?_
    refine XS.lstore X0.here hx rfl (hb hby at_18) rfl (l' := #[.val (.long o0), .second, .val (.long o1), .second, .val (.long r), .second, .val (.long en), .second, .val (.int se), .val (.long f0), .second, .unset, .unset, .unset, .unset, .unset, .unset, .unset, .unset, .unset, .unset, .unset, .unset, .unset, .unset]) rfl ?_
    show Steps p.tables e below (s₁.setTop (mkF m 20 #[.val (.long o0), .second, .val (.long o1), .second, .val (.long r), .second, .val (.long en), .second, .val (.int se), .val (.long f0), .second, .unset, .unset, .unset, .unset, .unset, .unset, .unset, .unset, .unset, .unset, .unset, .unset, .unset, .unset] [])) _
    refine XS.iload X0.here hx rfl (hb hby at_20) rfl ?_
    show Steps p.tables e below (s₁.setTop (mkF m 22 #[.val (.long o0), .second, .val (.long o1), .second, .val (.long r), .second, .val (.long en), .second, .val (.int se), .val (.long f0), .second, .unset, .unset, .unset, .unset, .unset, .unset, .unset, .unset, .unset, .unset, .unset, .unset, .unset, .unset] [(.int se)])) _
    refine XS.iconst X0.here hx rfl (hb hby at_22) ?_
    show Steps p.tables e below (s₁.setTop (mkF m 23 #[.val (.long o0), .second, .val (.long o1), .second, .val (.long r), .second, .val (.long en), .second, .val (.int se), .val (.long f0), .second, .unset, .unset, .unset, .unset, .unset, .unset, .unset, .unset, .unset, .unset, .unset, .unset, .unset, .unset] [(.int (2 : Int32)), (.int se)])) _
    refine XS.iand X0.here hx rfl (hb hby at_23) rfl ?_
    exact Steps.refl _
  obtain ⟨f1, h_f1, S6⟩ : ∃ (f1 : Int64), f1 = (if (se &&& (2 : Int32)) = (0 : Int32) then (o1 &&& (9223372036854775807 : Int64)) else (-1 : Int64)) ∧ Steps p.tables e below Ω (s₁.setTop (mkF m 38 #[.val (.long o0), .second, .val (.long o1), .second, .val (.long r), .second, .val (.long en), .second, .val (.int se), .val (.long f0), .second, .unset, .unset, .unset, .unset, .unset, .unset, .unset, .unset, .unset, .unset, .unset, .unset, .unset, .unset] [(.long f1)])) := by
    by_cases c5 : (se &&& (2 : Int32)) = (0 : Int32)
    · refine ⟨(o1 &&& (9223372036854775807 : Int64)), (by rw [if_pos c5]), S4.trans ?_⟩
      refine XS.ifYes X0.here hx rfl (pc0 := 24) (pc' := 33) rfl (hb hby at_24) rfl (XT.i0_eq_t c5) (by decide) (by decide) ?_
      show Steps p.tables e below (s₁.setTop (mkF m 33 #[.val (.long o0), .second, .val (.long o1), .second, .val (.long r), .second, .val (.long en), .second, .val (.int se), .val (.long f0), .second, .unset, .unset, .unset, .unset, .unset, .unset, .unset, .unset, .unset, .unset, .unset, .unset, .unset, .unset] [])) _
      refine XS.lloadN X0.here hx rfl (hb hby at_33) rfl ?_
      show Steps p.tables e below (s₁.setTop (mkF m 34 #[.val (.long o0), .second, .val (.long o1), .second, .val (.long r), .second, .val (.long en), .second, .val (.int se), .val (.long f0), .second, .unset, .unset, .unset, .unset, .unset, .unset, .unset, .unset, .unset, .unset, .unset, .unset, .unset, .unset] [(.long o1)])) _
      refine X0.ldc2Long hx hown (mvT hZ (hw _ (List.mem_of_getElem? (i := 1) rfl))) (g := (mkF m 34 #[.val (.long o0), .second, .val (.long o1), .second, .val (.long r), .second, .val (.long en), .second, .val (.int se), .val (.long f0), .second, .unset, .unset, .unset, .unset, .unset, .unset, .unset, .unset, .unset, .unset, .unset, .unset, .unset, .unset] [(.long o1)])) rfl (hb hby at_34) _ ?_
      show Steps p.tables e below (s₁.setTop (mkF m 37 #[.val (.long o0), .second, .val (.long o1), .second, .val (.long r), .second, .val (.long en), .second, .val (.int se), .val (.long f0), .second, .unset, .unset, .unset, .unset, .unset, .unset, .unset, .unset, .unset, .unset, .unset, .unset, .unset, .unset] [(.long (9223372036854775807 : Int64)), (.long o1)])) _
      refine XS.land X0.here hx rfl (hb hby at_37) rfl ?_
      exact Steps.refl _
    · refine ⟨(-1 : Int64), (by rw [if_neg c5]), S4.trans ?_⟩
      refine XS.ifNo X0.here hx rfl (hb hby at_24) rfl (XT.i0_eq_f c5) ?_
      show Steps p.tables e below (s₁.setTop (mkF m 27 #[.val (.long o0), .second, .val (.long o1), .second, .val (.long r), .second, .val (.long en), .second, .val (.int se), .val (.long f0), .second, .unset, .unset, .unset, .unset, .unset, .unset, .unset, .unset, .unset, .unset, .unset, .unset, .unset, .unset] [])) _
      refine X0.ldc2Long hx hown (mvT hZ (hw _ (List.mem_of_getElem? (i := 0) rfl))) (g := (mkF m 27 #[.val (.long o0), .second, .val (.long o1), .second, .val (.long r), .second, .val (.long en), .second, .val (.int se), .val (.long f0), .second, .unset, .unset, .unset, .unset, .unset, .unset, .unset, .unset, .unset, .unset, .unset, .unset, .unset, .unset] [])) rfl (hb hby at_27) _ ?_
      show Steps p.tables e below (s₁.setTop (mkF m 30 #[.val (.long o0), .second, .val (.long o1), .second, .val (.long r), .second, .val (.long en), .second, .val (.int se), .val (.long f0), .second, .unset, .unset, .unset, .unset, .unset, .unset, .unset, .unset, .unset, .unset, .unset, .unset, .unset, .unset] [(.long (-1 : Int64))])) _
      refine XS.goto X0.here hx rfl (pc0 := 30) (pc' := 38) rfl (hb hby at_30) (by decide) (by decide) ?_
      exact Steps.refl _
  have hf1 := own_of h_f1
  have S7 : Steps p.tables e below Ω (s₁.setTop (mkF m 48 #[.val (.long o0), .second, .val (.long o1), .second, .val (.long r), .second, .val (.long en), .second, .val (.int se), .val (.long f0), .second, .val (.long f1), .second, .val (.int (((se.toUInt32 >>> ((2 : Int32) &&& 31).toUInt32).toInt32) &&& (1 : Int32))), .unset, .unset, .unset, .unset, .unset, .unset, .unset, .unset, .unset, .unset, .unset] [])) := by
    refine S6.trans ?_
    refine XS.lstore X0.here hx rfl (hb hby at_38) rfl (l' := #[.val (.long o0), .second, .val (.long o1), .second, .val (.long r), .second, .val (.long en), .second, .val (.int se), .val (.long f0), .second, .val (.long f1), .second, .unset, .unset, .unset, .unset, .unset, .unset, .unset, .unset, .unset, .unset, .unset, .unset]) rfl ?_
    show Steps p.tables e below (s₁.setTop (mkF m 40 #[.val (.long o0), .second, .val (.long o1), .second, .val (.long r), .second, .val (.long en), .second, .val (.int se), .val (.long f0), .second, .val (.long f1), .second, .unset, .unset, .unset, .unset, .unset, .unset, .unset, .unset, .unset, .unset, .unset, .unset] [])) _
    refine XS.iload X0.here hx rfl (hb hby at_40) rfl ?_
    show Steps p.tables e below (s₁.setTop (mkF m 42 #[.val (.long o0), .second, .val (.long o1), .second, .val (.long r), .second, .val (.long en), .second, .val (.int se), .val (.long f0), .second, .val (.long f1), .second, .unset, .unset, .unset, .unset, .unset, .unset, .unset, .unset, .unset, .unset, .unset, .unset] [(.int se)])) _
    refine XS.iconst X0.here hx rfl (hb hby at_42) ?_
    show Steps p.tables e below (s₁.setTop (mkF m 43 #[.val (.long o0), .second, .val (.long o1), .second, .val (.long r), .second, .val (.long en), .second, .val (.int se), .val (.long f0), .second, .val (.long f1), .second, .unset, .unset, .unset, .unset, .unset, .unset, .unset, .unset, .unset, .unset, .unset, .unset] [(.int (2 : Int32)), (.int se)])) _
    refine XS.iushr X0.here hx rfl (hb hby at_43) rfl ?_
    show Steps p.tables e below (s₁.setTop (mkF m 44 #[.val (.long o0), .second, .val (.long o1), .second, .val (.long r), .second, .val (.long en), .second, .val (.int se), .val (.long f0), .second, .val (.long f1), .second, .unset, .unset, .unset, .unset, .unset, .unset, .unset, .unset, .unset, .unset, .unset, .unset] [(.int ((se.toUInt32 >>> ((2 : Int32) &&& 31).toUInt32).toInt32))])) _
    refine XS.iconst X0.here hx rfl (hb hby at_44) ?_
    show Steps p.tables e below (s₁.setTop (mkF m 45 #[.val (.long o0), .second, .val (.long o1), .second, .val (.long r), .second, .val (.long en), .second, .val (.int se), .val (.long f0), .second, .val (.long f1), .second, .unset, .unset, .unset, .unset, .unset, .unset, .unset, .unset, .unset, .unset, .unset, .unset] [(.int (1 : Int32)), (.int ((se.toUInt32 >>> ((2 : Int32) &&& 31).toUInt32).toInt32))])) _
    refine XS.iand X0.here hx rfl (hb hby at_45) rfl ?_
    show Steps p.tables e below (s₁.setTop (mkF m 46 #[.val (.long o0), .second, .val (.long o1), .second, .val (.long r), .second, .val (.long en), .second, .val (.int se), .val (.long f0), .second, .val (.long f1), .second, .unset, .unset, .unset, .unset, .unset, .unset, .unset, .unset, .unset, .unset, .unset, .unset] [(.int (((se.toUInt32 >>> ((2 : Int32) &&& 31).toUInt32).toInt32) &&& (1 : Int32)))])) _
    refine XS.istore X0.here hx rfl (hb hby at_46) rfl (l' := #[.val (.long o0), .second, .val (.long o1), .second, .val (.long r), .second, .val (.long en), .second, .val (.int se), .val (.long f0), .second, .val (.long f1), .second, .val (.int (((se.toUInt32 >>> ((2 : Int32) &&& 31).toUInt32).toInt32) &&& (1 : Int32))), .unset, .unset, .unset, .unset, .unset, .unset, .unset, .unset, .unset, .unset, .unset]) rfl ?_
    exact Steps.refl _
  obtain ⟨qu, h_qu⟩ : ∃ z : Int32, z = (((se.toUInt32 >>> ((2 : Int32) &&& 31).toUInt32).toInt32) &&& (1 : Int32)) := ⟨_, rfl⟩
  rw [← h_qu] at S7
  have hq := c_and ((se.toUInt32 >>> ((2 : Int32) &&& 31).toUInt32).toInt32) (1 : Int32) (by decide)
  rw [← h_qu] at hq
  have e1 : (1 : Int32).toInt = 1 := by decide
  have hq2 : qu.toInt = 0 ∨ qu.toInt = 1 := by omega
  have hqi := own_idx (j := qu) (n := 2) (by omega) (by omega)
  have S8 : Steps p.tables e below Ω (s₁.setTop (mkF m 53 #[.val (.long o0), .second, .val (.long o1), .second, .val (.long r), .second, .val (.long en), .second, .val (.int se), .val (.long f0), .second, .val (.long f1), .second, .val (.int qu), .unset, .unset, .unset, .unset, .unset, .unset, .unset, .unset, .unset, .unset, .unset] [(.int (se &&& (8 : Int32)))])) := by
    refine S7.trans ?_
    refine XS.iload X0.here hx rfl (hb hby at_48) rfl ?_
    show Steps p.tables e below (s₁.setTop (mkF m 50 #[.val (.long o0), .second, .val (.long o1), .second, .val (.long r), .second, .val (.long en), .second, .val (.int se), .val (.long f0), .second, .val (.long f1), .second, .val (.int qu), .unset, .unset, .unset, .unset, .unset, .unset, .unset, .unset, .unset, .unset, .unset] [(.int se)])) _
    refine XS.bipush X0.here hx rfl (hb hby at_50) ?_
    show Steps p.tables e below (s₁.setTop (mkF m 52 #[.val (.long o0), .second, .val (.long o1), .second, .val (.long r), .second, .val (.long en), .second, .val (.int se), .val (.long f0), .second, .val (.long f1), .second, .val (.int qu), .unset, .unset, .unset, .unset, .unset, .unset, .unset, .unset, .unset, .unset, .unset] [(.int (8 : Int32)), (.int se)])) _
    refine XS.iand X0.here hx rfl (hb hby at_52) rfl ?_
    exact Steps.refl _
  obtain ⟨r0, h_r0, S10⟩ : ∃ (r0 : Int64), r0 = (if (se &&& (8 : Int32)) = (0 : Int32) then (r &&& (9223372036854775807 : Int64)) else (-1 : Int64)) ∧ Steps p.tables e below Ω (s₁.setTop (mkF m 68 #[.val (.long o0), .second, .val (.long o1), .second, .val (.long r), .second, .val (.long en), .second, .val (.int se), .val (.long f0), .second, .val (.long f1), .second, .val (.int qu), .unset, .unset, .unset, .unset, .unset, .unset, .unset, .unset, .unset, .unset, .unset] [(.long r0)])) := by
    by_cases c9 : (se &&& (8 : Int32)) = (0 : Int32)
    · refine ⟨(r &&& (9223372036854775807 : Int64)), (by rw [if_pos c9]), S8.trans ?_⟩
      refine XS.ifYes X0.here hx rfl (pc0 := 53) (pc' := 62) rfl (hb hby at_53) rfl (XT.i0_eq_t c9) (by decide) (by decide) ?_
      show Steps p.tables e below (s₁.setTop (mkF m 62 #[.val (.long o0), .second, .val (.long o1), .second, .val (.long r), .second, .val (.long en), .second, .val (.int se), .val (.long f0), .second, .val (.long f1), .second, .val (.int qu), .unset, .unset, .unset, .unset, .unset, .unset, .unset, .unset, .unset, .unset, .unset] [])) _
      refine XS.lload X0.here hx rfl (hb hby at_62) rfl ?_
      show Steps p.tables e below (s₁.setTop (mkF m 64 #[.val (.long o0), .second, .val (.long o1), .second, .val (.long r), .second, .val (.long en), .second, .val (.int se), .val (.long f0), .second, .val (.long f1), .second, .val (.int qu), .unset, .unset, .unset, .unset, .unset, .unset, .unset, .unset, .unset, .unset, .unset] [(.long r)])) _
      refine X0.ldc2Long hx hown (mvT hZ (hw _ (List.mem_of_getElem? (i := 1) rfl))) (g := (mkF m 64 #[.val (.long o0), .second, .val (.long o1), .second, .val (.long r), .second, .val (.long en), .second, .val (.int se), .val (.long f0), .second, .val (.long f1), .second, .val (.int qu), .unset, .unset, .unset, .unset, .unset, .unset, .unset, .unset, .unset, .unset, .unset] [(.long r)])) rfl (hb hby at_64) _ ?_
      show Steps p.tables e below (s₁.setTop (mkF m 67 #[.val (.long o0), .second, .val (.long o1), .second, .val (.long r), .second, .val (.long en), .second, .val (.int se), .val (.long f0), .second, .val (.long f1), .second, .val (.int qu), .unset, .unset, .unset, .unset, .unset, .unset, .unset, .unset, .unset, .unset, .unset] [(.long (9223372036854775807 : Int64)), (.long r)])) _
      refine XS.land X0.here hx rfl (hb hby at_67) rfl ?_
      exact Steps.refl _
    · refine ⟨(-1 : Int64), (by rw [if_neg c9]), S8.trans ?_⟩
      refine XS.ifNo X0.here hx rfl (hb hby at_53) rfl (XT.i0_eq_f c9) ?_
      show Steps p.tables e below (s₁.setTop (mkF m 56 #[.val (.long o0), .second, .val (.long o1), .second, .val (.long r), .second, .val (.long en), .second, .val (.int se), .val (.long f0), .second, .val (.long f1), .second, .val (.int qu), .unset, .unset, .unset, .unset, .unset, .unset, .unset, .unset, .unset, .unset, .unset] [])) _
      refine X0.ldc2Long hx hown (mvT hZ (hw _ (List.mem_of_getElem? (i := 0) rfl))) (g := (mkF m 56 #[.val (.long o0), .second, .val (.long o1), .second, .val (.long r), .second, .val (.long en), .second, .val (.int se), .val (.long f0), .second, .val (.long f1), .second, .val (.int qu), .unset, .unset, .unset, .unset, .unset, .unset, .unset, .unset, .unset, .unset, .unset] [])) rfl (hb hby at_56) _ ?_
      show Steps p.tables e below (s₁.setTop (mkF m 59 #[.val (.long o0), .second, .val (.long o1), .second, .val (.long r), .second, .val (.long en), .second, .val (.int se), .val (.long f0), .second, .val (.long f1), .second, .val (.int qu), .unset, .unset, .unset, .unset, .unset, .unset, .unset, .unset, .unset, .unset, .unset] [(.long (-1 : Int64))])) _
      refine XS.goto X0.here hx rfl (pc0 := 59) (pc' := 68) rfl (hb hby at_59) (by decide) (by decide) ?_
      exact Steps.refl _
  have hr0 := own_of h_r0
  have S11 : Steps p.tables e below Ω (s₁.setTop (mkF m 75 #[.val (.long o0), .second, .val (.long o1), .second, .val (.long r), .second, .val (.long en), .second, .val (.int se), .val (.long f0), .second, .val (.long f1), .second, .val (.int qu), .val (.long r0), .second, .unset, .unset, .unset, .unset, .unset, .unset, .unset, .unset, .unset] [(.int (se &&& (16 : Int32)))])) := by
    refine S10.trans ?_
    refine XS.lstore X0.here hx rfl (hb hby at_68) rfl (l' := #[.val (.long o0), .second, .val (.long o1), .second, .val (.long r), .second, .val (.long en), .second, .val (.int se), .val (.long f0), .second, .val (.long f1), .second, .val (.int qu), .val (.long r0), .second, .unset, .unset, .unset, .unset, .unset, .unset, .unset, .unset, .unset]) rfl ?_
    show Steps p.tables e below (s₁.setTop (mkF m 70 #[.val (.long o0), .second, .val (.long o1), .second, .val (.long r), .second, .val (.long en), .second, .val (.int se), .val (.long f0), .second, .val (.long f1), .second, .val (.int qu), .val (.long r0), .second, .unset, .unset, .unset, .unset, .unset, .unset, .unset, .unset, .unset] [])) _
    refine XS.iload X0.here hx rfl (hb hby at_70) rfl ?_
    show Steps p.tables e below (s₁.setTop (mkF m 72 #[.val (.long o0), .second, .val (.long o1), .second, .val (.long r), .second, .val (.long en), .second, .val (.int se), .val (.long f0), .second, .val (.long f1), .second, .val (.int qu), .val (.long r0), .second, .unset, .unset, .unset, .unset, .unset, .unset, .unset, .unset, .unset] [(.int se)])) _
    refine XS.bipush X0.here hx rfl (hb hby at_72) ?_
    show Steps p.tables e below (s₁.setTop (mkF m 74 #[.val (.long o0), .second, .val (.long o1), .second, .val (.long r), .second, .val (.long en), .second, .val (.int se), .val (.long f0), .second, .val (.long f1), .second, .val (.int qu), .val (.long r0), .second, .unset, .unset, .unset, .unset, .unset, .unset, .unset, .unset, .unset] [(.int (16 : Int32)), (.int se)])) _
    refine XS.iand X0.here hx rfl (hb hby at_74) rfl ?_
    exact Steps.refl _
  obtain ⟨r1, h_r1, S13⟩ : ∃ (r1 : Int64), r1 = (if (se &&& (16 : Int32)) = (0 : Int32) then (((r.toUInt64 >>> ((1 : Int32) &&& 0x3f).toInt64.toUInt64).toInt64) &&& (9223372036854775807 : Int64)) else (-1 : Int64)) ∧ Steps p.tables e below Ω (s₁.setTop (mkF m 92 #[.val (.long o0), .second, .val (.long o1), .second, .val (.long r), .second, .val (.long en), .second, .val (.int se), .val (.long f0), .second, .val (.long f1), .second, .val (.int qu), .val (.long r0), .second, .unset, .unset, .unset, .unset, .unset, .unset, .unset, .unset, .unset] [(.long r1)])) := by
    by_cases c12 : (se &&& (16 : Int32)) = (0 : Int32)
    · refine ⟨(((r.toUInt64 >>> ((1 : Int32) &&& 0x3f).toInt64.toUInt64).toInt64) &&& (9223372036854775807 : Int64)), (by rw [if_pos c12]), S11.trans ?_⟩
      refine XS.ifYes X0.here hx rfl (pc0 := 75) (pc' := 84) rfl (hb hby at_75) rfl (XT.i0_eq_t c12) (by decide) (by decide) ?_
      show Steps p.tables e below (s₁.setTop (mkF m 84 #[.val (.long o0), .second, .val (.long o1), .second, .val (.long r), .second, .val (.long en), .second, .val (.int se), .val (.long f0), .second, .val (.long f1), .second, .val (.int qu), .val (.long r0), .second, .unset, .unset, .unset, .unset, .unset, .unset, .unset, .unset, .unset] [])) _
      refine XS.lload X0.here hx rfl (hb hby at_84) rfl ?_
      show Steps p.tables e below (s₁.setTop (mkF m 86 #[.val (.long o0), .second, .val (.long o1), .second, .val (.long r), .second, .val (.long en), .second, .val (.int se), .val (.long f0), .second, .val (.long f1), .second, .val (.int qu), .val (.long r0), .second, .unset, .unset, .unset, .unset, .unset, .unset, .unset, .unset, .unset] [(.long r)])) _
      refine XS.iconst X0.here hx rfl (hb hby at_86) ?_
      show Steps p.tables e below (s₁.setTop (mkF m 87 #[.val (.long o0), .second, .val (.long o1), .second, .val (.long r), .second, .val (.long en), .second, .val (.int se), .val (.long f0), .second, .val (.long f1), .second, .val (.int qu), .val (.long r0), .second, .unset, .unset, .unset, .unset, .unset, .unset, .unset, .unset, .unset] [(.int (1 : Int32)), (.long r)])) _
      refine XS.lushr X0.here hx rfl (hb hby at_87) rfl ?_
      show Steps p.tables e below (s₁.setTop (mkF m 88 #[.val (.long o0), .second, .val (.long o1), .second, .val (.long r), .second, .val (.long en), .second, .val (.int se), .val (.long f0), .second, .val (.long f1), .second, .val (.int qu), .val (.long r0), .second, .unset, .unset, .unset, .unset, .unset, .unset, .unset, .unset, .unset] [(.long ((r.toUInt64 >>> ((1 : Int32) &&& 0x3f).toInt64.toUInt64).toInt64))])) _
      refine X0.ldc2Long hx hown (mvT hZ (hw _ (List.mem_of_getElem? (i := 1) rfl))) (g := (mkF m 88 #[.val (.long o0), .second, .val (.long o1), .second, .val (.long r), .second, .val (.long en), .second, .val (.int se), .val (.long f0), .second, .val (.long f1), .second, .val (.int qu), .val (.long r0), .second, .unset, .unset, .unset, .unset, .unset, .unset, .unset, .unset, .unset] [(.long ((r.toUInt64 >>> ((1 : Int32) &&& 0x3f).toInt64.toUInt64).toInt64))])) rfl (hb hby at_88) _ ?_
      show Steps p.tables e below (s₁.setTop (mkF m 91 #[.val (.long o0), .second, .val (.long o1), .second, .val (.long r), .second, .val (.long en), .second, .val (.int se), .val (.long f0), .second, .val (.long f1), .second, .val (.int qu), .val (.long r0), .second, .unset, .unset, .unset, .unset, .unset, .unset, .unset, .unset, .unset] [(.long (9223372036854775807 : Int64)), (.long ((r.toUInt64 >>> ((1 : Int32) &&& 0x3f).toInt64.toUInt64).toInt64))])) _
      refine XS.land X0.here hx rfl (hb hby at_91) rfl ?_
      exact Steps.refl _
    · refine ⟨(-1 : Int64), (by rw [if_neg c12]), S11.trans ?_⟩
      refine XS.ifNo X0.here hx rfl (hb hby at_75) rfl (XT.i0_eq_f c12) ?_
      show Steps p.tables e below (s₁.setTop (mkF m 78 #[.val (.long o0), .second, .val (.long o1), .second, .val (.long r), .second, .val (.long en), .second, .val (.int se), .val (.long f0), .second, .val (.long f1), .second, .val (.int qu), .val (.long r0), .second, .unset, .unset, .unset, .unset, .unset, .unset, .unset, .unset, .unset] [])) _
      refine X0.ldc2Long hx hown (mvT hZ (hw _ (List.mem_of_getElem? (i := 0) rfl))) (g := (mkF m 78 #[.val (.long o0), .second, .val (.long o1), .second, .val (.long r), .second, .val (.long en), .second, .val (.int se), .val (.long f0), .second, .val (.long f1), .second, .val (.int qu), .val (.long r0), .second, .unset, .unset, .unset, .unset, .unset, .unset, .unset, .unset, .unset] [])) rfl (hb hby at_78) _ ?_
      show Steps p.tables e below (s₁.setTop (mkF m 81 #[.val (.long o0), .second, .val (.long o1), .second, .val (.long r), .second, .val (.long en), .second, .val (.int se), .val (.long f0), .second, .val (.long f1), .second, .val (.int qu), .val (.long r0), .second, .unset, .unset, .unset, .unset, .unset, .unset, .unset, .unset, .unset] [(.long (-1 : Int64))])) _
      refine XS.goto X0.here hx rfl (pc0 := 81) (pc' := 92) rfl (hb hby at_81) (by decide) (by decide) ?_
      exact Steps.refl _
  have hr1 := own_of h_r1
  have S14 : Steps p.tables e below Ω (s₁.setTop (mkF m 95 #[.val (.long o0), .second, .val (.long o1), .second, .val (.long r), .second, .val (.long en), .second, .val (.int se), .val (.long f0), .second, .val (.long f1), .second, .val (.int qu), .val (.long r0), .second, .val (.long r1), .second, .unset, .unset, .unset, .unset, .unset, .unset, .unset] [(.int (2 : Int32))])) := by
    refine S13.trans ?_
    refine XS.lstore X0.here hx rfl (hb hby at_92) rfl (l' := #[.val (.long o0), .second, .val (.long o1), .second, .val (.long r), .second, .val (.long en), .second, .val (.int se), .val (.long f0), .second, .val (.long f1), .second, .val (.int qu), .val (.long r0), .second, .val (.long r1), .second, .unset, .unset, .unset, .unset, .unset, .unset, .unset]) rfl ?_
    show Steps p.tables e below (s₁.setTop (mkF m 94 #[.val (.long o0), .second, .val (.long o1), .second, .val (.long r), .second, .val (.long en), .second, .val (.int se), .val (.long f0), .second, .val (.long f1), .second, .val (.int qu), .val (.long r0), .second, .val (.long r1), .second, .unset, .unset, .unset, .unset, .unset, .unset, .unset] [])) _
    refine XS.iconst X0.here hx rfl (hb hby at_94) ?_
    exact Steps.refl _
  obtain ⟨T15, h15, k15, X15, e15, E15, A15, B15, st15⟩ := newPE X0 hx hZ (hw _ (List.mem_of_getElem? (i := 2) rfl)) e0 (g := (mkF m 95 #[.val (.long o0), .second, .val (.long o1), .second, .val (.long r), .second, .val (.long en), .second, .val (.int se), .val (.long f0), .second, .val (.long f1), .second, .val (.int qu), .val (.long r0), .second, .val (.long r1), .second, .unset, .unset, .unset, .unset, .unset, .unset, .unset] [(.int (2 : Int32))])) rfl (hb hby at_95) rfl (by decide) (cap := 2) (by decide) (by decide) (by decide) (by decide) (ad := "[J") (by decide)
  obtain ⟨b, s_b⟩ : ∃ z, z = h0.size := ⟨_, rfl⟩
  rw [← s_b] at A15 B15 st15
  have g_b : n0 ≤ b := Nat.le_trans Z0 (Nat.le_of_eq s_b.symm)
  have S16 : Steps p.tables e below Ω (T15.setTop (mkF m 97 #[.val (.long o0), .second, .val (.long o1), .second, .val (.long r), .second, .val (.long en), .second, .val (.int se), .val (.long f0), .second, .val (.long f1), .second, .val (.int qu), .val (.long r0), .second, .val (.long r1), .second, .unset, .unset, .unset, .unset, .unset, .unset, .unset] [(.ref b)])) := S14.trans (st15 _ (Steps.refl _))
  have V0 : LA Z h15 b .long [(.long (0 : Int64)), (.long (0 : Int64))] := LA.new A15 2 rfl
  have S17 : Steps p.tables e below Ω (T15.setTop (mkF m 101 #[.val (.long o0), .second, .val (.long o1), .second, .val (.long r), .second, .val (.long en), .second, .val (.int se), .val (.long f0), .second, .val (.long f1), .second, .val (.int qu), .val (.long r0), .second, .val (.long r1), .second, .unset, .unset, .unset, .unset, .unset, .unset, .unset] [(.long f0), (.int (0 : Int32)), (.ref b), (.ref b)])) := by
    refine S16.trans ?_
    refine XS.dup X15.here hx rfl (hb hby at_97) rfl rfl ?_
    show Steps p.tables e below (T15.setTop (mkF m 98 #[.val (.long o0), .second, .val (.long o1), .second, .val (.long r), .second, .val (.long en), .second, .val (.int se), .val (.long f0), .second, .val (.long f1), .second, .val (.int qu), .val (.long r0), .second, .val (.long r1), .second, .unset, .unset, .unset, .unset, .unset, .unset, .unset] [(.ref b), (.ref b)])) _
    refine XS.iconst X15.here hx rfl (hb hby at_98) ?_
    show Steps p.tables e below (T15.setTop (mkF m 99 #[.val (.long o0), .second, .val (.long o1), .second, .val (.long r), .second, .val (.long en), .second, .val (.int se), .val (.long f0), .second, .val (.long f1), .second, .val (.int qu), .val (.long r0), .second, .val (.long r1), .second, .unset, .unset, .unset, .unset, .unset, .unset, .unset] [(.int (0 : Int32)), (.ref b), (.ref b)])) _
    refine XS.lload X15.here hx rfl (hb hby at_99) rfl ?_
    exact Steps.refl _
  obtain ⟨T18, h18, X18, e18, W18, V18', st18⟩ := own_stJ X15 hx hZ e15 V0 (j := (0 : Int32)) (i := 0) rfl ⟨by decide, Nat.le_of_ble_eq_true rfl⟩ (g := (mkF m 101 #[.val (.long o0), .second, .val (.long o1), .second, .val (.long r), .second, .val (.long en), .second, .val (.int se), .val (.long f0), .second, .val (.long f1), .second, .val (.int qu), .val (.long r0), .second, .val (.long r1), .second, .unset, .unset, .unset, .unset, .unset, .unset, .unset] [(.long f0), (.int (0 : Int32)), (.ref b), (.ref b)])) rfl rfl (hb hby at_101)
  have V18 : LA Z h18 b .long [(.long f0), (.long (0 : Int64))] := V18'
  have S19 : Steps p.tables e below Ω (T18.setTop (mkF m 102 #[.val (.long o0), .second, .val (.long o1), .second, .val (.long r), .second, .val (.long en), .second, .val (.int se), .val (.long f0), .second, .val (.long f1), .second, .val (.int qu), .val (.long r0), .second, .val (.long r1), .second, .unset, .unset, .unset, .unset, .unset, .unset, .unset] [(.ref b)])) := S17.trans (st18 _ (Steps.refl _))
  have N18 := Fr.snoc X18 N0 g_b
  have BB18 := B15.wr W18
  have S20 : Steps p.tables e below Ω (T18.setTop (mkF m 106 #[.val (.long o0), .second, .val (.long o1), .second, .val (.long r), .second, .val (.long en), .second, .val (.int se), .val (.long f0), .second, .val (.long f1), .second, .val (.int qu), .val (.long r0), .second, .val (.long r1), .second, .unset, .unset, .unset, .unset, .unset, .unset, .unset] [(.long f1), (.int (1 : Int32)), (.ref b), (.ref b)])) := by
    refine S19.trans ?_
    refine XS.dup X18.here hx rfl (hb hby at_102) rfl rfl ?_
    show Steps p.tables e below (T18.setTop (mkF m 103 #[.val (.long o0), .second, .val (.long o1), .second, .val (.long r), .second, .val (.long en), .second, .val (.int se), .val (.long f0), .second, .val (.long f1), .second, .val (.int qu), .val (.long r0), .second, .val (.long r1), .second, .unset, .unset, .unset, .unset, .unset, .unset, .unset] [(.ref b), (.ref b)])) _
    refine XS.iconst X18.here hx rfl (hb hby at_103) ?_
    show Steps p.tables e below (T18.setTop (mkF m 104 #[.val (.long o0), .second, .val (.long o1), .second, .val (.long r), .second, .val (.long en), .second, .val (.int se), .val (.long f0), .second, .val (.long f1), .second, .val (.int qu), .val (.long r0), .second, .val (.long r1), .second, .unset, .unset, .unset, .unset, .unset, .unset, .unset] [(.int (1 : Int32)), (.ref b), (.ref b)])) _
    refine XS.lload X18.here hx rfl (hb hby at_104) rfl ?_
    exact Steps.refl _
  obtain ⟨T21, h21, X21, e21, W21, V21', st21⟩ := own_stJ X18 hx hZ e18 V18 (j := (1 : Int32)) (i := 1) rfl ⟨by decide, Nat.le_of_ble_eq_true rfl⟩ (g := (mkF m 106 #[.val (.long o0), .second, .val (.long o1), .second, .val (.long r), .second, .val (.long en), .second, .val (.int se), .val (.long f0), .second, .val (.long f1), .second, .val (.int qu), .val (.long r0), .second, .val (.long r1), .second, .unset, .unset, .unset, .unset, .unset, .unset, .unset] [(.long f1), (.int (1 : Int32)), (.ref b), (.ref b)])) rfl rfl (hb hby at_106)
  have V21 : LA Z h21 b .long [(.long f0), (.long f1)] := V21'
  have S22 : Steps p.tables e below Ω (T21.setTop (mkF m 107 #[.val (.long o0), .second, .val (.long o1), .second, .val (.long r), .second, .val (.long en), .second, .val (.int se), .val (.long f0), .second, .val (.long f1), .second, .val (.int qu), .val (.long r0), .second, .val (.long r1), .second, .unset, .unset, .unset, .unset, .unset, .unset, .unset] [(.ref b)])) := S20.trans (st21 _ (Steps.refl _))
  have N21 := Fr.snoc X21 N18 g_b
  have BB21 := BB18.wr W21
  have S23 : Steps p.tables e below Ω (T21.setTop (mkF m 110 #[.val (.long o0), .second, .val (.long o1), .second, .val (.long r), .second, .val (.long en), .second, .val (.int se), .val (.long f0), .second, .val (.long f1), .second, .val (.int qu), .val (.long r0), .second, .val (.long r1), .second, .val (.ref b), .unset, .unset, .unset, .unset, .unset, .unset] [(.int (2 : Int32))])) := by
    refine S22.trans ?_
    refine XS.astore X21.here hx rfl (hb hby at_107) rfl rfl (l' := #[.val (.long o0), .second, .val (.long o1), .second, .val (.long r), .second, .val (.long en), .second, .val (.int se), .val (.long f0), .second, .val (.long f1), .second, .val (.int qu), .val (.long r0), .second, .val (.long r1), .second, .val (.ref b), .unset, .unset, .unset, .unset, .unset, .unset]) rfl ?_
    show Steps p.tables e below (T21.setTop (mkF m 109 #[.val (.long o0), .second, .val (.long o1), .second, .val (.long r), .second, .val (.long en), .second, .val (.int se), .val (.long f0), .second, .val (.long f1), .second, .val (.int qu), .val (.long r0), .second, .val (.long r1), .second, .val (.ref b), .unset, .unset, .unset, .unset, .unset, .unset] [])) _
    refine XS.iconst X21.here hx rfl (hb hby at_109) ?_
    exact Steps.refl _
  obtain ⟨T24, h24, k24, X24, e24, E24, A24, B24, st24⟩ := newPE X21 hx hZ (hw _ (List.mem_of_getElem? (i := 2) rfl)) e21 (g := (mkF m 110 #[.val (.long o0), .second, .val (.long o1), .second, .val (.long r), .second, .val (.long en), .second, .val (.int se), .val (.long f0), .second, .val (.long f1), .second, .val (.int qu), .val (.long r0), .second, .val (.long r1), .second, .val (.ref b), .unset, .unset, .unset, .unset, .unset, .unset] [(.int (2 : Int32))])) rfl (hb hby at_110) rfl (by decide) (cap := 2) (by decide) (by decide) (by decide) (by decide) (ad := "[J") (by decide)
  obtain ⟨b2, s_b2⟩ : ∃ z, z = h21.size := ⟨_, rfl⟩
  rw [← s_b2] at A24 B24 st24
  have g_b2 : n0 ≤ b2 := Nat.le_trans (Nat.le_trans (Nat.le_trans (Nat.le_trans Z0 E15.1) (Keep.of_wr W18).1) (Keep.of_wr W21).1) (Nat.le_of_eq s_b2.symm)
  have S25 : Steps p.tables e below Ω (T24.setTop (mkF m 112 #[.val (.long o0), .second, .val (.long o1), .second, .val (.long r), .second, .val (.long en), .second, .val (.int se), .val (.long f0), .second, .val (.long f1), .second, .val (.int qu), .val (.long r0), .second, .val (.long r1), .second, .val (.ref b), .unset, .unset, .unset, .unset, .unset, .unset] [(.ref b2)])) := S23.trans (st24 _ (Steps.refl _))
  have U0 : LA Z h24 b2 .long [(.long (0 : Int64)), (.long (0 : Int64))] := LA.new A24 2 rfl
  have hbb : b ≠ b2 := Nat.ne_of_lt (Nat.lt_of_lt_of_le V21.lt (Nat.le_of_eq s_b2.symm))
  have VX0 := V21.ext E24
  have BX0 := BB21.ext E24
  have S26 : Steps p.tables e below Ω (T24.setTop (mkF m 116 #[.val (.long o0), .second, .val (.long o1), .second, .val (.long r), .second, .val (.long en), .second, .val (.int se), .val (.long f0), .second, .val (.long f1), .second, .val (.int qu), .val (.long r0), .second, .val (.long r1), .second, .val (.ref b), .unset, .unset, .unset, .unset, .unset, .unset] [(.long r0), (.int (0 : Int32)), (.ref b2), (.ref b2)])) := by
    refine S25.trans ?_
    refine XS.dup X24.here hx rfl (hb hby at_112) rfl rfl ?_
    show Steps p.tables e below (T24.setTop (mkF m 113 #[.val (.long o0), .second, .val (.long o1), .second, .val (.long r), .second, .val (.long en), .second, .val (.int se), .val (.long f0), .second, .val (.long f1), .second, .val (.int qu), .val (.long r0), .second, .val (.long r1), .second, .val (.ref b), .unset, .unset, .unset, .unset, .unset, .unset] [(.ref b2), (.ref b2)])) _
    refine XS.iconst X24.here hx rfl (hb hby at_113) ?_
    show Steps p.tables e below (T24.setTop (mkF m 114 #[.val (.long o0), .second, .val (.long o1), .second, .val (.long r), .second, .val (.long en), .second, .val (.int se), .val (.long f0), .second, .val (.long f1), .second, .val (.int qu), .val (.long r0), .second, .val (.long r1), .second, .val (.ref b), .unset, .unset, .unset, .unset, .unset, .unset] [(.int (0 : Int32)), (.ref b2), (.ref b2)])) _
    refine XS.lload X24.here hx rfl (hb hby at_114) rfl ?_
    exact Steps.refl _
  obtain ⟨T27, h27, X27, e27, W27, V27', st27⟩ := own_stJ X24 hx hZ e24 U0 (j := (0 : Int32)) (i := 0) rfl ⟨by decide, Nat.le_of_ble_eq_true rfl⟩ (g := (mkF m 116 #[.val (.long o0), .second, .val (.long o1), .second, .val (.long r), .second, .val (.long en), .second, .val (.int se), .val (.long f0), .second, .val (.long f1), .second, .val (.int qu), .val (.long r0), .second, .val (.long r1), .second, .val (.ref b), .unset, .unset, .unset, .unset, .unset, .unset] [(.long r0), (.int (0 : Int32)), (.ref b2), (.ref b2)])) rfl rfl (hb hby at_116)
  have V27 : LA Z h27 b2 .long [(.long r0), (.long (0 : Int64))] := V27'
  have S28 : Steps p.tables e below Ω (T27.setTop (mkF m 117 #[.val (.long o0), .second, .val (.long o1), .second, .val (.long r), .second, .val (.long en), .second, .val (.int se), .val (.long f0), .second, .val (.long f1), .second, .val (.int qu), .val (.long r0), .second, .val (.long r1), .second, .val (.ref b), .unset, .unset, .unset, .unset, .unset, .unset] [(.ref b2)])) := S26.trans (st27 _ (Steps.refl _))
  have N27 := Fr.snoc X27 N21 g_b2
  have BB27 := B24.wr W27
  have VX27 := VX0.other W27 hbb
  have BX27 := BX0.wr W27
  have S29 : Steps p.tables e below Ω (T27.setTop (mkF m 121 #[.val (.long o0), .second, .val (.long o1), .second, .val (.long r), .second, .val (.long en), .second, .val (.int se), .val (.long f0), .second, .val (.long f1), .second, .val (.int qu), .val (.long r0), .second, .val (.long r1), .second, .val (.ref b), .unset, .unset, .unset, .unset, .unset, .unset] [(.long r1), (.int (1 : Int32)), (.ref b2), (.ref b2)])) := by
    refine S28.trans ?_
    refine XS.dup X27.here hx rfl (hb hby at_117) rfl rfl ?_
    show Steps p.tables e below (T27.setTop (mkF m 118 #[.val (.long o0), .second, .val (.long o1), .second, .val (.long r), .second, .val (.long en), .second, .val (.int se), .val (.long f0), .second, .val (.long f1), .second, .val (.int qu), .val (.long r0), .second, .val (.long r1), .second, .val (.ref b), .unset, .unset, .unset, .unset, .unset, .unset] [(.ref b2), (.ref b2)])) _
    refine XS.iconst X27.here hx rfl (hb hby at_118) ?_
    show Steps p.tables e below (T27.setTop (mkF m 119 #[.val (.long o0), .second, .val (.long o1), .second, .val (.long r), .second, .val (.long en), .second, .val (.int se), .val (.long f0), .second, .val (.long f1), .second, .val (.int qu), .val (.long r0), .second, .val (.long r1), .second, .val (.ref b), .unset, .unset, .unset, .unset, .unset, .unset] [(.int (1 : Int32)), (.ref b2), (.ref b2)])) _
    refine XS.lload X27.here hx rfl (hb hby at_119) rfl ?_
    exact Steps.refl _
  obtain ⟨T30, h30, X30, e30, W30, V30', st30⟩ := own_stJ X27 hx hZ e27 V27 (j := (1 : Int32)) (i := 1) rfl ⟨by decide, Nat.le_of_ble_eq_true rfl⟩ (g := (mkF m 121 #[.val (.long o0), .second, .val (.long o1), .second, .val (.long r), .second, .val (.long en), .second, .val (.int se), .val (.long f0), .second, .val (.long f1), .second, .val (.int qu), .val (.long r0), .second, .val (.long r1), .second, .val (.ref b), .unset, .unset, .unset, .unset, .unset, .unset] [(.long r1), (.int (1 : Int32)), (.ref b2), (.ref b2)])) rfl rfl (hb hby at_121)
  have V30 : LA Z h30 b2 .long [(.long r0), (.long r1)] := V30'
  have S31 : Steps p.tables e below Ω (T30.setTop (mkF m 122 #[.val (.long o0), .second, .val (.long o1), .second, .val (.long r), .second, .val (.long en), .second, .val (.int se), .val (.long f0), .second, .val (.long f1), .second, .val (.int qu), .val (.long r0), .second, .val (.long r1), .second, .val (.ref b), .unset, .unset, .unset, .unset, .unset, .unset] [(.ref b2)])) := S29.trans (st30 _ (Steps.refl _))
  have N30 := Fr.snoc X30 N27 g_b2
  have BB30 := BB27.wr W30
  have VX30 := VX27.other W30 hbb
  have BX30 := BX27.wr W30
  have S32 : Steps p.tables e below Ω (T30.setTop (mkF m 124 #[.val (.long o0), .second, .val (.long o1), .second, .val (.long r), .second, .val (.long en), .second, .val (.int se), .val (.long f0), .second, .val (.long f1), .second, .val (.int qu), .val (.long r0), .second, .val (.long r1), .second, .val (.ref b), .val (.ref b2), .unset, .unset, .unset, .unset, .unset] [])) := by
    refine S31.trans ?_
    refine XS.astore X30.here hx rfl (hb hby at_122) rfl rfl (l' := #[.val (.long o0), .second, .val (.long o1), .second, .val (.long r), .second, .val (.long en), .second, .val (.int se), .val (.long f0), .second, .val (.long f1), .second, .val (.int qu), .val (.long r0), .second, .val (.long r1), .second, .val (.ref b), .val (.ref b2), .unset, .unset, .unset, .unset, .unset]) rfl ?_
    exact Steps.refl _
  obtain ⟨T33, h33, X33, e33, E33, A33, D33, -, st33⟩ := newO X30 hx hZ hown (hw _ (List.mem_of_getElem? (i := 3) rfl)) (hw _ (List.mem_of_getElem? (i := 4) rfl)) (hw _ (List.mem_of_getElem? (i := 5) rfl)) e30 (g := (mkF m 124 #[.val (.long o0), .second, .val (.long o1), .second, .val (.long r), .second, .val (.long en), .second, .val (.int se), .val (.long f0), .second, .val (.long f1), .second, .val (.int qu), .val (.long r0), .second, .val (.long r1), .second, .val (.ref b), .val (.ref b2), .unset, .unset, .unset, .unset, .unset] [])) rfl (hb hby at_124) (by decide) (by decide)
  obtain ⟨t, s_t⟩ : ∃ z, z = h30.size := ⟨_, rfl⟩
  rw [← s_t] at A33 D33 st33
  have g_t : n0 ≤ t := Nat.le_trans (Nat.le_trans (Nat.le_trans (Nat.le_trans (Nat.le_trans (Nat.le_trans (Nat.le_trans Z0 E15.1) (Keep.of_wr W18).1) (Keep.of_wr W21).1) E24.1) (Keep.of_wr W27).1) (Keep.of_wr W30).1) (Nat.le_of_eq s_t.symm)
  have F_offsets_t : Fld Z h33 t "com/example/ingest/ingest/common/GroupProgress" "offsets" "[J" .null := D33 (Or.inr (hw _ (List.mem_of_getElem? (i := 39) rfl))) (ty := (.array .long)) (by decide)
  have F_retryOffsets_t : Fld Z h33 t "com/example/ingest/ingest/common/GroupProgress" "retryOffsets" "[J" .null := D33 (Or.inr (hw _ (List.mem_of_getElem? (i := 41) rfl))) (ty := (.array .long)) (by decide)
  have S34 : Steps p.tables e below Ω (T33.setTop (mkF m 127 #[.val (.long o0), .second, .val (.long o1), .second, .val (.long r), .second, .val (.long en), .second, .val (.int se), .val (.long f0), .second, .val (.long f1), .second, .val (.int qu), .val (.long r0), .second, .val (.long r1), .second, .val (.ref b), .val (.ref b2), .unset, .unset, .unset, .unset, .unset] [(.ref t)])) := S32.trans (st33 _ (Steps.refl _))
  have VV : LA Z h33 b .long (List.map Value.long [f0, f1]) := VX30.ext E33
  have UU : LA Z h33 b2 .long (List.map Value.long [r0, r1]) := V30.ext E33
  have BB := BX30.ext E33
  have BC := BB30.ext E33
  have S35 : Steps p.tables e below Ω (T33.setTop (mkF m 132 #[.val (.long o0), .second, .val (.long o1), .second, .val (.long r), .second, .val (.long en), .second, .val (.int se), .val (.long f0), .second, .val (.long f1), .second, .val (.int qu), .val (.long r0), .second, .val (.long r1), .second, .val (.ref b), .val (.ref b2), .unset, .unset, .unset, .unset, .unset] [(.ref b2), (.ref b), (.ref t), (.ref t)])) := by
    refine S34.trans ?_
    refine XS.dup X33.here hx rfl (hb hby at_127) rfl rfl ?_
    show Steps p.tables e below (T33.setTop (mkF m 128 #[.val (.long o0), .second, .val (.long o1), .second, .val (.long r), .second, .val (.long en), .second, .val (.int se), .val (.long f0), .second, .val (.long f1), .second, .val (.int qu), .val (.long r0), .second, .val (.long r1), .second, .val (.ref b), .val (.ref b2), .unset, .unset, .unset, .unset, .unset] [(.ref t), (.ref t)])) _
    refine XS.aload X33.here hx rfl (hb hby at_128) rfl rfl ?_
    show Steps p.tables e below (T33.setTop (mkF m 130 #[.val (.long o0), .second, .val (.long o1), .second, .val (.long r), .second, .val (.long en), .second, .val (.int se), .val (.long f0), .second, .val (.long f1), .second, .val (.int qu), .val (.long r0), .second, .val (.long r1), .second, .val (.ref b), .val (.ref b2), .unset, .unset, .unset, .unset, .unset] [(.ref b), (.ref t), (.ref t)])) _
    refine XS.aload X33.here hx rfl (hb hby at_130) rfl rfl ?_
    exact Steps.refl _
  obtain ⟨_, _, ⟨T36, L36, k36, n36⟩, -, X36, hSn36, hgr36, ⟨Lc36, hQ36, l36, y36, z36⟩, st36⟩ := X33.specialBackS hx (y := (⟨"com/example/ingest/ingest/common/GroupProgress", "<init>", "([J[J)V"⟩ : MethodName)) rfl hown (mvT hZ (hw _ (List.mem_of_getElem? (i := 6) rfl))) (mvT hZ (hw _ (List.mem_of_getElem? (i := 7) rfl))) (mvT hZ (hw _ (List.mem_of_getElem? (i := 8) rfl))) (by decide) (backOfS (W := 1) (rm1 l Z a0 hw [] t b b2 [f0, f1] [r0, r1] h33 n0 (Nat.le_trans (Nat.le_trans (Nat.le_trans (Nat.le_trans (Nat.le_trans (Nat.le_trans (Nat.le_trans Z0 E15.1) (Keep.of_wr W18).1) (Keep.of_wr W21).1) E24.1) (Keep.of_wr W27).1) (Keep.of_wr W30).1) E33.1) A33 F_offsets_t F_retryOffsets_t g_t VV UU BB BC rfl rfl (own_two f0 f1 hf0 hf1) (own_two r0 r1 hr0 hr1)) hZ (hw _ (List.mem_of_getElem? (i := 8) rfl)) (hw _ (List.mem_of_getElem? (i := 5) rfl)) (by decide) (by decide)) (g := (mkF m 132 #[.val (.long o0), .second, .val (.long o1), .second, .val (.long r), .second, .val (.long en), .second, .val (.int se), .val (.long f0), .second, .val (.long f1), .second, .val (.int qu), .val (.long r0), .second, .val (.long r1), .second, .val (.ref b), .val (.ref b2), .unset, .unset, .unset, .unset, .unset] [(.ref b2), (.ref b), (.ref t), (.ref t)])) rfl (by rw [hml]; rfl) (Steps.refl _) (a := t) (argsL := [(.ref b), (.ref b2)]) (rest := [(.ref t)]) (lenOf pd_2 rfl) rfl (by show 2 * 0 + _ ≤ _; exact Nat.le_of_eq rfl) (hb hby at_132) (fun _ _ => ⟨rfl, e33, (by decide : 3 + 6 ≤ _), (by decide : 6 + 84 ≤ _)⟩)
  dsimp only [Pt.U, Pt.locs, Pt.cells, Pt.slots] at X36 l36 y36 z36 st36 hQ36 hSn36 hgr36
  subst l36 y36 z36
  have hS36 : s.Since T36.vm T36.heap.size := State.Since.trans (vm₁ := s.vm) hS0 hSn36 (Nat.le_trans (Nat.le_trans (Nat.le_trans (Nat.le_trans (Nat.le_trans (Nat.le_trans (Nat.le_trans (Nat.le_trans (Nat.le_refl h0.size) E15.1) (Keep.of_wr W18).1) (Keep.of_wr W21).1) E24.1) (Keep.of_wr W27).1) (Keep.of_wr W30).1) E33.1) (by rw [← e33]; exact hgr36))
  have hZ : Z.Warmed39 T36.vm := State.Warmed39.trans (t := s) hZ hSn36.1
  have hown : (s.setVm T36.vm).vm.findClass "com/example/ingest/ingest/common/GroupProgressLagPinLaw" = some m.cls := by rw [show (s.setVm T36.vm).vm = T36.vm from rfl, hSn36.1.alike.findClass]; exact hown
  have X36 : Stand p l e room_1 (s.setVm T36.vm) m #[(.long o0), (.long o1), (.long r), (.long en), (.int se)] below meth c T36 _ _ _ := X36
  obtain ⟨cA, rfl, N36q, K36, E36, F1, LA1⟩ := hQ36
  have N36 := Fr.app N30 N36q
  have S37 : Steps p.tables e below Ω (T36.setTop (mkF m 135 #[.val (.long o0), .second, .val (.long o1), .second, .val (.long r), .second, .val (.long en), .second, .val (.int se), .val (.long f0), .second, .val (.long f1), .second, .val (.int qu), .val (.long r0), .second, .val (.long r1), .second, .val (.ref b), .val (.ref b2), .unset, .unset, .unset, .unset, .unset] [(.ref t)])) := S35.trans st36
  have S38 : Steps p.tables e below Ω (T36.setTop (mkF m 143 #[.val (.long o0), .second, .val (.long o1), .second, .val (.long r), .second, .val (.long en), .second, .val (.int se), .val (.long f0), .second, .val (.long f1), .second, .val (.int qu), .val (.long r0), .second, .val (.long r1), .second, .val (.ref b), .val (.ref b2), .val (.ref t), .unset, .unset, .unset, .unset] [(.long en), (.int qu), (.ref t)])) := by
    refine S37.trans ?_
    refine XS.astore X36.here hx rfl (hb hby at_135) rfl rfl (l' := #[.val (.long o0), .second, .val (.long o1), .second, .val (.long r), .second, .val (.long en), .second, .val (.int se), .val (.long f0), .second, .val (.long f1), .second, .val (.int qu), .val (.long r0), .second, .val (.long r1), .second, .val (.ref b), .val (.ref b2), .val (.ref t), .unset, .unset, .unset, .unset]) rfl ?_
    show Steps p.tables e below (T36.setTop (mkF m 137 #[.val (.long o0), .second, .val (.long o1), .second, .val (.long r), .second, .val (.long en), .second, .val (.int se), .val (.long f0), .second, .val (.long f1), .second, .val (.int qu), .val (.long r0), .second, .val (.long r1), .second, .val (.ref b), .val (.ref b2), .val (.ref t), .unset, .unset, .unset, .unset] [])) _
    refine XS.aload X36.here hx rfl (hb hby at_137) rfl rfl ?_
    show Steps p.tables e below (T36.setTop (mkF m 139 #[.val (.long o0), .second, .val (.long o1), .second, .val (.long r), .second, .val (.long en), .second, .val (.int se), .val (.long f0), .second, .val (.long f1), .second, .val (.int qu), .val (.long r0), .second, .val (.long r1), .second, .val (.ref b), .val (.ref b2), .val (.ref t), .unset, .unset, .unset, .unset] [(.ref t)])) _
    refine XS.iload X36.here hx rfl (hb hby at_139) rfl ?_
    show Steps p.tables e below (T36.setTop (mkF m 141 #[.val (.long o0), .second, .val (.long o1), .second, .val (.long r), .second, .val (.long en), .second, .val (.int se), .val (.long f0), .second, .val (.long f1), .second, .val (.int qu), .val (.long r0), .second, .val (.long r1), .second, .val (.ref b), .val (.ref b2), .val (.ref t), .unset, .unset, .unset, .unset] [(.int qu), (.ref t)])) _
    refine XS.lload X36.here hx rfl (hb hby at_141) rfl ?_
    exact Steps.refl _
  obtain ⟨cq39, kq39, q39a, q39b, q39c⟩ := isOf hZ rfl E36
  obtain ⟨_, _, ⟨T39, L39, k39, n39⟩, -, X39, ⟨Lc39, hQ39, l39, y39, z39⟩, st39⟩ := X36.virtualBack hx (y := (⟨"com/example/ingest/ingest/common/GroupProgress", "lag", "(IJ)J"⟩ : MethodName)) (z := (⟨"com/example/ingest/ingest/common/GroupProgress", "lag", "(IJ)J"⟩ : MethodName)) hown (mvT hZ (hw _ (List.mem_of_getElem? (i := 42) rfl))) (mvT hZ (hw _ (List.mem_of_getElem? (i := 43) rfl))) (notFace_of_selects (args := #[]) (mvT hZ (hw _ (List.mem_of_getElem? (i := 45) rfl)))) (mvT hZ (hw _ (List.mem_of_getElem? (i := 45) rfl))) (mvT hZ (hw _ (List.mem_of_getElem? (i := 44) rfl))) (by decide) (backOf (W := 0) (rm5 l Z a0 hw [] t qu en cA [f0, f1] (if qu = (0 : Int32) then f0 else f1) T36.heap n0 (Nat.le_trans (Nat.le_trans (Nat.le_trans (Nat.le_trans (Nat.le_trans (Nat.le_trans (Nat.le_trans (Nat.le_trans Z0 E15.1) (Keep.of_wr W18).1) (Keep.of_wr W21).1) E24.1) (Keep.of_wr W27).1) (Keep.of_wr W30).1) E33.1) K36.1) F1 LA1 hqi.1 (own_pick f0 f1 qu hq2)) hZ (hw _ (List.mem_of_getElem? (i := 46) rfl)) (hw _ (List.mem_of_getElem? (i := 5) rfl)) (by decide) (by decide)) q39a q39c (g := (mkF m 143 #[.val (.long o0), .second, .val (.long o1), .second, .val (.long r), .second, .val (.long en), .second, .val (.int se), .val (.long f0), .second, .val (.long f1), .second, .val (.int qu), .val (.long r0), .second, .val (.long r1), .second, .val (.ref b), .val (.ref b2), .val (.ref t), .unset, .unset, .unset, .unset] [(.long en), (.int qu), (.ref t)])) rfl (by rw [hml]; rfl) (Steps.refl _) (argsL := [(.int qu), (.long en)]) (rest := []) (lenOf pd_3 rfl) rfl (by show 2 * 0 + _ ≤ _; exact Nat.le_of_eq rfl) (hb hby at_143) (fun _ _ => ⟨rfl, rfl, (by decide : 9 + 0 ≤ _), (by decide : 90 + 0 ≤ _)⟩)
  dsimp only [Pt.U, Pt.locs, Pt.cells, Pt.slots] at X39 l39 y39 z39 st39 hQ39
  subst l39 y39 z39
  obtain ⟨rfl, N39q, e39⟩ := hQ39
  have N39 := Fr.app N36 N39q
  have S40 : Steps p.tables e below Ω (T39.setTop (mkF m 146 #[.val (.long o0), .second, .val (.long o1), .second, .val (.long r), .second, .val (.long en), .second, .val (.int se), .val (.long f0), .second, .val (.long f1), .second, .val (.int qu), .val (.long r0), .second, .val (.long r1), .second, .val (.ref b), .val (.ref b2), .val (.ref t), .unset, .unset, .unset, .unset] [(.long (own_lag (if qu = (0 : Int32) then f0 else f1) en))])) := S38.trans st39
  have S41 : Steps p.tables e below Ω (T39.setTop (mkF m 150 #[.val (.long o0), .second, .val (.long o1), .second, .val (.long r), .second, .val (.long en), .second, .val (.int se), .val (.long f0), .second, .val (.long f1), .second, .val (.int qu), .val (.long r0), .second, .val (.long r1), .second, .val (.ref b), .val (.ref b2), .val (.ref t), .val (.long (own_lag (if qu = (0 : Int32) then f0 else f1) en)), .second, .unset, .unset] [(.int qu)])) := by
    refine S40.trans ?_
    refine XS.lstore X39.here hx rfl (hb hby at_146) rfl (l' := #[.val (.long o0), .second, .val (.long o1), .second, .val (.long r), .second, .val (.long en), .second, .val (.int se), .val (.long f0), .second, .val (.long f1), .second, .val (.int qu), .val (.long r0), .second, .val (.long r1), .second, .val (.ref b), .val (.ref b2), .val (.ref t), .val (.long (own_lag (if qu = (0 : Int32) then f0 else f1) en)), .second, .unset, .unset]) rfl ?_
    show Steps p.tables e below (T39.setTop (mkF m 148 #[.val (.long o0), .second, .val (.long o1), .second, .val (.long r), .second, .val (.long en), .second, .val (.int se), .val (.long f0), .second, .val (.long f1), .second, .val (.int qu), .val (.long r0), .second, .val (.long r1), .second, .val (.ref b), .val (.ref b2), .val (.ref t), .val (.long (own_lag (if qu = (0 : Int32) then f0 else f1) en)), .second, .unset, .unset] [])) _
    refine XS.iload X39.here hx rfl (hb hby at_148) rfl ?_
    exact Steps.refl _
  obtain ⟨mi, h_mi, S43⟩ : ∃ (mi : Int64), mi = (if qu = (0 : Int32) then f0 else f1) ∧ Steps p.tables e below Ω (T39.setTop (mkF m 160 #[.val (.long o0), .second, .val (.long o1), .second, .val (.long r), .second, .val (.long en), .second, .val (.int se), .val (.long f0), .second, .val (.long f1), .second, .val (.int qu), .val (.long r0), .second, .val (.long r1), .second, .val (.ref b), .val (.ref b2), .val (.ref t), .val (.long (own_lag (if qu = (0 : Int32) then f0 else f1) en)), .second, .unset, .unset] [(.long mi)])) := by
    by_cases c42 : qu = (0 : Int32)
    · refine ⟨f0, (by rw [if_pos c42]), S41.trans ?_⟩
      refine XS.ifNo X39.here hx rfl (hb hby at_150) rfl (XT.i0_ne_f c42) ?_
      show Steps p.tables e below (T39.setTop (mkF m 153 #[.val (.long o0), .second, .val (.long o1), .second, .val (.long r), .second, .val (.long en), .second, .val (.int se), .val (.long f0), .second, .val (.long f1), .second, .val (.int qu), .val (.long r0), .second, .val (.long r1), .second, .val (.ref b), .val (.ref b2), .val (.ref t), .val (.long (own_lag (if qu = (0 : Int32) then f0 else f1) en)), .second, .unset, .unset] [])) _
      refine XS.lload X39.here hx rfl (hb hby at_153) rfl ?_
      show Steps p.tables e below (T39.setTop (mkF m 155 #[.val (.long o0), .second, .val (.long o1), .second, .val (.long r), .second, .val (.long en), .second, .val (.int se), .val (.long f0), .second, .val (.long f1), .second, .val (.int qu), .val (.long r0), .second, .val (.long r1), .second, .val (.ref b), .val (.ref b2), .val (.ref t), .val (.long (own_lag (if qu = (0 : Int32) then f0 else f1) en)), .second, .unset, .unset] [(.long f0)])) _
      refine XS.goto X39.here hx rfl (pc0 := 155) (pc' := 160) rfl (hb hby at_155) (by decide) (by decide) ?_
      exact Steps.refl _
    · refine ⟨f1, (by rw [if_neg c42]), S41.trans ?_⟩
      refine XS.ifYes X39.here hx rfl (pc0 := 150) (pc' := 158) rfl (hb hby at_150) rfl (XT.i0_ne_t c42) (by decide) (by decide) ?_
      show Steps p.tables e below (T39.setTop (mkF m 158 #[.val (.long o0), .second, .val (.long o1), .second, .val (.long r), .second, .val (.long en), .second, .val (.int se), .val (.long f0), .second, .val (.long f1), .second, .val (.int qu), .val (.long r0), .second, .val (.long r1), .second, .val (.ref b), .val (.ref b2), .val (.ref t), .val (.long (own_lag (if qu = (0 : Int32) then f0 else f1) en)), .second, .unset, .unset] [])) _
      refine XS.lload X39.here hx rfl (hb hby at_158) rfl ?_
      exact Steps.refl _
  rw [← h_mi] at S43
  have S44 : Steps p.tables e below Ω (T39.setTop (mkF m 168 #[.val (.long o0), .second, .val (.long o1), .second, .val (.long r), .second, .val (.long en), .second, .val (.int se), .val (.long f0), .second, .val (.long f1), .second, .val (.int qu), .val (.long r0), .second, .val (.long r1), .second, .val (.ref b), .val (.ref b2), .val (.ref t), .val (.long (own_lag mi en)), .second, .val (.long mi), .second] [(.int (lcmpW mi (-1 : Int64)))])) := by
    refine S43.trans ?_
    refine XS.lstore X39.here hx rfl (hb hby at_160) rfl (l' := #[.val (.long o0), .second, .val (.long o1), .second, .val (.long r), .second, .val (.long en), .second, .val (.int se), .val (.long f0), .second, .val (.long f1), .second, .val (.int qu), .val (.long r0), .second, .val (.long r1), .second, .val (.ref b), .val (.ref b2), .val (.ref t), .val (.long (own_lag mi en)), .second, .val (.long mi), .second]) rfl ?_
    show Steps p.tables e below (T39.setTop (mkF m 162 #[.val (.long o0), .second, .val (.long o1), .second, .val (.long r), .second, .val (.long en), .second, .val (.int se), .val (.long f0), .second, .val (.long f1), .second, .val (.int qu), .val (.long r0), .second, .val (.long r1), .second, .val (.ref b), .val (.ref b2), .val (.ref t), .val (.long (own_lag mi en)), .second, .val (.long mi), .second] [])) _
    refine XS.lload X39.here hx rfl (hb hby at_162) rfl ?_
    show Steps p.tables e below (T39.setTop (mkF m 164 #[.val (.long o0), .second, .val (.long o1), .second, .val (.long r), .second, .val (.long en), .second, .val (.int se), .val (.long f0), .second, .val (.long f1), .second, .val (.int qu), .val (.long r0), .second, .val (.long r1), .second, .val (.ref b), .val (.ref b2), .val (.ref t), .val (.long (own_lag mi en)), .second, .val (.long mi), .second] [(.long mi)])) _
    refine X39.ldc2Long hx hown (mvT hZ (hw _ (List.mem_of_getElem? (i := 0) rfl))) (g := (mkF m 164 #[.val (.long o0), .second, .val (.long o1), .second, .val (.long r), .second, .val (.long en), .second, .val (.int se), .val (.long f0), .second, .val (.long f1), .second, .val (.int qu), .val (.long r0), .second, .val (.long r1), .second, .val (.ref b), .val (.ref b2), .val (.ref t), .val (.long (own_lag mi en)), .second, .val (.long mi), .second] [(.long mi)])) rfl (hb hby at_164) _ ?_
    show Steps p.tables e below (T39.setTop (mkF m 167 #[.val (.long o0), .second, .val (.long o1), .second, .val (.long r), .second, .val (.long en), .second, .val (.int se), .val (.long f0), .second, .val (.long f1), .second, .val (.int qu), .val (.long r0), .second, .val (.long r1), .second, .val (.ref b), .val (.ref b2), .val (.ref t), .val (.long (own_lag mi en)), .second, .val (.long mi), .second] [(.long (-1 : Int64)), (.long mi)])) _
    refine XS.lcmp X39.here hx rfl (hb hby at_167) rfl ?_
    exact Steps.refl _
  by_cases hm : mi = (-1 : Int64)
  · have qhm : mi.toInt = (-1) := congrArg Int64.toInt hm
    have S45 : Steps p.tables e below Ω (T39.setTop (mkF m 177 #[.val (.long o0), .second, .val (.long o1), .second, .val (.long r), .second, .val (.long en), .second, .val (.int se), .val (.long f0), .second, .val (.long f1), .second, .val (.int qu), .val (.long r0), .second, .val (.long r1), .second, .val (.ref b), .val (.ref b2), .val (.ref t), .val (.long (own_lag mi en)), .second, .val (.long mi), .second] [(.int (lcmpW (own_lag mi en) (-1 : Int64)))])) := by
      refine S44.trans ?_
      refine XS.ifNo X39.here hx rfl (hb hby at_168) rfl (XT.ll_ne_f hm) ?_
      show Steps p.tables e below (T39.setTop (mkF m 171 #[.val (.long o0), .second, .val (.long o1), .second, .val (.long r), .second, .val (.long en), .second, .val (.int se), .val (.long f0), .second, .val (.long f1), .second, .val (.int qu), .val (.long r0), .second, .val (.long r1), .second, .val (.ref b), .val (.ref b2), .val (.ref t), .val (.long (own_lag mi en)), .second, .val (.long mi), .second] [])) _
      refine XS.lload X39.here hx rfl (hb hby at_171) rfl ?_
      show Steps p.tables e below (T39.setTop (mkF m 173 #[.val (.long o0), .second, .val (.long o1), .second, .val (.long r), .second, .val (.long en), .second, .val (.int se), .val (.long f0), .second, .val (.long f1), .second, .val (.int qu), .val (.long r0), .second, .val (.long r1), .second, .val (.ref b), .val (.ref b2), .val (.ref t), .val (.long (own_lag mi en)), .second, .val (.long mi), .second] [(.long (own_lag mi en))])) _
      refine X39.ldc2Long hx hown (mvT hZ (hw _ (List.mem_of_getElem? (i := 0) rfl))) (g := (mkF m 173 #[.val (.long o0), .second, .val (.long o1), .second, .val (.long r), .second, .val (.long en), .second, .val (.int se), .val (.long f0), .second, .val (.long f1), .second, .val (.int qu), .val (.long r0), .second, .val (.long r1), .second, .val (.ref b), .val (.ref b2), .val (.ref t), .val (.long (own_lag mi en)), .second, .val (.long mi), .second] [(.long (own_lag mi en))])) rfl (hb hby at_173) _ ?_
      show Steps p.tables e below (T39.setTop (mkF m 176 #[.val (.long o0), .second, .val (.long o1), .second, .val (.long r), .second, .val (.long en), .second, .val (.int se), .val (.long f0), .second, .val (.long f1), .second, .val (.int qu), .val (.long r0), .second, .val (.long r1), .second, .val (.ref b), .val (.ref b2), .val (.ref t), .val (.long (own_lag mi en)), .second, .val (.long mi), .second] [(.long (-1 : Int64)), (.long (own_lag mi en))])) _
      refine XS.lcmp X39.here hx rfl (hb hby at_176) rfl ?_
      exact Steps.refl _
    have S46 : Steps p.tables e below Ω (T39.setTop (mkF m 185 #[.val (.long o0), .second, .val (.long o1), .second, .val (.long r), .second, .val (.long en), .second, .val (.int se), .val (.long f0), .second, .val (.long f1), .second, .val (.int qu), .val (.long r0), .second, .val (.long r1), .second, .val (.ref b), .val (.ref b2), .val (.ref t), .val (.long (own_lag mi en)), .second, .val (.long mi), .second] [(.int (1 : Int32))])) := by
      refine S45.trans ?_
      refine XS.ifNo X39.here hx rfl (hb hby at_177) rfl (XT.ll_ne_f (by rw [own_lag, if_pos hm])) ?_
      show Steps p.tables e below (T39.setTop (mkF m 180 #[.val (.long o0), .second, .val (.long o1), .second, .val (.long r), .second, .val (.long en), .second, .val (.int se), .val (.long f0), .second, .val (.long f1), .second, .val (.int qu), .val (.long r0), .second, .val (.long r1), .second, .val (.ref b), .val (.ref b2), .val (.ref t), .val (.long (own_lag mi en)), .second, .val (.long mi), .second] [])) _
      refine XS.iconst X39.here hx rfl (hb hby at_180) ?_
      show Steps p.tables e below (T39.setTop (mkF m 181 #[.val (.long o0), .second, .val (.long o1), .second, .val (.long r), .second, .val (.long en), .second, .val (.int se), .val (.long f0), .second, .val (.long f1), .second, .val (.int qu), .val (.long r0), .second, .val (.long r1), .second, .val (.ref b), .val (.ref b2), .val (.ref t), .val (.long (own_lag mi en)), .second, .val (.long mi), .second] [(.int (1 : Int32))])) _
      refine XS.goto X39.here hx rfl (pc0 := 181) (pc' := 185) rfl (hb hby at_181) (by decide) (by decide) ?_
      exact Steps.refl _
    obtain ⟨fs, hr, hrun, hended, hend⟩ := Stand.leaveW (s := s) (vm₁ := T36.vm) X39 hS36 (by rw [e39]; exact (Nat.le_refl _)) (v := some (.int (1 : Int32))) (fun h => by rw [Bd.returns] at h; cases h)
    have hfin : Steps p.tables e below Ω (T39.setFrames fs) := by
      refine S46.trans ?_
      exact own_retZ X39 hx Bd.returns (by decide) (hb hby at_185) hr
    rw [hΩ] at hfin
    refine ⟨_, _, hfin, hrun, hended, _, _, rfl, ?_, hend.1, hend.2.1, hend.2.2.1, hend.2.2.2.mono (by decide) (by decide)⟩
    show Q0 Z o0 o1 r en se h0 n0 _ T39.heap _
    rw [e39]
    exact ⟨rfl, N39⟩
  · have qhm : ¬ mi.toInt = (-1) := fun q => hm (Int64.toInt_inj.mp q)
    have S47 : Steps p.tables e below Ω (T39.setTop (mkF m 194 #[.val (.long o0), .second, .val (.long o1), .second, .val (.long r), .second, .val (.long en), .second, .val (.int se), .val (.long f0), .second, .val (.long f1), .second, .val (.int qu), .val (.long r0), .second, .val (.long r1), .second, .val (.ref b), .val (.ref b2), .val (.ref t), .val (.long (own_lag mi en)), .second, .val (.long mi), .second] [(.int (lcmpW ((own_lag mi en) + mi) en))])) := by
      refine S44.trans ?_
      refine XS.ifYes X39.here hx rfl (pc0 := 168) (pc' := 186) rfl (hb hby at_168) rfl (XT.ll_ne_t hm) (by decide) (by decide) ?_
      show Steps p.tables e below (T39.setTop (mkF m 186 #[.val (.long o0), .second, .val (.long o1), .second, .val (.long r), .second, .val (.long en), .second, .val (.int se), .val (.long f0), .second, .val (.long f1), .second, .val (.int qu), .val (.long r0), .second, .val (.long r1), .second, .val (.ref b), .val (.ref b2), .val (.ref t), .val (.long (own_lag mi en)), .second, .val (.long mi), .second] [])) _
      refine XS.lload X39.here hx rfl (hb hby at_186) rfl ?_
      show Steps p.tables e below (T39.setTop (mkF m 188 #[.val (.long o0), .second, .val (.long o1), .second, .val (.long r), .second, .val (.long en), .second, .val (.int se), .val (.long f0), .second, .val (.long f1), .second, .val (.int qu), .val (.long r0), .second, .val (.long r1), .second, .val (.ref b), .val (.ref b2), .val (.ref t), .val (.long (own_lag mi en)), .second, .val (.long mi), .second] [(.long (own_lag mi en))])) _
      refine XS.lload X39.here hx rfl (hb hby at_188) rfl ?_
      show Steps p.tables e below (T39.setTop (mkF m 190 #[.val (.long o0), .second, .val (.long o1), .second, .val (.long r), .second, .val (.long en), .second, .val (.int se), .val (.long f0), .second, .val (.long f1), .second, .val (.int qu), .val (.long r0), .second, .val (.long r1), .second, .val (.ref b), .val (.ref b2), .val (.ref t), .val (.long (own_lag mi en)), .second, .val (.long mi), .second] [(.long mi), (.long (own_lag mi en))])) _
      refine XS.ladd X39.here hx rfl (hb hby at_190) rfl ?_
      show Steps p.tables e below (T39.setTop (mkF m 191 #[.val (.long o0), .second, .val (.long o1), .second, .val (.long r), .second, .val (.long en), .second, .val (.int se), .val (.long f0), .second, .val (.long f1), .second, .val (.int qu), .val (.long r0), .second, .val (.long r1), .second, .val (.ref b), .val (.ref b2), .val (.ref t), .val (.long (own_lag mi en)), .second, .val (.long mi), .second] [(.long ((own_lag mi en) + mi))])) _
      refine XS.lload X39.here hx rfl (hb hby at_191) rfl ?_
      show Steps p.tables e below (T39.setTop (mkF m 193 #[.val (.long o0), .second, .val (.long o1), .second, .val (.long r), .second, .val (.long en), .second, .val (.int se), .val (.long f0), .second, .val (.long f1), .second, .val (.int qu), .val (.long r0), .second, .val (.long r1), .second, .val (.ref b), .val (.ref b2), .val (.ref t), .val (.long (own_lag mi en)), .second, .val (.long mi), .second] [(.long en), (.long ((own_lag mi en) + mi))])) _
      refine XS.lcmp X39.here hx rfl (hb hby at_193) rfl ?_
      exact Steps.refl _
    have S48 : Steps p.tables e below Ω (T39.setTop (mkF m 202 #[.val (.long o0), .second, .val (.long o1), .second, .val (.long r), .second, .val (.long en), .second, .val (.int se), .val (.long f0), .second, .val (.long f1), .second, .val (.int qu), .val (.long r0), .second, .val (.long r1), .second, .val (.ref b), .val (.ref b2), .val (.ref t), .val (.long (own_lag mi en)), .second, .val (.long mi), .second] [(.int (1 : Int32))])) := by
      refine S47.trans ?_
      refine XS.ifNo X39.here hx rfl (hb hby at_194) rfl (XT.ll_ne_f (own_back mi en hm)) ?_
      show Steps p.tables e below (T39.setTop (mkF m 197 #[.val (.long o0), .second, .val (.long o1), .second, .val (.long r), .second, .val (.long en), .second, .val (.int se), .val (.long f0), .second, .val (.long f1), .second, .val (.int qu), .val (.long r0), .second, .val (.long r1), .second, .val (.ref b), .val (.ref b2), .val (.ref t), .val (.long (own_lag mi en)), .second, .val (.long mi), .second] [])) _
      refine XS.iconst X39.here hx rfl (hb hby at_197) ?_
      show Steps p.tables e below (T39.setTop (mkF m 198 #[.val (.long o0), .second, .val (.long o1), .second, .val (.long r), .second, .val (.long en), .second, .val (.int se), .val (.long f0), .second, .val (.long f1), .second, .val (.int qu), .val (.long r0), .second, .val (.long r1), .second, .val (.ref b), .val (.ref b2), .val (.ref t), .val (.long (own_lag mi en)), .second, .val (.long mi), .second] [(.int (1 : Int32))])) _
      refine XS.goto X39.here hx rfl (pc0 := 198) (pc' := 202) rfl (hb hby at_198) (by decide) (by decide) ?_
      exact Steps.refl _
    obtain ⟨fs, hr, hrun, hended, hend⟩ := Stand.leaveW (s := s) (vm₁ := T36.vm) X39 hS36 (by rw [e39]; exact (Nat.le_refl _)) (v := some (.int (1 : Int32))) (fun h => by rw [Bd.returns] at h; cases h)
    have hfin : Steps p.tables e below Ω (T39.setFrames fs) := by
      refine S48.trans ?_
      exact own_retZ X39 hx Bd.returns (by decide) (hb hby at_202) hr
    rw [hΩ] at hfin
    refine ⟨_, _, hfin, hrun, hended, _, _, rfl, ?_, hend.1, hend.2.1, hend.2.2.1, hend.2.2.2.mono (by decide) (by decide)⟩
    show Q0 Z o0 o1 r en se h0 n0 _ T39.heap _
    rw [e39]
    exact ⟨rfl, N39⟩
set_option maxRecDepth 65536 in
set_option maxHeartbeats 40000000 in
theorem comes_1 {Post : Tables → Env → Array Value → State → Outcome → State → Prop} (hpost : ∀ tb e args s v u, (limb_1_1.after args s (.returned v) u = true ∧ limb_1_2.after args s (.returned v) u = true ∧ True) → ReturnedEndW s (.returned v) u (Jvm.fieldLocs frame_1_writes args s ++ Jvm.arrayLocs frame_1_arrays args s ++ Jvm.staticLocs frame_1_statics s) 24 2176 → Post tb e args s (.returned v) u) :
    ArmFor flags0 classFile x code maxLocals ret World_1 tables_1 room_1 Calls_1 rest_1 Pre_1 Post := by
  intro l hfl _ _ p e ha hc hk s m args below hf hA hF happ hP
  obtain ⟨hcalls, hrest, hpre⟩ := hP
  obtain ⟨-, -, -, hnamed, -, -, -, hat⟩ := (Spec.applies_iff hf).mp happ
  obtain ⟨hg, hn⟩ := and_e (Cond.before_iff.mp (show (Jvm.Cond.and given_1 narrow_1).before args s = true from hpre))
  obtain ⟨gc, g0⟩ := and_e hg
  obtain ⟨k0, g1⟩ := and_e g0
  obtain ⟨k1, g2⟩ := and_e g1
  obtain ⟨k2, g3⟩ := and_e g2
  obtain ⟨k3, g4⟩ := and_e g3
  obtain ⟨w0, w1, w2, w3, w4, rfl⟩ : ∃ w0 w1 w2 w3 w4 : Value, args = #[w0, w1, w2, w3, w4] := by
    have hs : args.size = 5 := by simpa [Cond.value, given_1] using gc
    obtain ⟨L⟩ := args
    match L, hs with
    | [w0, w1, w2, w3, w4], _ => exact ⟨w0, w1, w2, w3, w4, rfl⟩
  have hw := fun d (hd : d ∈ tables_1) => atoms_spec (ws := Jvm.Cond.code x code maxLocals ret :: tables_1) hat d (List.mem_cons_of_mem _ hd)
  have hfit : Fit s := fun {y c} hc i hi => by
    obtain ⟨ha, rfl⟩ := Array.getElem?_eq_some_iff.mp hc
    have q := List.all_eq_true.mp ((Array.all_eq_true_iff_forall_mem.mp hF) _ (Array.getElem_mem ha)) i (List.mem_range.mpr hi)
    simpa [Array.getElem?_eq_getElem hi] using q
  obtain ⟨i0, ei0⟩ := isL_v k0
  obtain rfl : w0 = (.long i0) := Option.some.inj ei0
  obtain ⟨i1, ei1⟩ := isL_v k1
  obtain rfl : w1 = (.long i1) := Option.some.inj ei1
  obtain ⟨i2, ei2⟩ := isL_v k2
  obtain rfl : w2 = (.long i2) := Option.some.inj ei2
  obtain ⟨i3, ei3⟩ := isL_v k3
  obtain rfl : w3 = (.long i3) := Option.some.inj ei3
  obtain ⟨i4, ei4⟩ := is_v g4
  obtain rfl : w4 = (.int i4) := Option.some.inj ei4
  obtain ⟨n, o, h1, h2, h3, _, L, rfl, ⟨rfl, N⟩, hq⟩ := rm0 l s _ hw tables_1 i0 i1 i2 i3 i4  s.heap s.heap.size (Nat.le_refl _)  p e ha hc hk s m _ below hf ((Spec.applies_iff_loose hf).mp happ).1 ⟨rfl, State.Warmed39.refl s, rfl⟩ trivial
  refine ⟨n, _, h1, h2, h3, hpost _ _ _ _ _ _ ⟨Cond.after_iff.mpr rfl, Cond.after_iff.mpr (eq_i res_at (Term.int_eval (1)) rfl), trivial⟩ ⟨hq.1, hq.2.1, hq.2.2.1, (hq.2.2.2.sift fun y hy => Or.inr (N y hy)).mono (by decide) (by decide)⟩⟩
theorem main_1_1 : Claimed_1_1 := comes_1 fun _ _ _ _ _ _ h hF => ⟨h.1, hF⟩
theorem main_1_2 : Claimed_1_2 := comes_1 fun _ _ _ _ _ _ h hF => ⟨h.2.1, hF⟩
end Jvm.Pilot.@@N@@
namespace Jvm.Pilot.@@N@@
open Jvm Jvm.ClassFile Sem Op Lib Jvm.Free Jvm.Stand Jvm.Pilot.@@N@@.Jvm.D
/-! MADE BY PROGRAM (witnessworld.py) out of the Statement's table words and the real class files: 17 classes; the members and pool entries that the words name. The judged class is class 1, her method 1. -/
namespace start1
open Jvm.ClassFile
def u (s : String) : CpInfo := .utf8 (stringToUtf16 s)
/-- a pool by its gaps: so many unusable entries, then the entry; so many at the end -/
def gap : Nat → List CpInfo → List CpInfo
  | 0, r => r
  | n + 1, r => .unusable :: gap n r
def poolList (es : List (Nat × CpInfo)) (last : Nat) : List CpInfo := es.foldr (fun e r => gap e.1 (e.2 :: r)) (gap last [])
def pool (es : List (Nat × CpInfo)) (last : Nat) : Array CpInfo := ⟨poolList es last⟩
def fileOf (pool : Array CpInfo) (this : Nat) (attrs : Array Attribute := #[]) (ms : Array MethodInfo := #[]) (fl : Nat := 33) (sup : Nat := 0) (ifs : Array Nat := #[]) (fds : Array FieldInfo := #[]) : ClassFile where
  minorVersion := 0
  majorVersion := 65
  constantPool := pool
  accessFlags := fl
  thisClass := this
  superClass := sup
  interfaces := ifs
  fields := fds
  methods := ms
  attributes := attrs
def plain (name : String) (sup : Option ClassId) : Class where
  name := name
  kind := .ordinary
  loader := none
  accessFlags := 33
  super := sup
  interfaces := #[]
  cf := none
  fields := #[]
  methods := #[]
  instanceTypes := #[]
  staticTypes := #[]
  resolved := #[]
  callSites := []
  init := .initialized
  statics := none
  mirror := none

def pool0 : Array CpInfo := pool [(5, u "<init>"), (0, u "()V"), (1, .class_ 10), (1, u "java/lang/Object"), (85, u "clone"), (0, u "()Ljava/lang/Object;")] 26

def k0c0 : Code := { maxStack := 0, maxLocals := 1, code := object_method_1_code, exceptionTable := #[], attributes := #[] }
def k0m0 : Method := { name := "<init>", desc := "()V", sig := { parameters := [], returnType := none }, accessFlags := 1, code := some k0c0 }
def k0m1 : Method := { name := "clone", desc := "()Ljava/lang/Object;", sig := { parameters := [], returnType := some (.object "java/lang/Object") }, accessFlags := 260, code := none }
/-- java/lang/Object -/
def k0 : Class := { plain "java/lang/Object" none with
  accessFlags := 33
  interfaces := #[]
  cf := some (fileOf pool0 8 #[] #[{ accessFlags := 1, nameIndex := 5, descriptorIndex := 6, attributes := #[] }, { accessFlags := 260, nameIndex := 96, descriptorIndex := 97, attributes := #[] }] 33 0 #[] #[])
  fields := #[]
  methods := #[k0m0, k0m1]
  instanceTypes := #[]
  staticTypes := #[]
  resolved := Array.replicate 124 none
  statics := none }

def pool1 : Array CpInfo := pool [(2, .class_ 4), (1, u "java/lang/Object"), (0, u "<init>"), (0, u "()V"), (0, .class_ 8), (0, u "com/example/ingest/ingest/common/GroupProgress"), (0, .long 18446744073709551615), (3, .long 9223372036854775807), (1, .methodref 7 16), (0, .nameAndType 5 17), (0, u "([J[J)V"), (0, .methodref 7 19), (0, .nameAndType 20 21), (0, u "lag"), (0, u "(IJ)J"), (0, .class_ 23), (0, u "com/example/ingest/ingest/common/GroupProgressLagPinLaw"), (2, u "law"), (0, u "(JJJJI)Z")] 5

def k1m0 : Method := { name := "<init>", desc := "()V", sig := { parameters := [], returnType := none }, accessFlags := 1, code := none }
def k1c1 : Code := { maxStack := 5, maxLocals := 25, code := code, exceptionTable := #[], attributes := #[] }
def k1m1 : Method := { name := "law", desc := "(JJJJI)Z", sig := { parameters := [.long, .long, .long, .long, .int], returnType := some .boolean }, accessFlags := 9, code := some k1c1 }
/-- com/example/ingest/ingest/common/GroupProgressLagPinLaw -/
def k1 : Class := { plain "com/example/ingest/ingest/common/GroupProgressLagPinLaw" (some 0) with
  accessFlags := 49
  interfaces := #[]
  cf := some (fileOf pool1 22 #[] #[{ accessFlags := 1, nameIndex := 5, descriptorIndex := 6, attributes := #[] }, { accessFlags := 9, nameIndex := 26, descriptorIndex := 27, attributes := #[] }] 49 2 #[] #[])
  fields := #[]
  methods := #[k1m0, k1m1]
  instanceTypes := #[]
  staticTypes := #[]
  resolved := Array.replicate 33 none
  statics := none }

def pool2 : Array CpInfo := pool [(2, .class_ 4), (1, u "com/example/ingest/ingest/common/GroupProgress"), (4, u "<init>"), (0, u "([J[J)V"), (0, .methodref 12 13), (0, .class_ 14), (0, .nameAndType 9 15), (0, u "java/lang/Object"), (0, u "()V"), (0, .methodref 17 18), (0, .class_ 19), (0, .nameAndType 20 21), (0, u "com/example/ingest/ingest/common/Protocol"), (0, u "checkQueueCount"), (0, u "(I)I"), (9, .string 32), (0, u "offset"), (0, .methodref 2 34), (0, .nameAndType 35 36), (0, u "checkOffsets"), (0, u "(Ljava/lang/String;[J)V"), (0, .string 38), (0, u "retry offset"), (0, .methodref 40 41), (0, .class_ 42), (0, .nameAndType 43 44), (0, u "[J"), (0, u "clone"), (0, u "()Ljava/lang/Object;"), (0, .fieldref 2 46), (0, .nameAndType 47 42), (0, u "offsets"), (0, .fieldref 2 49), (0, .nameAndType 50 42), (0, u "retryOffsets"), (3, .long 18446744073709551615), (9, u "lag"), (0, u "(IJ)J"), (44, u "NONE"), (0, u "J")] 51

def k2c0 : Code := { maxStack := 4, maxLocals := 3, code := prog_27_method_2_code, exceptionTable := #[], attributes := #[] }
def k2m0 : Method := { name := "<init>", desc := "([J[J)V", sig := { parameters := [(.array .long), (.array .long)], returnType := none }, accessFlags := 1, code := some k2c0 }
def k2c1 : Code := { maxStack := 4, maxLocals := 6, code := prog_27_method_7_code, exceptionTable := #[], attributes := #[] }
def k2m1 : Method := { name := "lag", desc := "(IJ)J", sig := { parameters := [.int, .long], returnType := some .long }, accessFlags := 1, code := some k2c1 }
def k2c2 : Code := { maxStack := 6, maxLocals := 3, code := prog_27_method_13_code, exceptionTable := #[], attributes := #[] }
def k2m2 : Method := { name := "checkOffsets", desc := "(Ljava/lang/String;[J)V", sig := { parameters := [(.object "java/lang/String"), (.array .long)], returnType := none }, accessFlags := 10, code := some k2c2 }
/-- com/example/ingest/ingest/common/GroupProgress -/
def k2 : Class := { plain "com/example/ingest/ingest/common/GroupProgress" (some 0) with
  accessFlags := 49
  interfaces := #[]
  cf := some (fileOf pool2 2 #[] #[{ accessFlags := 1, nameIndex := 9, descriptorIndex := 10, attributes := #[] }, { accessFlags := 1, nameIndex := 64, descriptorIndex := 65, attributes := #[] }, { accessFlags := 10, nameIndex := 35, descriptorIndex := 36, attributes := #[] }] 49 12 #[] #[{ accessFlags := 25, nameIndex := 110, descriptorIndex := 111, attributes := #[] }, { accessFlags := 18, nameIndex := 47, descriptorIndex := 42, attributes := #[] }, { accessFlags := 18, nameIndex := 50, descriptorIndex := 42, attributes := #[] }])
  fields := #[{ name := "NONE", type := .long, accessFlags := 25, slot := 0, constantValue := 0 }, { name := "offsets", type := (.array .long), accessFlags := 18, slot := 0, constantValue := 0 }, { name := "retryOffsets", type := (.array .long), accessFlags := 18, slot := 1, constantValue := 0 }]
  methods := #[k2m0, k2m1, k2m2]
  instanceTypes := #[(.array .long), (.array .long)]
  staticTypes := #[.long]
  resolved := Array.replicate 163 none
  statics := none }

def pool3 : Array CpInfo := pool [(1, .class_ 2), (0, u "com/example/ingest/ingest/common/Protocol"), (1, .class_ 6), (1, u "java/lang/Object"), (0, u "<init>"), (0, u "()V"), (38, u "(I)I"), (72, u "VERSION"), (0, u "I"), (2, u "MAX_FRAME_BYTES"), (1, u "MAX_BODY_BYTES"), (0, u "MAX_TAG_BYTES"), (1, u "MAX_PROPERTIES"), (1, u "MAX_PROPERTY_NAME_BYTES"), (1, u "MAX_PROPERTY_VALUE_BYTES"), (1, u "MAX_QUEUES"), (1, u "MAX_PULL_MESSAGES"), (1, u "PULL_BATCH_BYTES"), (1, u "MAX_PULL_HOLD_MILLIS"), (1, u "MAX_HELD_PULLS"), (0, u "HEARTBEAT_MILLIS"), (0, u "J"), (2, u "LISTENER_FINISH_MILLIS"), (0, u "CONSUMER_TIMEOUT_MILLIS"), (2, u "MAX_RECONSUME_COUNT"), (1, u "MAX_LISTED"), (3, u "checkQueueCount")] 80

def k3m0 : Method := { name := "<init>", desc := "()V", sig := { parameters := [], returnType := none }, accessFlags := 2, code := none }
def k3c1 : Code := { maxStack := 3, maxLocals := 1, code := prog_45_method_3_code, exceptionTable := #[], attributes := #[] }
def k3m1 : Method := { name := "checkQueueCount", desc := "(I)I", sig := { parameters := [.int], returnType := some .int }, accessFlags := 9, code := some k3c1 }
/-- com/example/ingest/ingest/common/Protocol -/
def k3 : Class := { plain "com/example/ingest/ingest/common/Protocol" (some 0) with
  accessFlags := 49
  interfaces := #[]
  cf := some (fileOf pool3 1 #[] #[{ accessFlags := 2, nameIndex := 7, descriptorIndex := 8, attributes := #[] }, { accessFlags := 9, nameIndex := 158, descriptorIndex := 47, attributes := #[] }] 49 4 #[] #[{ accessFlags := 26, nameIndex := 120, descriptorIndex := 121, attributes := #[] }, { accessFlags := 25, nameIndex := 124, descriptorIndex := 121, attributes := #[] }, { accessFlags := 25, nameIndex := 126, descriptorIndex := 121, attributes := #[] }, { accessFlags := 25, nameIndex := 127, descriptorIndex := 121, attributes := #[] }, { accessFlags := 25, nameIndex := 129, descriptorIndex := 121, attributes := #[] }, { accessFlags := 25, nameIndex := 131, descriptorIndex := 121, attributes := #[] }, { accessFlags := 25, nameIndex := 133, descriptorIndex := 121, attributes := #[] }, { accessFlags := 25, nameIndex := 135, descriptorIndex := 121, attributes := #[] }, { accessFlags := 25, nameIndex := 137, descriptorIndex := 121, attributes := #[] }, { accessFlags := 25, nameIndex := 139, descriptorIndex := 121, attributes := #[] }, { accessFlags := 25, nameIndex := 141, descriptorIndex := 121, attributes := #[] }, { accessFlags := 25, nameIndex := 143, descriptorIndex := 121, attributes := #[] }, { accessFlags := 25, nameIndex := 144, descriptorIndex := 145, attributes := #[] }, { accessFlags := 25, nameIndex := 148, descriptorIndex := 145, attributes := #[] }, { accessFlags := 25, nameIndex := 149, descriptorIndex := 145, attributes := #[] }, { accessFlags := 25, nameIndex := 152, descriptorIndex := 121, attributes := #[] }, { accessFlags := 25, nameIndex := 154, descriptorIndex := 121, attributes := #[] }])
  fields := #[{ name := "VERSION", type := .int, accessFlags := 26, slot := 0, constantValue := 0 }, { name := "MAX_FRAME_BYTES", type := .int, accessFlags := 25, slot := 1, constantValue := 0 }, { name := "MAX_BODY_BYTES", type := .int, accessFlags := 25, slot := 2, constantValue := 0 }, { name := "MAX_TAG_BYTES", type := .int, accessFlags := 25, slot := 3, constantValue := 0 }, { name := "MAX_PROPERTIES", type := .int, accessFlags := 25, slot := 4, constantValue := 0 }, { name := "MAX_PROPERTY_NAME_BYTES", type := .int, accessFlags := 25, slot := 5, constantValue := 0 }, { name := "MAX_PROPERTY_VALUE_BYTES", type := .int, accessFlags := 25, slot := 6, constantValue := 0 }, { name := "MAX_QUEUES", type := .int, accessFlags := 25, slot := 7, constantValue := 0 }, { name := "MAX_PULL_MESSAGES", type := .int, accessFlags := 25, slot := 8, constantValue := 0 }, { name := "PULL_BATCH_BYTES", type := .int, accessFlags := 25, slot := 9, constantValue := 0 }, { name := "MAX_PULL_HOLD_MILLIS", type := .int, accessFlags := 25, slot := 10, constantValue := 0 }, { name := "MAX_HELD_PULLS", type := .int, accessFlags := 25, slot := 11, constantValue := 0 }, { name := "HEARTBEAT_MILLIS", type := .long, accessFlags := 25, slot := 12, constantValue := 0 }, { name := "LISTENER_FINISH_MILLIS", type := .long, accessFlags := 25, slot := 13, constantValue := 0 }, { name := "CONSUMER_TIMEOUT_MILLIS", type := .long, accessFlags := 25, slot := 14, constantValue := 0 }, { name := "MAX_RECONSUME_COUNT", type := .int, accessFlags := 25, slot := 15, constantValue := 0 }, { name := "MAX_LISTED", type := .int, accessFlags := 25, slot := 16, constantValue := 0 }]
  methods := #[k3m0, k3m1]
  instanceTypes := #[]
  staticTypes := #[.int, .int, .int, .int, .int, .int, .int, .int, .int, .int, .int, .int, .long, .long, .long, .int, .int]
  resolved := Array.replicate 239 none
  statics := none }

def pool4 : Array CpInfo := pool [(1, .class_ 2), (0, u "java/io/Serializable"), (0, .class_ 4), (0, u "java/lang/Object")] 2

/-- java/io/Serializable -/
def k4 : Class := { plain "java/io/Serializable" (some 0) with
  accessFlags := 1537
  interfaces := #[]
  cf := some (fileOf pool4 1 #[] #[] 1537 3 #[] #[])
  fields := #[]
  methods := #[]
  instanceTypes := #[]
  staticTypes := #[]
  resolved := Array.replicate 7 none
  statics := none }

def pool5 : Array CpInfo := pool [(1, .class_ 2), (0, u "java/lang/Comparable"), (0, .class_ 4), (0, u "java/lang/Object")] 7

/-- java/lang/Comparable -/
def k5 : Class := { plain "java/lang/Comparable" (some 0) with
  accessFlags := 1537
  interfaces := #[]
  cf := some (fileOf pool5 1 #[] #[] 1537 3 #[] #[])
  fields := #[]
  methods := #[]
  instanceTypes := #[]
  staticTypes := #[]
  resolved := Array.replicate 12 none
  statics := none }

def pool6 : Array CpInfo := pool [(2, .class_ 4), (1, u "java/lang/CharSequence"), (42, .class_ 48), (0, u "java/lang/CharSequence$1CodePointIterator"), (10, .class_ 60), (0, u "java/lang/CharSequence$1CharIterator"), (5, .class_ 67), (0, u "java/lang/Object")] 63

/-- java/lang/CharSequence -/
def k6 : Class := { plain "java/lang/CharSequence" (some 0) with
  accessFlags := 1537
  interfaces := #[]
  cf := some (fileOf pool6 2 #[.nestMembers #[47, 59]] #[] 1537 66 #[] #[])
  fields := #[]
  methods := #[]
  instanceTypes := #[]
  staticTypes := #[]
  resolved := Array.replicate 131 none
  statics := none }

def pool7 : Array CpInfo := pool [(1, .class_ 2), (0, u "java/lang/constant/Constable"), (0, .class_ 4), (0, u "java/lang/Object")] 6

/-- java/lang/constant/Constable -/
def k7 : Class := { plain "java/lang/constant/Constable" (some 0) with
  accessFlags := 1537
  interfaces := #[]
  cf := some (fileOf pool7 1 #[] #[] 1537 3 #[] #[])
  fields := #[]
  methods := #[]
  instanceTypes := #[]
  staticTypes := #[]
  resolved := Array.replicate 11 none
  statics := none }

def pool8 : Array CpInfo := pool [(1, .class_ 2), (0, u "java/lang/constant/ConstantDesc"), (0, .class_ 4), (0, u "java/lang/Object")] 32

/-- java/lang/constant/ConstantDesc -/
def k8 : Class := { plain "java/lang/constant/ConstantDesc" (some 0) with
  accessFlags := 1537
  interfaces := #[]
  cf := some (fileOf pool8 1 #[] #[] 1537 3 #[] #[])
  fields := #[]
  methods := #[]
  instanceTypes := #[]
  staticTypes := #[]
  resolved := Array.replicate 37 none
  statics := none }

def pool9 : Array CpInfo := pool [(2, .class_ 4), (1, u "java/lang/Object"), (0, u "<init>"), (0, u "()V"), (3, .class_ 12), (1, u "java/lang/String"), (0, u "value"), (0, u "[B"), (2, u "coder"), (0, u "B"), (2, u "hash"), (0, u "I"), (2, u "hashIsZero"), (0, u "Z"), (13, u "COMPACT_STRINGS"), (534, .class_ 576), (0, u "java/lang/CharSequence"), (22, u "CASE_INSENSITIVE_ORDER"), (0, u "Ljava/util/Comparator;"), (500, u "serialPersistentFields"), (0, u "[Ljava/io/ObjectStreamField;"), (0, .class_ 1104), (0, u "java/lang/String$CaseInsensitiveComparator"), (1, .class_ 1107), (0, u "java/io/Serializable"), (0, .class_ 1109), (0, u "java/lang/Comparable"), (0, .class_ 1111), (0, u "java/lang/constant/Constable"), (0, .class_ 1113), (0, u "java/lang/constant/ConstantDesc"), (2, u "serialVersionUID"), (0, u "J"), (3, u "REPL"), (0, u "C"), (2, u "LATIN1"), (1, u "UTF16")] 323

def k9m0 : Method := { name := "<init>", desc := "()V", sig := { parameters := [], returnType := none }, accessFlags := 1, code := none }
/-- java/lang/String -/
def k9 : Class := { plain "java/lang/String" (some 0) with
  accessFlags := 49
  interfaces := #[4, 5, 6, 7, 8]
  cf := some (fileOf pool9 10 #[.nestMembers #[1103]] #[{ accessFlags := 1, nameIndex := 5, descriptorIndex := 6, attributes := #[] }] 49 2 #[1106, 1108, 575, 1110, 1112] #[{ accessFlags := 18, nameIndex := 13, descriptorIndex := 14, attributes := #[] }, { accessFlags := 18, nameIndex := 17, descriptorIndex := 18, attributes := #[] }, { accessFlags := 2, nameIndex := 21, descriptorIndex := 22, attributes := #[] }, { accessFlags := 2, nameIndex := 25, descriptorIndex := 26, attributes := #[] }, { accessFlags := 26, nameIndex := 1116, descriptorIndex := 1117, attributes := #[] }, { accessFlags := 24, nameIndex := 40, descriptorIndex := 26, attributes := #[] }, { accessFlags := 26, nameIndex := 1101, descriptorIndex := 1102, attributes := #[] }, { accessFlags := 26, nameIndex := 1121, descriptorIndex := 1122, attributes := #[] }, { accessFlags := 25, nameIndex := 599, descriptorIndex := 600, attributes := #[] }, { accessFlags := 24, nameIndex := 1125, descriptorIndex := 18, attributes := #[] }, { accessFlags := 24, nameIndex := 1127, descriptorIndex := 18, attributes := #[] }])
  fields := #[{ name := "value", type := (.array .byte), accessFlags := 18, slot := 0, constantValue := 0 }, { name := "coder", type := .byte, accessFlags := 18, slot := 1, constantValue := 0 }, { name := "hash", type := .int, accessFlags := 2, slot := 2, constantValue := 0 }, { name := "hashIsZero", type := .boolean, accessFlags := 2, slot := 3, constantValue := 0 }, { name := "serialVersionUID", type := .long, accessFlags := 26, slot := 0, constantValue := 0 }, { name := "COMPACT_STRINGS", type := .boolean, accessFlags := 24, slot := 1, constantValue := 0 }, { name := "serialPersistentFields", type := (.array (.object "java/io/ObjectStreamField")), accessFlags := 26, slot := 2, constantValue := 0 }, { name := "REPL", type := .char, accessFlags := 26, slot := 3, constantValue := 0 }, { name := "CASE_INSENSITIVE_ORDER", type := (.object "java/util/Comparator"), accessFlags := 25, slot := 4, constantValue := 0 }, { name := "LATIN1", type := .byte, accessFlags := 24, slot := 5, constantValue := 0 }, { name := "UTF16", type := .byte, accessFlags := 24, slot := 6, constantValue := 0 }]
  methods := #[k9m0]
  instanceTypes := #[(.array .byte), .byte, .int, .boolean]
  staticTypes := #[.long, .boolean, (.array (.object "java/io/ObjectStreamField")), .char, (.object "java/util/Comparator"), .byte, .byte]
  resolved := Array.replicate 1451 none
  statics := none }

def pool10 : Array CpInfo := pool [(1, .class_ 2), (0, u "java/lang/Cloneable"), (0, .class_ 4), (0, u "java/lang/Object")] 2

/-- java/lang/Cloneable -/
def k10 : Class := { plain "java/lang/Cloneable" (some 0) with
  accessFlags := 1537
  interfaces := #[]
  cf := some (fileOf pool10 1 #[] #[] 1537 3 #[] #[])
  fields := #[]
  methods := #[]
  instanceTypes := #[]
  staticTypes := #[]
  resolved := Array.replicate 7 none
  statics := none }

/-- the primitive byte -/
def k11 : Class := { plain "byte" none with kind := .primitive 'B', accessFlags := 0x411 }
/-- [B -/
def k12 : Class := { plain "[B" (some 0) with kind := .array 11 .byte, interfaces := #[10, 4], accessFlags := 1041 }

/-- the primitive int -/
def k13 : Class := { plain "int" none with kind := .primitive 'I', accessFlags := 0x411 }
/-- [I -/
def k14 : Class := { plain "[I" (some 0) with kind := .array 13 .int, interfaces := #[10, 4], accessFlags := 1041 }

/-- the primitive long -/
def k15 : Class := { plain "long" none with kind := .primitive 'J', accessFlags := 0x411 }
/-- [J -/
def k16 : Class := { plain "[J" (some 0) with kind := .array 15 .long, interfaces := #[10, 4], accessFlags := 1041 }

def heap : Heap := #[]
def classes : Array Class := #[k0, k1, k2, k3, k4, k5, k6, k7, k8, k9, k10, k11, k12, k13, k14, k15, k16]
def interned : List (Array UInt16 × Addr) := []
def slotsUsed : Nat := 0
def theMethod : MethodId := ⟨1, 1⟩
def args0 : Array Value := #[.long 5, .long 300, .long 7, .long 1, .int 3]
def aboutOver (below : List Frame) : State where
  vm := { classes := classes, interned := interned.toArray }
  heap := heap
  slotsUsed := slotsUsed
  threads := #[{ frames := .invoking theMethod args0 :: below }]
def below0 : List Frame := [.native { method := ⟨0, 0⟩, args := #[] }]
def about1 : State := aboutOver below0
def p0 : Program := .bare "" "" ""
def e0 : Env := launch0.env 0 0 0
theorem w_frames : about1.frames = Frame.invoking theMethod args0 :: below0 := rfl
set_option maxRecDepth 65536 in
theorem w_args : argsFit about1.vm theMethod args0 = true := by decide +kernel
set_option maxRecDepth 65536 in
theorem w_heap : heapFits about1 = true := by decide +kernel
set_option maxRecDepth 65536 in
theorem w_runnable : about1.curStatus? = some .runnable := by decide +kernel
set_option maxRecDepth 65536 in
theorem w_alone : about1.alone = true := by decide +kernel
set_option maxRecDepth 65536 in
theorem w_named : about1.methodNamed? x = some theMethod := by decide +kernel
set_option maxRecDepth 65536 in
theorem w_hears : about1.hears theMethod below0 = true := by decide +kernel
set_option maxRecDepth 65536 in
theorem w_ripe : about1.ripe theMethod args0 below0 = true := by decide +kernel
theorem w_running : about1.status = .running := rfl
set_option maxRecDepth 65536 in
theorem w_room : about1.hasRoom e0.platform room_1 = true :=
  launch0.hasRoom_least _ room_1 (by decide +kernel) (by decide +kernel) (by decide +kernel) (by decide +kernel) (by decide +kernel) (by decide +kernel)
theorem allAtoms_all (ts : List Jvm.Cond) (a : Array Jvm.Value) (st : Jvm.State) : (allAtoms ts).before a st = ts.all (fun c => c.before a st) := by
  induction ts with
  | nil => rfl
  | cons c t ih =>
    show (Jvm.Cond.and c (allAtoms t)).before a st = _
    rw [Jvm.Cond.before_and, ih, List.all_cons]
def words1 : List Jvm.Cond := Jvm.Cond.code x code maxLocals ret :: tables_1
/-- a 'code' word, met by the world's own term for the bytes: nothing is compared byte by byte -/
theorem code_word {y : MethodName} {bytes : ByteArray} {mx : Nat} {rt : Option FieldType} {a : Array Value} {s : State} {m : MethodId} {meth : Method} {c : Code} (h1 : s.methodNamed? y = some m) (h2 : s.vm.method? m = some meth) (h3 : meth.code = some c) (h4 : c.code = bytes)
    (h5 : (c.maxLocals == mx && c.exceptionTable.isEmpty && decide (c.maxStack ≤ mostOperands) && decide (meth.sig.returnType = rt) && !meth.locks && decide (parseMethodDescriptor y.desc = some meth.sig)) = true) : (Jvm.Cond.code y bytes mx rt).before a s = true := by
  simp only [Bool.and_eq_true, beq_iff_eq, Bool.not_eq_true', decide_eq_true_eq] at h5
  obtain ⟨⟨⟨⟨⟨g1, g2⟩, g3⟩, g4⟩, g5⟩, g6⟩ := h5
  simp [Cond.before, Cond.holds, Cond.value, h1, h2, h3, h4, g1, g2, g3, g4, g5, g6]
def isCode : Jvm.Cond → Bool
  | .code _ _ _ _ => true
  | _ => false
theorem all_split {L : List Jvm.Cond} {P : Jvm.Cond → Bool} (h1 : L.all (fun c => isCode c || P c) = true) (h2 : ∀ c ∈ L.filter isCode, P c = true) : L.all P = true := by
  refine List.all_eq_true.mpr fun c hc => ?_
  have h := List.all_eq_true.mp h1 c hc
  rcases Bool.eq_false_or_eq_true (isCode c) with hi | hi
  · exact h2 c (List.mem_filter.mpr ⟨hc, hi⟩)
  · simpa [hi] using h
set_option maxRecDepth 65536 in
theorem w_c0 : (Jvm.Cond.code x code maxLocals ret).before args0 about1 = true := code_word (m := ⟨1, 1⟩) (meth := k1m1) (c := k1c1) (by decide +kernel) rfl rfl rfl (by decide +kernel)
set_option maxRecDepth 65536 in
theorem w_c1 : (Jvm.Cond.code ({ cls := "com/example/ingest/ingest/common/GroupProgress", name := "<init>", desc := "([J[J)V" } : Jvm.MethodName) prog_27_method_2_code (3 : Nat) (Option.none : Option Jvm.ClassFile.FieldType)).before args0 about1 = true := code_word (m := ⟨2, 0⟩) (meth := k2m0) (c := k2c0) (by decide +kernel) rfl rfl rfl (by decide +kernel)
set_option maxRecDepth 65536 in
theorem w_c2 : (Jvm.Cond.code ({ cls := "java/lang/Object", name := "<init>", desc := "()V" } : Jvm.MethodName) object_method_1_code (1 : Nat) (Option.none : Option Jvm.ClassFile.FieldType)).before args0 about1 = true := code_word (m := ⟨0, 0⟩) (meth := k0m0) (c := k0c0) (by decide +kernel) rfl rfl rfl (by decide +kernel)
set_option maxRecDepth 65536 in
theorem w_c3 : (Jvm.Cond.code ({ cls := "com/example/ingest/ingest/common/Protocol", name := "checkQueueCount", desc := "(I)I" } : Jvm.MethodName) prog_45_method_3_code (1 : Nat) (Option.some Jvm.ClassFile.FieldType.int)).before args0 about1 = true := code_word (m := ⟨3, 1⟩) (meth := k3m1) (c := k3c1) (by decide +kernel) rfl rfl rfl (by decide +kernel)
set_option maxRecDepth 65536 in
theorem w_c4 : (Jvm.Cond.code ({ cls := "com/example/ingest/ingest/common/GroupProgress", name := "checkOffsets", desc := "(Ljava/lang/String;[J)V" } : Jvm.MethodName) prog_27_method_13_code (3 : Nat) (Option.none : Option Jvm.ClassFile.FieldType)).before args0 about1 = true := code_word (m := ⟨2, 2⟩) (meth := k2m2) (c := k2c2) (by decide +kernel) rfl rfl rfl (by decide +kernel)
set_option maxRecDepth 65536 in
theorem w_c5 : (Jvm.Cond.code ({ cls := "com/example/ingest/ingest/common/GroupProgress", name := "lag", desc := "(IJ)J" } : Jvm.MethodName) prog_27_method_7_code (6 : Nat) (Option.some Jvm.ClassFile.FieldType.long)).before args0 about1 = true := code_word (m := ⟨2, 1⟩) (meth := k2m1) (c := k2c1) (by decide +kernel) rfl rfl rfl (by decide +kernel)
def codes1 : List Jvm.Cond := [Jvm.Cond.code x code maxLocals ret, Jvm.Cond.code ({ cls := "com/example/ingest/ingest/common/GroupProgress", name := "<init>", desc := "([J[J)V" } : Jvm.MethodName) prog_27_method_2_code (3 : Nat) (Option.none : Option Jvm.ClassFile.FieldType), Jvm.Cond.code ({ cls := "java/lang/Object", name := "<init>", desc := "()V" } : Jvm.MethodName) object_method_1_code (1 : Nat) (Option.none : Option Jvm.ClassFile.FieldType), Jvm.Cond.code ({ cls := "com/example/ingest/ingest/common/Protocol", name := "checkQueueCount", desc := "(I)I" } : Jvm.MethodName) prog_45_method_3_code (1 : Nat) (Option.some Jvm.ClassFile.FieldType.int), Jvm.Cond.code ({ cls := "com/example/ingest/ingest/common/GroupProgress", name := "checkOffsets", desc := "(Ljava/lang/String;[J)V" } : Jvm.MethodName) prog_27_method_13_code (3 : Nat) (Option.none : Option Jvm.ClassFile.FieldType), Jvm.Cond.code ({ cls := "com/example/ingest/ingest/common/GroupProgress", name := "lag", desc := "(IJ)J" } : Jvm.MethodName) prog_27_method_7_code (6 : Nat) (Option.some Jvm.ClassFile.FieldType.long)]
set_option maxRecDepth 65536 in
theorem codes_eq : words1.filter isCode = codes1 := rfl
theorem w_codes : ∀ c ∈ words1.filter isCode, c.before args0 about1 = true := by
  rw [codes_eq]
  intro c hc
  simp only [codes1, List.mem_cons, List.not_mem_nil, or_false] at hc
  rcases hc with rfl | rfl | rfl | rfl | rfl | rfl
  · exact w_c0
  · exact w_c1
  · exact w_c2
  · exact w_c3
  · exact w_c4
  · exact w_c5
set_option maxRecDepth 65536 in
theorem w_t1 : (words1.take 24).all (fun c => isCode c || c.before args0 about1) = true := by decide +kernel
set_option maxRecDepth 65536 in
theorem w_t2 : (words1.drop 24).all (fun c => isCode c || c.before args0 about1) = true := by decide +kernel
theorem w_tables : (allAtoms (Jvm.Cond.code x code maxLocals ret :: tables_1)).before args0 about1 = true := by
  rw [allAtoms_all]
  show words1.all (fun c => c.before args0 about1) = true
  refine all_split ?_ w_codes
  rw [← List.take_append_drop 24 words1, List.all_append, w_t1, w_t2]
  rfl
set_option maxRecDepth 65536 in
theorem w_case : (Jvm.Cond.and given_1 narrow_1).before args0 about1 = true := by decide +kernel
theorem w_applies : (headSpec (Jvm.Cond.code x code maxLocals ret :: tables_1) room_1).applies x e0.platform about1 = true :=
  (Spec.applies_iff w_frames).mpr ⟨w_running, w_runnable, w_alone, w_named, w_hears, w_ripe, w_room, w_tables⟩
theorem atStart : AtStart classFile x code maxLocals ret World_1 tables_1 room_1 Calls_1 rest_1 Pre_1 launch0 p0 e0 about1 theMethod args0 below0 :=
  ⟨lists_1, trivial, launch0.admits_env _ _ _, launch0.least_env, fairChoices_fair.cas, fairChoices_fair.clock, w_frames, w_args, w_heap, w_applies, trivial, trivial, w_case⟩
end start1
theorem witness_1 : WitnessClaimed_1 := ⟨start1.p0, start1.e0, start1.about1, start1.theMethod, start1.args0, start1.below0, start1.atStart⟩
end Jvm.Pilot.@@N@@
