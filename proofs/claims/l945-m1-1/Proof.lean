import JvmDerived
import JvmDerived.Pilot.@@N@@Statement
import JvmDerived.Pilot.@@N@@Code
set_option linter.unusedVariables false
set_option linter.unusedSimpArgs false
namespace Jvm.RoadKit
open Sem ClassFile Op Lib Jvm.Stand Jvm.Free Jvm.LawKit
section New
variable {p : Program} {l : Launch} {e : Env} {R : Room} {s : State} {m : MethodId} {args : Array Value} {below : List Frame} {meth : Method} {c : Code} {T : State} {locs : List Loc} {cells slots : Nat}
theorem retI (X : Stand p l e R s m args below meth c T locs cells slots) (hx : p.tables.exec = Jvm.exec) {pc : Nat} {Ls : Array Slot} {z : Int32} {rest : List Value} (hret : meth.sig.returnType = some .int) (hd : decode c.code pc = .ok (.ireturn, 1)) {fs : List Frame}
    (hl : ∀ (f : JFrame) (acts : List Action), f.method = m → f.locked = none → f.entered = [] → (doReturn e (T.setTop f) acts (some (.int z))).1 = T.setFrames fs) : Steps p.tables e below (T.setTop (mkF m pc Ls (.int z :: rest))) (T.setFrames fs) := by
  have hm' : T.vm.method? m = some meth := X.method'
  have hn : narrow .int (.int z) = .int z := rfl
  show Steps p.tables e below (T.setTop { method := m, pc := pc, locals := Ls, stack := _ :: rest, locked := none }) _
  jvm_step X.here [X.here.top, hx, hd, hm', hret, hn]
  first | (intro acts; rw [hl _ acts rfl rfl rfl]) | rw [hl _ _ rfl rfl rfl]
  exact Steps.refl _
theorem own_retZ (X : Stand p l e R s m args below meth c T locs cells slots) (hx : p.tables.exec = Jvm.exec) {pc : Nat} {Ls : Array Slot} {z : Int32} {rest : List Value} (hret : meth.sig.returnType = some .boolean) (hz : z &&& 1 = z) (hd : decode c.code pc = .ok (.ireturn, 1)) {fs : List Frame}
    (hl : ∀ (f : JFrame) (acts : List Action), f.method = m → f.locked = none → f.entered = [] → (doReturn e (T.setTop f) acts (some (.int z))).1 = T.setFrames fs) : Steps p.tables e below (T.setTop (mkF m pc Ls (.int z :: rest))) (T.setFrames fs) :=
  retN X hx (t := .boolean) hret (Or.inl rfl) hd (by have q : nar .boolean z = z := hz; rw [q]; exact hl)
theorem own_lrem {g : JFrame} {target : State} (X : Stand p l e R s m args below meth c T locs cells slots) (hx : p.tables.exec = Jvm.exec) (hg : g.method = m) {x y : Int64} {rest : List Value} (hd : decode c.code g.pc = .ok (.lrem, 1)) (hs : g.stack = .long y :: .long x :: rest) (hy : y ≠ 0)
    (hr : Steps p.tables e below (T.setTop { g with pc := g.pc + 1, stack := .long (x % y) :: rest }) target) : Steps p.tables e below (T.setTop g) target :=
  XS.lrem X.here hx hg hd hs hy (by rw [lrem_mod x y]; exact hr)
end New
end Jvm.RoadKit
namespace Jvm.Pilot.@@N@@
open Jvm Jvm.ClassFile Sem Op Lib Jvm.Free Jvm.Stand Jvm.LawKit Jvm.RoadKit Bundle Jvm.Pilot.@@N@@.Jvm.D
section Own
variable {p : Program} {l : Launch} {e : Env} {R : Room} {s : State} {m : MethodId} {args : Array Value} {below : List Frame} {meth : Method} {c : Code} {T : State} {locs : List Loc} {cells slots : Nat} {Z : State} {h h' : Heap} {a b : Addr} {ty : FieldType} {vs : List Value}
/-- the array at a, of elements of kind ty, holds just vs -/
def LA (Z : State) (h : Heap) (a : Addr) (ty : FieldType) (vs : List Value) : Prop := ∃ c : Cell, Arr Z h a c ty ∧ c.slots.toList = vs
theorem LA.lt (F : LA Z h a ty vs) : a < h.size := by obtain ⟨c, A, -⟩ := F; exact A.lt
theorem LA.ext (F : LA Z h a ty vs) (E : Ext h h') : LA Z h' a ty vs := by obtain ⟨c, A, r⟩ := F; exact ⟨c, A.ext E, r⟩
theorem LA.other {sl : Nat} {v : Value} (F : LA Z h b ty vs) (W : Wr h h' a sl v) (q : b ≠ a) : LA Z h' b ty vs := by obtain ⟨c, A, r⟩ := F; exact ⟨c, A.other W q, r⟩
theorem LA.keep {ws : List Addr} (F : LA Z h a ty vs) (K : Keep h h' ws) (q : a ∉ ws) : LA Z h' a ty vs := by obtain ⟨c, A, r⟩ := F; exact ⟨c, ⟨K.2.1 a c A.1 q, A.2⟩, r⟩
theorem LA.new {k : ClassId} {z : Int32} (A : Arr Z h a (newA k ty z) ty) (n : Nat) (q : z.toNatClampNeg = n) : LA Z h a ty (List.replicate n (defaultValue ty)) := ⟨_, A, by subst q; simp [newA]⟩
theorem own_stI (X : Stand p l e R s m args below meth c T locs cells slots) (hx : p.tables.exec = Jvm.exec) (hZ : Z.Warmed39 s.vm) (eT : T.heap = h) (A : LA Z h a .int vs) {j x : Int32} {i : Nat} (hj : j.toNatClampNeg = i) (hi : ¬ j < 0 ∧ i < vs.length) {g : JFrame} (hg : g.method = m) {rest : List Value} (hs : g.stack = .int x :: .int j :: .ref a :: rest) (hd : decode c.code g.pc = .ok (.iastore, 1)) :
    ∃ T' h', Stand p l e R s m args below meth c T' (locs ++ [⟨a, j.toNatClampNeg⟩]) cells slots ∧ T'.heap = h' ∧ Wr h h' a j.toNatClampNeg (.int x) ∧ LA Z h' a .int (vs.set i (.int x)) ∧ ∀ target, Steps p.tables e below (T'.setTop { g with pc := g.pc + 1, stack := rest }) target → Steps p.tables e below (T.setTop g) target := by
  obtain ⟨cl, A, rfl⟩ := A
  subst hj
  have hb : ¬ (j < 0 ∨ cl.slots.size ≤ j.toNatClampNeg) := fun q => q.elim hi.1 fun r => by have := hi.2; rw [Array.length_toList] at this; omega
  obtain ⟨T', h', X', e', W, st⟩ := stI X hx hZ eT A hb hg hs hd
  exact ⟨T', h', X', e', W, ⟨_, A.same W, by simp [Cell.setSlot]⟩, st⟩
theorem own_stJ (X : Stand p l e R s m args below meth c T locs cells slots) (hx : p.tables.exec = Jvm.exec) (hZ : Z.Warmed39 s.vm) (eT : T.heap = h) (A : LA Z h a .long vs) {j : Int32} {x : Int64} {i : Nat} (hj : j.toNatClampNeg = i) (hi : ¬ j < 0 ∧ i < vs.length) {g : JFrame} (hg : g.method = m) {rest : List Value} (hs : g.stack = .long x :: .int j :: .ref a :: rest) (hd : decode c.code g.pc = .ok (.lastore, 1)) :
    ∃ T' h', Stand p l e R s m args below meth c T' (locs ++ [⟨a, j.toNatClampNeg⟩]) cells slots ∧ T'.heap = h' ∧ Wr h h' a j.toNatClampNeg (.long x) ∧ LA Z h' a .long (vs.set i (.long x)) ∧ ∀ target, Steps p.tables e below (T'.setTop { g with pc := g.pc + 1, stack := rest }) target → Steps p.tables e below (T.setTop g) target := by
  obtain ⟨cl, A, rfl⟩ := A
  subst hj
  have hb : ¬ (j < 0 ∨ cl.slots.size ≤ j.toNatClampNeg) := fun q => q.elim hi.1 fun r => by have := hi.2; rw [Array.length_toList] at this; omega
  obtain ⟨T', h', X', e', W, st⟩ := stJ X hx hZ eT A hb hg hs hd
  exact ⟨T', h', X', e', W, ⟨_, A.same W, by simp [Cell.setSlot]⟩, st⟩
theorem own_at {cl : Cell} {j : Int32} {v : Value} (hn : ¬ j < 0) (hat : cl.slots.toList[j.toNatClampNeg]? = some v) : ¬ (j < 0 ∨ cl.slots.size ≤ j.toNatClampNeg) ∧ cl.slots[j.toNatClampNeg]? = some v := by
  have q : cl.slots[j.toNatClampNeg]? = some v := by rw [← Array.getElem?_toList]; exact hat
  exact ⟨fun r => r.elim hn fun z => absurd (Array.getElem?_eq_some_iff.mp q).1 (Nat.not_lt.mpr z), q⟩
theorem own_ldI (X : Stand p l e R s m args below meth c T locs cells slots) (hx : p.tables.exec = Jvm.exec) (hZ : Z.Warmed39 s.vm) (eT : T.heap = h) (A : LA Z h a .int vs) {j x : Int32} (hn : ¬ j < 0) (hat : vs[j.toNatClampNeg]? = some (.int x)) {g : JFrame} (hg : g.method = m) {rest : List Value} (hs : g.stack = .int j :: .ref a :: rest) (hd : decode c.code g.pc = .ok (.iaload, 1)) (target : State)
    (hr : Steps p.tables e below (T.setTop { g with pc := g.pc + 1, stack := .int x :: rest }) target) : Steps p.tables e below (T.setTop g) target := by
  obtain ⟨cl, A, rfl⟩ := A
  exact X.iaload hx (by rw [eT]; exact A.1) (State.isArrayOf_alike hZ.alike A.2.1) A.2.2 (own_at hn hat).1 (own_at hn hat).2 hg hs hd target hr
theorem own_ldJ (X : Stand p l e R s m args below meth c T locs cells slots) (hx : p.tables.exec = Jvm.exec) (hZ : Z.Warmed39 s.vm) (eT : T.heap = h) (A : LA Z h a .long vs) {j : Int32} {x : Int64} (hn : ¬ j < 0) (hat : vs[j.toNatClampNeg]? = some (.long x)) {g : JFrame} (hg : g.method = m) {rest : List Value} (hs : g.stack = .int j :: .ref a :: rest) (hd : decode c.code g.pc = .ok (.laload, 1)) (target : State)
    (hr : Steps p.tables e below (T.setTop { g with pc := g.pc + 1, stack := .long x :: rest }) target) : Steps p.tables e below (T.setTop g) target := by
  obtain ⟨cl, A, rfl⟩ := A
  exact X.laload hx (by rw [eT]; exact A.1) (State.isArrayOf_alike hZ.alike A.2.1) A.2.2 (own_at hn hat).1 (own_at hn hat).2 hg hs hd target hr
theorem own_len (X : Stand p l e R s m args below meth c T locs cells slots) (hx : p.tables.exec = Jvm.exec) (hZ : Z.Warmed39 s.vm) (eT : T.heap = h) (A : LA Z h a ty vs) {n : Int32} (hn : vs.length.toInt32 = n) {g : JFrame} (hg : g.method = m) {rest : List Value} (hs : g.stack = .ref a :: rest) (hd : decode c.code g.pc = .ok (.arraylength, 1)) (target : State)
    (hr : Steps p.tables e below (T.setTop { g with pc := g.pc + 1, stack := .int n :: rest }) target) : Steps p.tables e below (T.setTop g) target := by
  obtain ⟨cl, A, rfl⟩ := A
  refine X.arraylength hx (by rw [eT]; exact A.1) (State.isArrayOf_alike hZ.alike A.2.1) hg hs hd target ?_
  have q : cl.slots.size.toInt32 = n := by rw [← hn, Array.length_toList]
  rw [q]; exact hr
theorem own_clone {a0 : Array Value} (X : Stand p l e R s m args below meth c T locs cells slots) (hx : p.tables.exec = Jvm.exec) (hZ : Z.Warmed39 s.vm) {own ad : String} {index : Nat} (hown : s.vm.findClass own = some m.cls)
    (w1 : (Cond.methodLink own index ⟨ad, "clone", "()Ljava/lang/Object;"⟩).before a0 Z = true) (w2 : (Cond.sameMethod ad "java/lang/Object" "clone" "()Ljava/lang/Object;").before a0 Z = true) (w3 : (Cond.native ⟨"java/lang/Object", "clone", "()Ljava/lang/Object;"⟩).before a0 Z = true)
    (w4 : (Cond.instanceMethod ⟨"java/lang/Object", "clone", "()Ljava/lang/Object;"⟩).before a0 Z = true) (w5 : (Cond.selects ad ⟨ad, "clone", "()Ljava/lang/Object;"⟩ ⟨"java/lang/Object", "clone", "()Ljava/lang/Object;"⟩).before a0 Z = true) (w6 : (Cond.castable ad "java/lang/Cloneable").before a0 Z = true)
    (eT : T.heap = h) (A : LA Z h a ty vs) (E : Exa Z h a ad) (F : ∀ v ∈ vs, fits ty v = true) {g : JFrame} (hg : g.method = m) (hsize : g.locals.size = c.maxLocals) {rest : List Value} (hs : g.stack = .ref a :: rest) (hd : decode c.code g.pc = .ok (.invokevirtual index, 3))
    (hf : 1 ≤ R.frames) {W cap : Nat} (hW : 2 * g.monitorRoom + (rest.map fun v => v.category).sum ≤ W) (hl : W + 14 ≤ R.locals) (hcap : vs.length ≤ cap) (hc : cells + 1 ≤ R.cells) (hsl : slots + cap ≤ R.slots) :
    ∃ T' h', Stand p l e R s m args below meth c T' locs (cells + 1) (slots + cap) ∧ T'.heap = h' ∧ Ext h h' ∧ LA Z h' h.size ty vs ∧ Exa Z h' h.size ad ∧
      ∀ target, Steps p.tables e below (T'.setTop { g with pc := g.pc + 3, stack := .ref h.size :: rest }) target → Steps p.tables e below (T.setTop g) target := by
  obtain ⟨cl, A, rfl⟩ := A
  have FC : FitC Z cl := fitC_of A fun i hi v hv => F v (Array.mem_toList_iff.mpr (Array.mem_of_getElem? hv))
  obtain ⟨T', h', X', e', ex, A', E', st⟩ := cloneA X hx hZ hown w1 w2 w3 w4 w5 w6 eT A E FC hg hsize hs hd hf hW hl (by rw [Array.length_toList] at hcap; exact hcap) hc hsl
  exact ⟨T', h', X', e', ex, ⟨cloneOf cl, A', rfl⟩, E', st⟩
theorem own_fitsJ (xs : List Int64) : ∀ v ∈ xs.map Value.long, fits .long v = true := fun v hv => by
  obtain ⟨x, -, rfl⟩ := List.mem_map.mp hv
  rfl
theorem own_readJ {xs pr rest : List Int64} {x : Int64} {k : Nat} (e : xs = pr ++ x :: rest) (hk : k = pr.length) : (xs.map Value.long)[k]? = some (.long x) := by
  subst e hk
  simp
end Own
theorem own_idx {j : Int32} {n : Nat} (h0 : 0 ≤ j.toInt) (h1 : j.toInt < n) : ¬ j < 0 ∧ j.toNatClampNeg < n := by
  have q : ¬ j < 0 := fun q => by have := Int32.lt_iff_toInt_lt.mp q; have z : (0 : Int32).toInt = 0 := (by decide); omega
  have r := nat_of q
  exact ⟨q, by omega⟩
theorem own_get {vs : List Value} (L : List Int32) (e : vs = L.map Value.int) {k : Nat} (hk : k < L.length) : ∃ x, vs[k]? = some (.int x) := by
  subst e
  exact ⟨L[k], by simp [hk]⟩
theorem own_inj {s t : Int32} {k : Int} (h : s.toInt = k) (e : t.toInt = k) : s = t := Int32.toInt_inj.mp (h.trans e.symm)
theorem own_inc (x : Int32) (h : x.toInt < 2147483647) : (x + (1 : Int32)).toInt = x.toInt + 1 := by
  have c := c_iadd x (1 : Int32)
  have r := rng32 (x + (1 : Int32))
  have q := rng32 x
  have o : (1 : Int32).toInt = 1 := by decide
  omega
theorem d1_0 : decode prog_60_method_1_code 0 = .ok (.aload_n 0, 1) := by decide +kernel
theorem d1_1 : decode prog_60_method_1_code 1 = .ok (.invokespecial 1, 3) := by decide +kernel
theorem d1_4 : decode prog_60_method_1_code 4 = .ok (.aload_n 0, 1) := by decide +kernel
theorem d1_5 : decode prog_60_method_1_code 5 = .ok (.aload_n 1, 1) := by decide +kernel
theorem d1_6 : decode prog_60_method_1_code 6 = .ok (.invokevirtual 7, 3) := by decide +kernel
theorem d1_9 : decode prog_60_method_1_code 9 = .ok (.checkcast 8, 3) := by decide +kernel
theorem d1_12 : decode prog_60_method_1_code 12 = .ok (.putfield 13, 3) := by decide +kernel
theorem d1_15 : decode prog_60_method_1_code 15 = .ok (.return_, 1) := by decide +kernel
theorem pn_0 : plainName "com/example/ingest/ingest/common/TopicInfo" = true := by first | (simp [plainName, overriddenIn]; done) | decide +kernel
theorem ef_rm1 (m : MethodId) (x0 : Addr) (x1 : Addr) : entryFrame m #[(.ref x0), (.ref x1)] 2 = mkF m 0 #[.val (.ref x0), .val (.ref x1)] [] := by first | (simp [entryFrame, mkF, argsToLocals, Value.category]; done) | rfl
def Q1 (Z : State) (a : Addr) (b : Addr) (xs : List Int64) (h0 : Heap) (n0 : Nat) (v : Option Value) (h : Heap) (L : List Loc) : Prop := ∃ cA : Addr, v = none ∧ Fr n0 L ∧ Keep h0 h [a] ∧ Exa Z h a "com/example/ingest/ingest/common/TopicInfo" ∧ Fld Z h a "com/example/ingest/ingest/common/TopicInfo" "endOffsets" "[J" (.ref cA) ∧ LA Z h cA .long (xs.map Value.long)
set_option maxRecDepth 65536 in
set_option maxHeartbeats 40000000 in
theorem rm1 (l : Launch) (Z : State) (a0 : Array Value) (hw : ∀ d ∈ tables_1, d.before a0 Z = true) (ws : List Jvm.Cond) (a : Addr) (b : Addr) (xs : List Int64) (h0 : Heap) (n0 : Nat) (Z0 : n0 ≤ h0.size) (E0 : Exa Z h0 a "com/example/ingest/ingest/common/TopicInfo") (F1 : Fld Z h0 a "com/example/ingest/ingest/common/TopicInfo" "endOffsets" "[J" .null) (g : n0 ≤ a) (A1 : LA Z h0 b .long (xs.map Value.long)) (B1 : Exa Z h0 b "[J") (b1 : (xs.map Value.long).length ≤ 4) :
    MetFree l (⟨"com/example/ingest/ingest/common/TopicInfo", "<init>", "([J)V"⟩ : MethodName) (head1 (Jvm.Cond.code (⟨"com/example/ingest/ingest/common/TopicInfo", "<init>", "([J)V"⟩ : MethodName) prog_60_method_1_code 2 none :: ws) ({ frames := 1, cells := 1, slots := 4, locals := 15 } : Room)) (fun aa U => aa = #[(.ref a), (.ref b)] ∧ Z.Warmed39 U.vm ∧ U.heap = h0) (fun _ _ _ _ _ => True) (fun _ U o U' => ∃ v L, o = .returned v ∧ Q1 Z a b xs h0 n0 v U'.heap L ∧ FrameEnd U o U' L ({ frames := 1, cells := 1, slots := 4, locals := 15 } : Room).cells ({ frames := 1, cells := 1, slots := 4, locals := 15 } : Room).slots) := by
  refine MetFree.of_bodySF (plainFor_of_name pn_0) hisR ?_
  intro p e s m args below meth c s₁ Bd hml0 hP hK
  obtain ⟨rfl, hZ, hh⟩ := hP
  have hx := Bd.exec
  have hby := Bd.bytes
  have hml : c.maxLocals = 2 := hml0
  have hown : s.vm.findClass "com/example/ingest/ingest/common/TopicInfo" = some m.cls := findClass_of_methodNamed Bd.named
  have hnm := (name_of_methodNamed Bd.named Bd.method).1
  have X0 : Stand p l e ({ frames := 1, cells := 1, slots := 4, locals := 15 } : Room) s m #[(.ref a), (.ref b)] below meth c s₁ [] 0 0 := Stand.of_body Bd
  have e0 : s₁.heap = h0 := by rw [← hh, Bd.state]; rfl
  have N0 := Fr.nil n0
  obtain ⟨Ω, hΩ⟩ : ∃ z, z = s₁.setTop (entryFrame m #[(.ref a), (.ref b)] 2) := ⟨_, rfl⟩
  have S0 : Steps p.tables e below Ω (s₁.setTop (mkF m 0 #[.val (.ref a), .val (.ref b)] [])) := by rw [hΩ]; exact castTop (ef_rm1 m a b) (Steps.refl _)
  have S1 : Steps p.tables e below Ω (s₁.setTop (mkF m 1 #[.val (.ref a), .val (.ref b)] [(.ref a)])) := by
    refine S0.trans ?_
    refine XS.aloadN X0.here hx rfl (hb hby d1_0) rfl rfl ?_
    exact Steps.refl _
  obtain ⟨T2, X2, e2, st2⟩ := initO X0 hx hZ hown (hw _ (List.mem_of_getElem? (i := 8) rfl)) (hw _ (List.mem_of_getElem? (i := 9) rfl)) (hw _ (List.mem_of_getElem? (i := 10) rfl)) e0 (g := (mkF m 1 #[.val (.ref a), .val (.ref b)] [(.ref a)])) rfl (by rw [hml]; rfl) rfl (hb hby d1_1) (by decide) (W := 0) (by show 2 * 0 + _ ≤ _; exact Nat.le_of_eq rfl) (by decide)
  have S3 : Steps p.tables e below Ω (T2.setTop (mkF m 4 #[.val (.ref a), .val (.ref b)] [])) := S1.trans (st2 _ (Steps.refl _))
  have S4 : Steps p.tables e below Ω (T2.setTop (mkF m 6 #[.val (.ref a), .val (.ref b)] [(.ref b), (.ref a)])) := by
    refine S3.trans ?_
    refine XS.aloadN X2.here hx rfl (hb hby d1_4) rfl rfl ?_
    show Steps p.tables e below (T2.setTop (mkF m 5 #[.val (.ref a), .val (.ref b)] [(.ref a)])) _
    refine XS.aloadN X2.here hx rfl (hb hby d1_5) rfl rfl ?_
    exact Steps.refl _
  obtain ⟨T5, h5, X5, e5, E5, V5, B5, st5⟩ := own_clone X2 hx hZ hown (hw _ (List.mem_of_getElem? (i := 11) rfl)) (hw _ (List.mem_of_getElem? (i := 12) rfl)) (hw _ (List.mem_of_getElem? (i := 16) rfl)) (hw _ (List.mem_of_getElem? (i := 14) rfl)) (hw _ (List.mem_of_getElem? (i := 15) rfl)) (hw _ (List.mem_of_getElem? (i := 17) rfl)) e2 A1 B1 (own_fitsJ xs) (g := (mkF m 6 #[.val (.ref a), .val (.ref b)] [(.ref b), (.ref a)])) rfl (by rw [hml]; rfl) rfl (hb hby d1_6) (by decide) (W := 1) (cap := 4) (by show 2 * 0 + _ ≤ _; exact Nat.le_of_eq rfl) (by decide) b1 (by decide) (by decide)
  obtain ⟨cA, s_cA⟩ : ∃ z, z = h0.size := ⟨_, rfl⟩
  rw [← s_cA] at V5 B5 st5
  have S6 : Steps p.tables e below Ω (T5.setTop (mkF m 9 #[.val (.ref a), .val (.ref b)] [(.ref cA), (.ref a)])) := S4.trans (st5 _ (Steps.refl _))
  obtain ⟨T7, X7, e7, st7⟩ := castY X5 hx hZ hown (hw _ (List.mem_of_getElem? (i := 18) rfl)) e5 (Ins.self B5) (g := (mkF m 9 #[.val (.ref a), .val (.ref b)] [(.ref cA), (.ref a)])) rfl rfl (hb hby d1_9)
  have S8 : Steps p.tables e below Ω (T7.setTop (mkF m 12 #[.val (.ref a), .val (.ref b)] [(.ref cA), (.ref a)])) := S6.trans (st7 _ (Steps.refl _))
  have E1 := E0.ext E5
  have F1' := F1.ext E5
  have hne : cA ≠ a := Nat.ne_of_gt (Nat.lt_of_lt_of_le E0.lt (Nat.le_of_eq s_cA.symm))
  obtain ⟨T9, h9, X9, e9, W9, st9⟩ := putF X7 hx hZ hown (host := "") (Or.inl (hw _ (List.mem_of_getElem? (i := 20) rfl))) Via.refl e7 F1' E1 (Or.inr ⟨(hw _ (List.mem_of_getElem? (i := 21) rfl)), rfl, hnm⟩) (hw _ (List.mem_of_getElem? (i := 3) rfl)) (ty := (.array .long)) (by decide) rfl rfl (g := (mkF m 12 #[.val (.ref a), .val (.ref b)] [(.ref cA), (.ref a)])) rfl rfl (hb hby d1_12)
  have S10 : Steps p.tables e below Ω (T9.setTop (mkF m 15 #[.val (.ref a), .val (.ref b)] [])) := S8.trans (st9 _ (Steps.refl _))
  have N9 := Fr.snoc X9 N0 g
  have E2 := E1.wr W9
  have F2 : Fld Z h9 a "com/example/ingest/ingest/common/TopicInfo" "endOffsets" "[J" (.ref cA) := F1'.same W9
  have A2 := V5.other W9 hne
  have KK : Keep h0 h9 [a] := ((Keep.refl h0 [a]).ext E5).wr W9 (Or.inl (List.mem_of_getElem? (i := 0) rfl))
  obtain ⟨fs, hr, hrun, hended, hW, hsame⟩ := X9.leave (v := none) (fun _ => rfl)
  have hfin : Steps p.tables e below Ω (T9.setFrames fs) := by
    refine S10.trans ?_
    exact X9.returnOut hx Bd.returns (hb hby d1_15) hr
  rw [hΩ] at hfin
  refine ⟨_, _, hfin, hrun, hended, _, _, rfl, ?_, ⟨_, rfl⟩, hW, hsame.mono (by decide) (by decide)⟩
  show Q1 Z a b xs h0 n0 _ T9.heap _
  rw [e9]
  exact ⟨cA, rfl, N9, KK, E2, F2, A2⟩
theorem d3_0 : decode prog_60_method_4_code 0 = .ok (.lconst 0, 1) := by decide +kernel
theorem d3_1 : decode prog_60_method_4_code 1 = .ok (.lstore_n 1, 1) := by decide +kernel
theorem d3_2 : decode prog_60_method_4_code 2 = .ok (.aload_n 0, 1) := by decide +kernel
theorem d3_3 : decode prog_60_method_4_code 3 = .ok (.getfield 13, 3) := by decide +kernel
theorem d3_6 : decode prog_60_method_4_code 6 = .ok (.astore_n 3, 1) := by decide +kernel
theorem d3_7 : decode prog_60_method_4_code 7 = .ok (.aload_n 3, 1) := by decide +kernel
theorem d3_8 : decode prog_60_method_4_code 8 = .ok (.arraylength, 1) := by decide +kernel
theorem d3_9 : decode prog_60_method_4_code 9 = .ok (.istore 4, 2) := by decide +kernel
theorem d3_11 : decode prog_60_method_4_code 11 = .ok (.iconst 0, 1) := by decide +kernel
theorem d3_12 : decode prog_60_method_4_code 12 = .ok (.istore 5, 2) := by decide +kernel
theorem d3_14 : decode prog_60_method_4_code 14 = .ok (.iload 5, 2) := by decide +kernel
theorem d3_16 : decode prog_60_method_4_code 16 = .ok (.iload 4, 2) := by decide +kernel
theorem d3_18 : decode prog_60_method_4_code 18 = .ok (.if_icmp .ge 20, 3) := by decide +kernel
theorem d3_21 : decode prog_60_method_4_code 21 = .ok (.aload_n 3, 1) := by decide +kernel
theorem d3_22 : decode prog_60_method_4_code 22 = .ok (.iload 5, 2) := by decide +kernel
theorem d3_24 : decode prog_60_method_4_code 24 = .ok (.laload, 1) := by decide +kernel
theorem d3_25 : decode prog_60_method_4_code 25 = .ok (.lstore 6, 2) := by decide +kernel
theorem d3_27 : decode prog_60_method_4_code 27 = .ok (.lload_n 1, 1) := by decide +kernel
theorem d3_28 : decode prog_60_method_4_code 28 = .ok (.lload 6, 2) := by decide +kernel
theorem d3_30 : decode prog_60_method_4_code 30 = .ok (.ladd, 1) := by decide +kernel
theorem d3_31 : decode prog_60_method_4_code 31 = .ok (.lstore_n 1, 1) := by decide +kernel
theorem d3_32 : decode prog_60_method_4_code 32 = .ok (.iinc 5 1, 3) := by decide +kernel
theorem d3_35 : decode prog_60_method_4_code 35 = .ok (.goto (-21), 3) := by decide +kernel
theorem d3_38 : decode prog_60_method_4_code 38 = .ok (.lload_n 1, 1) := by decide +kernel
theorem d3_39 : decode prog_60_method_4_code 39 = .ok (.lreturn, 1) := by decide +kernel
theorem ef_rm3 (m : MethodId) (x0 : Addr) : entryFrame m #[(.ref x0)] 8 = mkF m 0 #[.val (.ref x0), .unset, .unset, .unset, .unset, .unset, .unset, .unset] [] := by first | (simp [entryFrame, mkF, argsToLocals, Value.category]; done) | rfl
def Q3 (Z : State) (a : Addr) (cA : Addr) (xs : List Int64) (h0 : Heap) (n0 : Nat) (v : Option Value) (h : Heap) (L : List Loc) : Prop := v = some (.long (xs.foldl (fun a x => a + x) (0 : Int64))) ∧ Fr n0 L ∧ h = h0
set_option maxRecDepth 65536 in
set_option maxHeartbeats 40000000 in
theorem rm3 (l : Launch) (Z : State) (a0 : Array Value) (hw : ∀ d ∈ tables_1, d.before a0 Z = true) (ws : List Jvm.Cond) (a : Addr) (cA : Addr) (xs : List Int64) (h0 : Heap) (n0 : Nat) (Z0 : n0 ≤ h0.size) (F1 : Fld Z h0 a "com/example/ingest/ingest/common/TopicInfo" "endOffsets" "[J" (.ref cA)) (A1 : LA Z h0 cA .long (xs.map Value.long)) (b1 : xs.length ≤ 4) :
    MetFree l (⟨"com/example/ingest/ingest/common/TopicInfo", "messages", "()J"⟩ : MethodName) (head1 (Jvm.Cond.code (⟨"com/example/ingest/ingest/common/TopicInfo", "messages", "()J"⟩ : MethodName) prog_60_method_4_code 8 (some .long) :: ws) ({ frames := 0, cells := 0, slots := 0, locals := 0 } : Room)) (fun aa U => aa = #[(.ref a)] ∧ Z.Warmed39 U.vm ∧ U.heap = h0) (fun _ _ _ _ _ => True) (fun _ U o U' => ∃ v L, o = .returned v ∧ Q3 Z a cA xs h0 n0 v U'.heap L ∧ FrameEnd U o U' L ({ frames := 0, cells := 0, slots := 0, locals := 0 } : Room).cells ({ frames := 0, cells := 0, slots := 0, locals := 0 } : Room).slots) := by
  refine MetFree.of_bodySF (plainFor_of_name pn_0) hisR ?_
  intro p e s m args below meth c s₁ Bd hml0 hP hK
  obtain ⟨rfl, hZ, hh⟩ := hP
  have hx := Bd.exec
  have hby := Bd.bytes
  have hml : c.maxLocals = 8 := hml0
  have hown : s.vm.findClass "com/example/ingest/ingest/common/TopicInfo" = some m.cls := findClass_of_methodNamed Bd.named
  have hnm := (name_of_methodNamed Bd.named Bd.method).1
  have X0 : Stand p l e ({ frames := 0, cells := 0, slots := 0, locals := 0 } : Room) s m #[(.ref a)] below meth c s₁ [] 0 0 := Stand.of_body Bd
  have e0 : s₁.heap = h0 := by rw [← hh, Bd.state]; rfl
  have N0 := Fr.nil n0
  obtain ⟨Ω, hΩ⟩ : ∃ z, z = s₁.setTop (entryFrame m #[(.ref a)] 8) := ⟨_, rfl⟩
  have S0 : Steps p.tables e below Ω (s₁.setTop (mkF m 0 #[.val (.ref a), .unset, .unset, .unset, .unset, .unset, .unset, .unset] [])) := by rw [hΩ]; exact castTop (ef_rm3 m a) (Steps.refl _)
  have S1 : Steps p.tables e below Ω (s₁.setTop (mkF m 3 #[.val (.ref a), .val (.long (0 : Int64)), .second, .unset, .unset, .unset, .unset, .unset] [(.ref a)])) := by
    refine S0.trans ?_
    refine XS.lconst X0.here hx rfl (hb hby d3_0) ?_
    show Steps p.tables e below (s₁.setTop (mkF m 1 #[.val (.ref a), .unset, .unset, .unset, .unset, .unset, .unset, .unset] [(.long (0 : Int64))])) _
    refine XS.lstoreN X0.here hx rfl (hb hby d3_1) rfl (l' := #[.val (.ref a), .val (.long (0 : Int64)), .second, .unset, .unset, .unset, .unset, .unset]) rfl ?_
    show Steps p.tables e below (s₁.setTop (mkF m 2 #[.val (.ref a), .val (.long (0 : Int64)), .second, .unset, .unset, .unset, .unset, .unset] [])) _
    refine XS.aloadN X0.here hx rfl (hb hby d3_2) rfl rfl ?_
    exact Steps.refl _
  obtain ⟨T2, X2, e2, st2⟩ := getF X0 hx hZ hown (host := "") (Or.inl (hw _ (List.mem_of_getElem? (i := 20) rfl))) Via.refl e0 F1 (g := (mkF m 3 #[.val (.ref a), .val (.long (0 : Int64)), .second, .unset, .unset, .unset, .unset, .unset] [(.ref a)])) rfl rfl (hb hby d3_3)
  have S3 : Steps p.tables e below Ω (T2.setTop (mkF m 6 #[.val (.ref a), .val (.long (0 : Int64)), .second, .unset, .unset, .unset, .unset, .unset] [(.ref cA)])) := S1.trans (st2 _ (Steps.refl _))
  have S4 : Steps p.tables e below Ω (T2.setTop (mkF m 8 #[.val (.ref a), .val (.long (0 : Int64)), .second, .val (.ref cA), .unset, .unset, .unset, .unset] [(.ref cA)])) := by
    refine S3.trans ?_
    refine XS.astoreN X2.here hx rfl (hb hby d3_6) rfl rfl (l' := #[.val (.ref a), .val (.long (0 : Int64)), .second, .val (.ref cA), .unset, .unset, .unset, .unset]) rfl ?_
    show Steps p.tables e below (T2.setTop (mkF m 7 #[.val (.ref a), .val (.long (0 : Int64)), .second, .val (.ref cA), .unset, .unset, .unset, .unset] [])) _
    refine XS.aloadN X2.here hx rfl (hb hby d3_7) rfl rfl ?_
    exact Steps.refl _
  obtain ⟨n, hn⟩ : ∃ n : Int32, (xs.map Value.long).length.toInt32 = n := ⟨_, rfl⟩
  have hn2 : n.toInt = xs.length := by rw [← hn, List.length_map]; exact len_toInt (by omega)
  have S5 : Steps p.tables e below Ω (T2.setTop (mkF m 9 #[.val (.ref a), .val (.long (0 : Int64)), .second, .val (.ref cA), .unset, .unset, .unset, .unset] [(.int n)])) := S4.trans (own_len X2 hx hZ e2 A1 (n := n) hn (g := (mkF m 8 #[.val (.ref a), .val (.long (0 : Int64)), .second, .val (.ref cA), .unset, .unset, .unset, .unset] [(.ref cA)])) rfl rfl (hb hby d3_8) _ (Steps.refl _))
  have S6 : Steps p.tables e below Ω (T2.setTop (mkF m 14 #[.val (.ref a), .val (.long (0 : Int64)), .second, .val (.ref cA), .val (.int n), .val (.int (0 : Int32)), .unset, .unset] [])) := by
    refine S5.trans ?_
    refine XS.istore X2.here hx rfl (hb hby d3_9) rfl (l' := #[.val (.ref a), .val (.long (0 : Int64)), .second, .val (.ref cA), .val (.int n), .unset, .unset, .unset]) rfl ?_
    show Steps p.tables e below (T2.setTop (mkF m 11 #[.val (.ref a), .val (.long (0 : Int64)), .second, .val (.ref cA), .val (.int n), .unset, .unset, .unset] [])) _
    refine XS.iconst X2.here hx rfl (hb hby d3_11) ?_
    show Steps p.tables e below (T2.setTop (mkF m 12 #[.val (.ref a), .val (.long (0 : Int64)), .second, .val (.ref cA), .val (.int n), .unset, .unset, .unset] [(.int (0 : Int32))])) _
    refine XS.istore X2.here hx rfl (hb hby d3_12) rfl (l' := #[.val (.ref a), .val (.long (0 : Int64)), .second, .val (.ref cA), .val (.int n), .val (.int (0 : Int32)), .unset, .unset]) rfl ?_
    exact Steps.refl _
  have LOOP : ∀ (rest pr : List Int64) (i : Int32) (acc : Int64) (s6 s7 : Slot), ((s6 = .unset ∧ s7 = .unset) ∨ (∃ z : Int64, s6 = .val (.long z) ∧ s7 = .second)) → xs = pr ++ rest → i.toInt = pr.length → ∃ (s5 s6' s7' : Slot), Steps p.tables e below (T2.setTop (mkF m 14 #[.val (.ref a), .val (.long acc), .second, .val (.ref cA), .val (.int n), .val (.int i), s6, s7] [])) (T2.setTop (mkF m 38 #[.val (.ref a), .val (.long (rest.foldl (fun a x => a + x) acc)), .second, .val (.ref cA), .val (.int n), s5, s6', s7'] [])) := by
    intro rest
    induction rest with
    | nil =>
      intro pr i acc s6 s7 hs6 hxs hi
      have hlen : xs.length = pr.length := by rw [hxs, List.append_nil]
      have hc : ¬ i < n := fun q => by have := Int32.lt_iff_toInt_lt.mp q; omega
      have P7 : Steps p.tables e below (T2.setTop (mkF m 14 #[.val (.ref a), .val (.long acc), .second, .val (.ref cA), .val (.int n), .val (.int i), s6, s7] [])) (T2.setTop (mkF m 14 #[.val (.ref a), .val (.long acc), .second, .val (.ref cA), .val (.int n), .val (.int i), s6, s7] [])) := Steps.refl _
      have S8 : Steps p.tables e below (T2.setTop (mkF m 14 #[.val (.ref a), .val (.long acc), .second, .val (.ref cA), .val (.int n), .val (.int i), s6, s7] [])) (T2.setTop (mkF m 18 #[.val (.ref a), .val (.long acc), .second, .val (.ref cA), .val (.int n), .val (.int i), s6, s7] [(.int n), (.int i)])) := by
        refine P7.trans ?_
        refine XS.iload X2.here hx rfl (hb hby d3_14) rfl ?_
        show Steps p.tables e below (T2.setTop (mkF m 16 #[.val (.ref a), .val (.long acc), .second, .val (.ref cA), .val (.int n), .val (.int i), s6, s7] [(.int i)])) _
        refine XS.iload X2.here hx rfl (hb hby d3_16) rfl ?_
        exact Steps.refl _
      have S9 : Steps p.tables e below (T2.setTop (mkF m 14 #[.val (.ref a), .val (.long acc), .second, .val (.ref cA), .val (.int n), .val (.int i), s6, s7] [])) (T2.setTop (mkF m 38 #[.val (.ref a), .val (.long acc), .second, .val (.ref cA), .val (.int n), .val (.int i), s6, s7] [])) := by
        refine S8.trans ?_
        refine XS.icmpYes X2.here hx rfl (pc0 := 18) (pc' := 38) rfl (hb hby d3_18) rfl (XT.ii_ge_t hc) (by decide) (by decide) ?_
        exact Steps.refl _
      exact ⟨_, _, _, S9⟩
    | cons x rest ih =>
      intro pr i acc s6 s7 hs6 hxs hi
      have hlen : xs.length = pr.length + (rest.length + 1) := by rw [hxs, List.length_append, List.length_cons]
      have hc : i < n := Int32.lt_iff_toInt_lt.mpr (by omega)
      have hin := own_idx (j := i) (n := 4) (by omega) (by omega)
      have hnat := nat_of hin.1
      have hrd := own_readJ hxs (k := i.toNatClampNeg) (by omega)
      have hinc := own_inc i (by omega)
      have P7 : Steps p.tables e below (T2.setTop (mkF m 14 #[.val (.ref a), .val (.long acc), .second, .val (.ref cA), .val (.int n), .val (.int i), s6, s7] [])) (T2.setTop (mkF m 14 #[.val (.ref a), .val (.long acc), .second, .val (.ref cA), .val (.int n), .val (.int i), s6, s7] [])) := Steps.refl _
      have S10 : Steps p.tables e below (T2.setTop (mkF m 14 #[.val (.ref a), .val (.long acc), .second, .val (.ref cA), .val (.int n), .val (.int i), s6, s7] [])) (T2.setTop (mkF m 18 #[.val (.ref a), .val (.long acc), .second, .val (.ref cA), .val (.int n), .val (.int i), s6, s7] [(.int n), (.int i)])) := by
        refine P7.trans ?_
        refine XS.iload X2.here hx rfl (hb hby d3_14) rfl ?_
        show Steps p.tables e below (T2.setTop (mkF m 16 #[.val (.ref a), .val (.long acc), .second, .val (.ref cA), .val (.int n), .val (.int i), s6, s7] [(.int i)])) _
        refine XS.iload X2.here hx rfl (hb hby d3_16) rfl ?_
        exact Steps.refl _
      have S11 : Steps p.tables e below (T2.setTop (mkF m 14 #[.val (.ref a), .val (.long acc), .second, .val (.ref cA), .val (.int n), .val (.int i), s6, s7] [])) (T2.setTop (mkF m 24 #[.val (.ref a), .val (.long acc), .second, .val (.ref cA), .val (.int n), .val (.int i), s6, s7] [(.int i), (.ref cA)])) := by
        refine S10.trans ?_
        refine XS.icmpNo X2.here hx rfl (hb hby d3_18) rfl (XT.ii_ge_f hc) ?_
        show Steps p.tables e below (T2.setTop (mkF m 21 #[.val (.ref a), .val (.long acc), .second, .val (.ref cA), .val (.int n), .val (.int i), s6, s7] [])) _
        refine XS.aloadN X2.here hx rfl (hb hby d3_21) rfl rfl ?_
        show Steps p.tables e below (T2.setTop (mkF m 22 #[.val (.ref a), .val (.long acc), .second, .val (.ref cA), .val (.int n), .val (.int i), s6, s7] [(.ref cA)])) _
        refine XS.iload X2.here hx rfl (hb hby d3_22) rfl ?_
        exact Steps.refl _
      have S12 : Steps p.tables e below (T2.setTop (mkF m 14 #[.val (.ref a), .val (.long acc), .second, .val (.ref cA), .val (.int n), .val (.int i), s6, s7] [])) (T2.setTop (mkF m 25 #[.val (.ref a), .val (.long acc), .second, .val (.ref cA), .val (.int n), .val (.int i), s6, s7] [(.long x)])) := S11.trans (own_ldJ X2 hx hZ e2 A1 (j := i) (x := x) hin.1 hrd (g := (mkF m 24 #[.val (.ref a), .val (.long acc), .second, .val (.ref cA), .val (.int n), .val (.int i), s6, s7] [(.int i), (.ref cA)])) rfl rfl (hb hby d3_24) _ (Steps.refl _))
      have S13 : Steps p.tables e below (T2.setTop (mkF m 14 #[.val (.ref a), .val (.long acc), .second, .val (.ref cA), .val (.int n), .val (.int i), s6, s7] [])) (T2.setTop (mkF m 14 #[.val (.ref a), .val (.long (acc + x)), .second, .val (.ref cA), .val (.int n), .val (.int (i + (1 : Int32))), .val (.long x), .second] [])) := by
        refine S12.trans ?_
        refine XS.lstore X2.here hx rfl (hb hby d3_25) rfl (l' := #[.val (.ref a), .val (.long acc), .second, .val (.ref cA), .val (.int n), .val (.int i), .val (.long x), .second]) (by rcases hs6 with ⟨rfl, rfl⟩ | ⟨z, rfl, rfl⟩ <;> rfl) ?_
        show Steps p.tables e below (T2.setTop (mkF m 27 #[.val (.ref a), .val (.long acc), .second, .val (.ref cA), .val (.int n), .val (.int i), .val (.long x), .second] [])) _
        refine XS.lloadN X2.here hx rfl (hb hby d3_27) rfl ?_
        show Steps p.tables e below (T2.setTop (mkF m 28 #[.val (.ref a), .val (.long acc), .second, .val (.ref cA), .val (.int n), .val (.int i), .val (.long x), .second] [(.long acc)])) _
        refine XS.lload X2.here hx rfl (hb hby d3_28) rfl ?_
        show Steps p.tables e below (T2.setTop (mkF m 30 #[.val (.ref a), .val (.long acc), .second, .val (.ref cA), .val (.int n), .val (.int i), .val (.long x), .second] [(.long x), (.long acc)])) _
        refine XS.ladd X2.here hx rfl (hb hby d3_30) rfl ?_
        show Steps p.tables e below (T2.setTop (mkF m 31 #[.val (.ref a), .val (.long acc), .second, .val (.ref cA), .val (.int n), .val (.int i), .val (.long x), .second] [(.long (acc + x))])) _
        refine XS.lstoreN X2.here hx rfl (hb hby d3_31) rfl (l' := #[.val (.ref a), .val (.long (acc + x)), .second, .val (.ref cA), .val (.int n), .val (.int i), .val (.long x), .second]) rfl ?_
        show Steps p.tables e below (T2.setTop (mkF m 32 #[.val (.ref a), .val (.long (acc + x)), .second, .val (.ref cA), .val (.int n), .val (.int i), .val (.long x), .second] [])) _
        refine XS.iinc X2.here hx rfl (hb hby d3_32) rfl (l' := #[.val (.ref a), .val (.long (acc + x)), .second, .val (.ref cA), .val (.int n), .val (.int (i + (1 : Int32))), .val (.long x), .second]) rfl ?_
        show Steps p.tables e below (T2.setTop (mkF m 35 #[.val (.ref a), .val (.long (acc + x)), .second, .val (.ref cA), .val (.int n), .val (.int (i + (1 : Int32))), .val (.long x), .second] [])) _
        refine XS.goto X2.here hx rfl (pc0 := 35) (pc' := 14) rfl (hb hby d3_35) (by decide) (by decide) ?_
        exact Steps.refl _
      obtain ⟨s5, s6', s7', SL⟩ := ih (pr ++ [x]) (i + (1 : Int32)) (acc + x) (.val (.long x)) .second (Or.inr ⟨x, rfl, rfl⟩) (by rw [hxs]; simp) (by rw [hinc, hi]; simp)
      exact ⟨s5, s6', s7', S13.trans SL⟩
  obtain ⟨s5, s6', s7', SL⟩ := LOOP xs [] (0 : Int32) (0 : Int64) .unset .unset (Or.inl ⟨rfl, rfl⟩) rfl (by decide)
  have S14 : Steps p.tables e below Ω (T2.setTop (mkF m 38 #[.val (.ref a), .val (.long (xs.foldl (fun a x => a + x) (0 : Int64))), .second, .val (.ref cA), .val (.int n), s5, s6', s7'] [])) := S6.trans SL
  have S15 : Steps p.tables e below Ω (T2.setTop (mkF m 39 #[.val (.ref a), .val (.long (xs.foldl (fun a x => a + x) (0 : Int64))), .second, .val (.ref cA), .val (.int n), s5, s6', s7'] [(.long (xs.foldl (fun a x => a + x) (0 : Int64)))])) := by
    refine S14.trans ?_
    refine XS.lloadN X2.here hx rfl (hb hby d3_38) rfl ?_
    exact Steps.refl _
  obtain ⟨fs, hr, hrun, hended, hW, hsame⟩ := X2.leave (v := some (.long (xs.foldl (fun a x => a + x) (0 : Int64)))) (fun h => by rw [Bd.returns] at h; cases h)
  have hfin : Steps p.tables e below Ω (T2.setFrames fs) := by
    refine S15.trans ?_
    exact X2.lreturnOut hx Bd.returns (hb hby d3_39) hr
  rw [hΩ] at hfin
  refine ⟨_, _, hfin, hrun, hended, _, _, rfl, ?_, ⟨_, rfl⟩, hW, hsame.mono (by decide) (by decide)⟩
  show Q3 Z a cA xs h0 n0 _ T2.heap _
  rw [e2]
  exact ⟨rfl, N0, rfl⟩
theorem pd_0 : parseMethodDescriptor "([J)V" = some ⟨[(.array .long)], none⟩ := by decide +kernel
theorem pd_1 : parseMethodDescriptor "()J" = some ⟨[], some .long⟩ := by decide +kernel
theorem pn_1 : plainName "com/example/ingest/ingest/common/TopicInfoMessagesPinLaw" = true := by first | (simp [plainName, overriddenIn]; done) | decide +kernel
theorem ef_rm0 (m : MethodId) (x0 : Int32) (x1 : Int64) (x2 : Int64) (x3 : Int64) (x4 : Int64) : entryFrame m #[(.int x0), (.long x1), (.long x2), (.long x3), (.long x4)] maxLocals = mkF m 0 #[.val (.int x0), .val (.long x1), .second, .val (.long x2), .second, .val (.long x3), .second, .val (.long x4), .second, .unset, .unset, .unset, .unset, .unset] [] := by first | (simp [entryFrame, mkF, argsToLocals, Value.category, maxLocals]; done) | rfl
def Q0 (Z : State) (p1 : Int32) (q1 : Int64) (q2 : Int64) (q3 : Int64) (q4 : Int64) (h0 : Heap) (n0 : Nat) (v : Option Value) (h : Heap) (L : List Loc) : Prop := v = some (.int 1) ∧ Fr n0 L
set_option maxRecDepth 65536 in
set_option maxHeartbeats 40000000 in
theorem rm0 (l : Launch) (Z : State) (a0 : Array Value) (hw : ∀ d ∈ tables_1, d.before a0 Z = true) (ws : List Jvm.Cond) (p1 : Int32) (q1 : Int64) (q2 : Int64) (q3 : Int64) (q4 : Int64) (h0 : Heap) (n0 : Nat) (Z0 : n0 ≤ h0.size) :
    MetFree l x (head1 (Jvm.Cond.code x code maxLocals ret :: ws) room_1) (fun aa U => aa = #[(.int p1), (.long q1), (.long q2), (.long q3), (.long q4)] ∧ Z.Warmed39 U.vm ∧ U.heap = h0) (fun _ _ _ _ _ => True) (fun _ U o U' => ∃ v L, o = .returned v ∧ Q0 Z p1 q1 q2 q3 q4 h0 n0 v U'.heap L ∧ FrameEnd U o U' L room_1.cells room_1.slots) := by
  refine MetFree.of_bodySF (plainFor_of_name pn_1) hisR ?_
  intro p e s m args below meth c s₁ Bd hml0 hP hK
  obtain ⟨rfl, hZ, hh⟩ := hP
  have hx := Bd.exec
  have hby := Bd.bytes
  have hml : c.maxLocals = 14 := hml0
  have hown : s.vm.findClass "com/example/ingest/ingest/common/TopicInfoMessagesPinLaw" = some m.cls := findClass_of_methodNamed Bd.named
  have hnm := (name_of_methodNamed Bd.named Bd.method).1
  have X0 : Stand p l e room_1 s m #[(.int p1), (.long q1), (.long q2), (.long q3), (.long q4)] below meth c s₁ [] 0 0 := Stand.of_body Bd
  have e0 : s₁.heap = h0 := by rw [← hh, Bd.state]; rfl
  have N0 := Fr.nil n0
  obtain ⟨Ω, hΩ⟩ : ∃ z, z = s₁.setTop (entryFrame m #[(.int p1), (.long q1), (.long q2), (.long q3), (.long q4)] maxLocals) := ⟨_, rfl⟩
  have S0 : Steps p.tables e below Ω (s₁.setTop (mkF m 0 #[.val (.int p1), .val (.long q1), .second, .val (.long q2), .second, .val (.long q3), .second, .val (.long q4), .second, .unset, .unset, .unset, .unset, .unset] [])) := by rw [hΩ]; exact castTop (ef_rm0 m p1 q1 q2 q3 q4) (Steps.refl _)
  have S1 : Steps p.tables e below Ω (s₁.setTop (mkF m 10 #[.val (.int p1), .val (.long q1), .second, .val (.long q2), .second, .val (.long q3), .second, .val (.long q4), .second, .val (.int ((p1 &&& (2147483647 : Int32)) % (5 : Int32))), .unset, .unset, .unset, .unset] [(.int ((p1 &&& (2147483647 : Int32)) % (5 : Int32)))])) := by
    refine S0.trans ?_
    refine XS.iloadN X0.here hx rfl (hb hby at_0) rfl ?_
    show Steps p.tables e below (s₁.setTop (mkF m 1 #[.val (.int p1), .val (.long q1), .second, .val (.long q2), .second, .val (.long q3), .second, .val (.long q4), .second, .unset, .unset, .unset, .unset, .unset] [(.int p1)])) _
    refine X0.ldcInt hx hown (mvT hZ (hw _ (List.mem_of_getElem? (i := 0) rfl))) (g := (mkF m 1 #[.val (.int p1), .val (.long q1), .second, .val (.long q2), .second, .val (.long q3), .second, .val (.long q4), .second, .unset, .unset, .unset, .unset, .unset] [(.int p1)])) rfl (hb hby at_1) _ ?_
    show Steps p.tables e below (s₁.setTop (mkF m 3 #[.val (.int p1), .val (.long q1), .second, .val (.long q2), .second, .val (.long q3), .second, .val (.long q4), .second, .unset, .unset, .unset, .unset, .unset] [(.int (2147483647 : Int32)), (.int p1)])) _
    refine XS.iand X0.here hx rfl (hb hby at_3) rfl ?_
    show Steps p.tables e below (s₁.setTop (mkF m 4 #[.val (.int p1), .val (.long q1), .second, .val (.long q2), .second, .val (.long q3), .second, .val (.long q4), .second, .unset, .unset, .unset, .unset, .unset] [(.int (p1 &&& (2147483647 : Int32)))])) _
    refine XS.iconst X0.here hx rfl (hb hby at_4) ?_
    show Steps p.tables e below (s₁.setTop (mkF m 5 #[.val (.int p1), .val (.long q1), .second, .val (.long q2), .second, .val (.long q3), .second, .val (.long q4), .second, .unset, .unset, .unset, .unset, .unset] [(.int (5 : Int32)), (.int (p1 &&& (2147483647 : Int32)))])) _
    refine iremM X0 hx rfl (hb hby at_5) rfl (by decide) ?_
    show Steps p.tables e below (s₁.setTop (mkF m 6 #[.val (.int p1), .val (.long q1), .second, .val (.long q2), .second, .val (.long q3), .second, .val (.long q4), .second, .unset, .unset, .unset, .unset, .unset] [(.int ((p1 &&& (2147483647 : Int32)) % (5 : Int32)))])) _
    refine XS.istore X0.here hx rfl (hb hby at_6) rfl (l' := #[.val (.int p1), .val (.long q1), .second, .val (.long q2), .second, .val (.long q3), .second, .val (.long q4), .second, .val (.int ((p1 &&& (2147483647 : Int32)) % (5 : Int32))), .unset, .unset, .unset, .unset]) rfl ?_
    show Steps p.tables e below (s₁.setTop (mkF m 8 #[.val (.int p1), .val (.long q1), .second, .val (.long q2), .second, .val (.long q3), .second, .val (.long q4), .second, .val (.int ((p1 &&& (2147483647 : Int32)) % (5 : Int32))), .unset, .unset, .unset, .unset] [])) _
    refine XS.iload X0.here hx rfl (hb hby at_8) rfl ?_
    exact Steps.refl _
  obtain ⟨sz, h_sz⟩ : ∃ z : Int32, z = ((p1 &&& (2147483647 : Int32)) % (5 : Int32)) := ⟨_, rfl⟩
  rw [← h_sz] at S1
  have hm : (p1 &&& (2147483647 : Int32)).toInt = p1.toInt % (2 ^ 31 : Nat) := c_mask p1 (2147483647 : Int32) 31 (by decide) (by decide)
  have hr5 := c_irem (p1 &&& (2147483647 : Int32)) (5 : Int32) 5 (by decide)
  rw [← h_sz] at hr5
  have hm2 := rng32 p1
  have hs0 : sz.toInt = 0 ∨ sz.toInt = 1 ∨ sz.toInt = 2 ∨ sz.toInt = 3 ∨ sz.toInt = 4 := by omega
  clear hr5 h_sz
  rcases hs0 with hk | hk | hk | hk | hk
  · obtain rfl := own_inj hk (by decide : (0 : Int32).toInt = 0)
    obtain ⟨T2, h2, k2, X2, e2, E2, A2, B2, st2⟩ := newPE X0 hx hZ (hw _ (List.mem_of_getElem? (i := 1) rfl)) e0 (g := (mkF m 10 #[.val (.int p1), .val (.long q1), .second, .val (.long q2), .second, .val (.long q3), .second, .val (.long q4), .second, .val (.int (0 : Int32)), .unset, .unset, .unset, .unset] [(.int (0 : Int32))])) rfl (hb hby at_10) rfl (by decide) (cap := 0) (by decide) (by decide) (by decide) (by decide) (ad := "[J") (by decide)
    obtain ⟨b, s_b⟩ : ∃ z, z = h0.size := ⟨_, rfl⟩
    rw [← s_b] at A2 B2 st2
    have g_b : n0 ≤ b := Nat.le_trans Z0 (Nat.le_of_eq s_b.symm)
    have S3 : Steps p.tables e below Ω (T2.setTop (mkF m 12 #[.val (.int p1), .val (.long q1), .second, .val (.long q2), .second, .val (.long q3), .second, .val (.long q4), .second, .val (.int (0 : Int32)), .unset, .unset, .unset, .unset] [(.ref b)])) := S1.trans (st2 _ (Steps.refl _))
    have V0 : LA Z h2 b .long [] := LA.new A2 0 rfl
    have B0 := B2
    have S4 : Steps p.tables e below Ω (T2.setTop (mkF m 88 #[.val (.int p1), .val (.long q1), .second, .val (.long q2), .second, .val (.long q3), .second, .val (.long q4), .second, .val (.int (0 : Int32)), .val (.ref b), .val (.long (0 : Int64)), .second, .unset] [])) := by
      refine S3.trans ?_
      refine XS.astore X2.here hx rfl (hb hby at_12) rfl rfl (l' := #[.val (.int p1), .val (.long q1), .second, .val (.long q2), .second, .val (.long q3), .second, .val (.long q4), .second, .val (.int (0 : Int32)), .val (.ref b), .unset, .unset, .unset]) rfl ?_
      show Steps p.tables e below (T2.setTop (mkF m 14 #[.val (.int p1), .val (.long q1), .second, .val (.long q2), .second, .val (.long q3), .second, .val (.long q4), .second, .val (.int (0 : Int32)), .val (.ref b), .unset, .unset, .unset] [])) _
      refine XS.lconst X2.here hx rfl (hb hby at_14) ?_
      show Steps p.tables e below (T2.setTop (mkF m 15 #[.val (.int p1), .val (.long q1), .second, .val (.long q2), .second, .val (.long q3), .second, .val (.long q4), .second, .val (.int (0 : Int32)), .val (.ref b), .unset, .unset, .unset] [(.long (0 : Int64))])) _
      refine XS.lstore X2.here hx rfl (hb hby at_15) rfl (l' := #[.val (.int p1), .val (.long q1), .second, .val (.long q2), .second, .val (.long q3), .second, .val (.long q4), .second, .val (.int (0 : Int32)), .val (.ref b), .val (.long (0 : Int64)), .second, .unset]) rfl ?_
      show Steps p.tables e below (T2.setTop (mkF m 17 #[.val (.int p1), .val (.long q1), .second, .val (.long q2), .second, .val (.long q3), .second, .val (.long q4), .second, .val (.int (0 : Int32)), .val (.ref b), .val (.long (0 : Int64)), .second, .unset] [])) _
      refine XS.iload X2.here hx rfl (hb hby at_17) rfl ?_
      show Steps p.tables e below (T2.setTop (mkF m 19 #[.val (.int p1), .val (.long q1), .second, .val (.long q2), .second, .val (.long q3), .second, .val (.long q4), .second, .val (.int (0 : Int32)), .val (.ref b), .val (.long (0 : Int64)), .second, .unset] [(.int (0 : Int32))])) _
      refine XS.ifYes X2.here hx rfl (pc0 := 19) (pc' := 33) rfl (hb hby at_19) rfl (XT.i0_le_t (by decide)) (by decide) (by decide) ?_
      show Steps p.tables e below (T2.setTop (mkF m 33 #[.val (.int p1), .val (.long q1), .second, .val (.long q2), .second, .val (.long q3), .second, .val (.long q4), .second, .val (.int (0 : Int32)), .val (.ref b), .val (.long (0 : Int64)), .second, .unset] [])) _
      refine XS.iload X2.here hx rfl (hb hby at_33) rfl ?_
      show Steps p.tables e below (T2.setTop (mkF m 35 #[.val (.int p1), .val (.long q1), .second, .val (.long q2), .second, .val (.long q3), .second, .val (.long q4), .second, .val (.int (0 : Int32)), .val (.ref b), .val (.long (0 : Int64)), .second, .unset] [(.int (0 : Int32))])) _
      refine XS.iconst X2.here hx rfl (hb hby at_35) ?_
      show Steps p.tables e below (T2.setTop (mkF m 36 #[.val (.int p1), .val (.long q1), .second, .val (.long q2), .second, .val (.long q3), .second, .val (.long q4), .second, .val (.int (0 : Int32)), .val (.ref b), .val (.long (0 : Int64)), .second, .unset] [(.int (1 : Int32)), (.int (0 : Int32))])) _
      refine XS.icmpYes X2.here hx rfl (pc0 := 36) (pc' := 50) rfl (hb hby at_36) rfl (XT.ii_le_t (by decide)) (by decide) (by decide) ?_
      show Steps p.tables e below (T2.setTop (mkF m 50 #[.val (.int p1), .val (.long q1), .second, .val (.long q2), .second, .val (.long q3), .second, .val (.long q4), .second, .val (.int (0 : Int32)), .val (.ref b), .val (.long (0 : Int64)), .second, .unset] [])) _
      refine XS.iload X2.here hx rfl (hb hby at_50) rfl ?_
      show Steps p.tables e below (T2.setTop (mkF m 52 #[.val (.int p1), .val (.long q1), .second, .val (.long q2), .second, .val (.long q3), .second, .val (.long q4), .second, .val (.int (0 : Int32)), .val (.ref b), .val (.long (0 : Int64)), .second, .unset] [(.int (0 : Int32))])) _
      refine XS.iconst X2.here hx rfl (hb hby at_52) ?_
      show Steps p.tables e below (T2.setTop (mkF m 53 #[.val (.int p1), .val (.long q1), .second, .val (.long q2), .second, .val (.long q3), .second, .val (.long q4), .second, .val (.int (0 : Int32)), .val (.ref b), .val (.long (0 : Int64)), .second, .unset] [(.int (2 : Int32)), (.int (0 : Int32))])) _
      refine XS.icmpYes X2.here hx rfl (pc0 := 53) (pc' := 69) rfl (hb hby at_53) rfl (XT.ii_le_t (by decide)) (by decide) (by decide) ?_
      show Steps p.tables e below (T2.setTop (mkF m 69 #[.val (.int p1), .val (.long q1), .second, .val (.long q2), .second, .val (.long q3), .second, .val (.long q4), .second, .val (.int (0 : Int32)), .val (.ref b), .val (.long (0 : Int64)), .second, .unset] [])) _
      refine XS.iload X2.here hx rfl (hb hby at_69) rfl ?_
      show Steps p.tables e below (T2.setTop (mkF m 71 #[.val (.int p1), .val (.long q1), .second, .val (.long q2), .second, .val (.long q3), .second, .val (.long q4), .second, .val (.int (0 : Int32)), .val (.ref b), .val (.long (0 : Int64)), .second, .unset] [(.int (0 : Int32))])) _
      refine XS.iconst X2.here hx rfl (hb hby at_71) ?_
      show Steps p.tables e below (T2.setTop (mkF m 72 #[.val (.int p1), .val (.long q1), .second, .val (.long q2), .second, .val (.long q3), .second, .val (.long q4), .second, .val (.int (0 : Int32)), .val (.ref b), .val (.long (0 : Int64)), .second, .unset] [(.int (3 : Int32)), (.int (0 : Int32))])) _
      refine XS.icmpYes X2.here hx rfl (pc0 := 72) (pc' := 88) rfl (hb hby at_72) rfl (XT.ii_le_t (by decide)) (by decide) (by decide) ?_
      exact Steps.refl _
    obtain ⟨T5, h5, X5, e5, E5, A5, D5, -, st5⟩ := newO X2 hx hZ hown (hw _ (List.mem_of_getElem? (i := 2) rfl)) (hw _ (List.mem_of_getElem? (i := 3) rfl)) (hw _ (List.mem_of_getElem? (i := 4) rfl)) e2 (g := (mkF m 88 #[.val (.int p1), .val (.long q1), .second, .val (.long q2), .second, .val (.long q3), .second, .val (.long q4), .second, .val (.int (0 : Int32)), .val (.ref b), .val (.long (0 : Int64)), .second, .unset] [])) rfl (hb hby at_88) (by decide) (by decide)
    obtain ⟨t, s_t⟩ : ∃ z, z = h2.size := ⟨_, rfl⟩
    rw [← s_t] at A5 D5 st5
    have g_t : n0 ≤ t := Nat.le_trans (Nat.le_trans Z0 E2.1) (Nat.le_of_eq s_t.symm)
    have F_endOffsets_t : Fld Z h5 t "com/example/ingest/ingest/common/TopicInfo" "endOffsets" "[J" .null := D5 (Or.inr (hw _ (List.mem_of_getElem? (i := 21) rfl))) (ty := (.array .long)) (by decide)
    have S6 : Steps p.tables e below Ω (T5.setTop (mkF m 91 #[.val (.int p1), .val (.long q1), .second, .val (.long q2), .second, .val (.long q3), .second, .val (.long q4), .second, .val (.int (0 : Int32)), .val (.ref b), .val (.long (0 : Int64)), .second, .unset] [(.ref t)])) := S4.trans (st5 _ (Steps.refl _))
    have VV : LA Z h5 b .long (List.map Value.long []) := V0.ext E5
    have BB := B0.ext E5
    have S7 : Steps p.tables e below Ω (T5.setTop (mkF m 94 #[.val (.int p1), .val (.long q1), .second, .val (.long q2), .second, .val (.long q3), .second, .val (.long q4), .second, .val (.int (0 : Int32)), .val (.ref b), .val (.long (0 : Int64)), .second, .unset] [(.ref b), (.ref t), (.ref t)])) := by
      refine S6.trans ?_
      refine XS.dup X5.here hx rfl (hb hby at_91) rfl rfl ?_
      show Steps p.tables e below (T5.setTop (mkF m 92 #[.val (.int p1), .val (.long q1), .second, .val (.long q2), .second, .val (.long q3), .second, .val (.long q4), .second, .val (.int (0 : Int32)), .val (.ref b), .val (.long (0 : Int64)), .second, .unset] [(.ref t), (.ref t)])) _
      refine XS.aload X5.here hx rfl (hb hby at_92) rfl rfl ?_
      exact Steps.refl _
    obtain ⟨_, _, ⟨T8, L8, k8, n8⟩, -, X8, ⟨Lc8, hQ8, l8, y8, z8⟩, st8⟩ := X5.specialBack hx (y := (⟨"com/example/ingest/ingest/common/TopicInfo", "<init>", "([J)V"⟩ : MethodName)) rfl hown (mvT hZ (hw _ (List.mem_of_getElem? (i := 5) rfl))) (mvT hZ (hw _ (List.mem_of_getElem? (i := 6) rfl))) (mvT hZ (hw _ (List.mem_of_getElem? (i := 7) rfl))) (by decide) (backOf (W := 1) (rm1 l Z a0 hw [] t b [] h5 n0 (Nat.le_trans (Nat.le_trans Z0 E2.1) E5.1) A5 F_endOffsets_t g_t VV BB (Nat.le_of_ble_eq_true rfl)) hZ (hw _ (List.mem_of_getElem? (i := 7) rfl)) (hw _ (List.mem_of_getElem? (i := 4) rfl)) (by decide) (by decide)) (g := (mkF m 94 #[.val (.int p1), .val (.long q1), .second, .val (.long q2), .second, .val (.long q3), .second, .val (.long q4), .second, .val (.int (0 : Int32)), .val (.ref b), .val (.long (0 : Int64)), .second, .unset] [(.ref b), (.ref t), (.ref t)])) rfl (by rw [hml]; rfl) (Steps.refl _) (a := t) (argsL := [(.ref b)]) (rest := [(.ref t)]) (lenOf pd_0 rfl) rfl (by show 2 * 0 + _ ≤ _; exact Nat.le_of_eq rfl) (hb hby at_94) (fun _ _ => ⟨rfl, e5, (by decide : 2 + 1 ≤ _), (by decide : 1 + 4 ≤ _)⟩)
    dsimp only [Pt.U, Pt.locs, Pt.cells, Pt.slots] at X8 l8 y8 z8 st8 hQ8
    subst l8 y8 z8
    obtain ⟨cc, rfl, N8q, K8, E8, F1, LA1⟩ := hQ8
    have N8 := Fr.app N0 N8q
    have S9 : Steps p.tables e below Ω (T8.setTop (mkF m 97 #[.val (.int p1), .val (.long q1), .second, .val (.long q2), .second, .val (.long q3), .second, .val (.long q4), .second, .val (.int (0 : Int32)), .val (.ref b), .val (.long (0 : Int64)), .second, .unset] [(.ref t)])) := S7.trans st8
    have S10 : Steps p.tables e below Ω (T8.setTop (mkF m 101 #[.val (.int p1), .val (.long q1), .second, .val (.long q2), .second, .val (.long q3), .second, .val (.long q4), .second, .val (.int (0 : Int32)), .val (.ref b), .val (.long (0 : Int64)), .second, .val (.ref t)] [(.ref t)])) := by
      refine S9.trans ?_
      refine XS.astore X8.here hx rfl (hb hby at_97) rfl rfl (l' := #[.val (.int p1), .val (.long q1), .second, .val (.long q2), .second, .val (.long q3), .second, .val (.long q4), .second, .val (.int (0 : Int32)), .val (.ref b), .val (.long (0 : Int64)), .second, .val (.ref t)]) rfl ?_
      show Steps p.tables e below (T8.setTop (mkF m 99 #[.val (.int p1), .val (.long q1), .second, .val (.long q2), .second, .val (.long q3), .second, .val (.long q4), .second, .val (.int (0 : Int32)), .val (.ref b), .val (.long (0 : Int64)), .second, .val (.ref t)] [])) _
      refine XS.aload X8.here hx rfl (hb hby at_99) rfl rfl ?_
      exact Steps.refl _
    obtain ⟨cq11, kq11, q11a, q11b, q11c⟩ := isOf hZ rfl E8
    obtain ⟨_, _, ⟨T11, L11, k11, n11⟩, -, X11, ⟨Lc11, hQ11, l11, y11, z11⟩, st11⟩ := X8.virtualBack hx (y := (⟨"com/example/ingest/ingest/common/TopicInfo", "messages", "()J"⟩ : MethodName)) (z := (⟨"com/example/ingest/ingest/common/TopicInfo", "messages", "()J"⟩ : MethodName)) hown (mvT hZ (hw _ (List.mem_of_getElem? (i := 22) rfl))) (mvT hZ (hw _ (List.mem_of_getElem? (i := 23) rfl))) (notFace_of_selects (args := #[]) (mvT hZ (hw _ (List.mem_of_getElem? (i := 25) rfl)))) (mvT hZ (hw _ (List.mem_of_getElem? (i := 25) rfl))) (mvT hZ (hw _ (List.mem_of_getElem? (i := 24) rfl))) (by decide) (backOf (W := 0) (rm3 l Z a0 hw [] t cc [] T8.heap n0 (Nat.le_trans (Nat.le_trans (Nat.le_trans Z0 E2.1) E5.1) K8.1) F1 LA1 (Nat.le_of_ble_eq_true rfl)) hZ (hw _ (List.mem_of_getElem? (i := 26) rfl)) (hw _ (List.mem_of_getElem? (i := 4) rfl)) (by decide) (by decide)) q11a q11c (g := (mkF m 101 #[.val (.int p1), .val (.long q1), .second, .val (.long q2), .second, .val (.long q3), .second, .val (.long q4), .second, .val (.int (0 : Int32)), .val (.ref b), .val (.long (0 : Int64)), .second, .val (.ref t)] [(.ref t)])) rfl (by rw [hml]; rfl) (Steps.refl _) (argsL := []) (rest := []) (lenOf pd_1 rfl) rfl (by show 2 * 0 + _ ≤ _; exact Nat.le_of_eq rfl) (hb hby at_101) (fun _ _ => ⟨rfl, rfl, (by decide : 3 + 0 ≤ _), (by decide : 5 + 0 ≤ _)⟩)
    dsimp only [Pt.U, Pt.locs, Pt.cells, Pt.slots] at X11 l11 y11 z11 st11 hQ11
    subst l11 y11 z11
    obtain ⟨rfl, N11q, e11⟩ := hQ11
    have N11 := Fr.app N8 N11q
    have S12 : Steps p.tables e below Ω (T11.setTop (mkF m 104 #[.val (.int p1), .val (.long q1), .second, .val (.long q2), .second, .val (.long q3), .second, .val (.long q4), .second, .val (.int (0 : Int32)), .val (.ref b), .val (.long (0 : Int64)), .second, .val (.ref t)] [(.long (([] : List Int64).foldl (fun a x => a + x) (0 : Int64)))])) := S10.trans st11
    have S13 : Steps p.tables e below Ω (T11.setTop (mkF m 107 #[.val (.int p1), .val (.long q1), .second, .val (.long q2), .second, .val (.long q3), .second, .val (.long q4), .second, .val (.int (0 : Int32)), .val (.ref b), .val (.long (0 : Int64)), .second, .val (.ref t)] [(.int (lcmpW (([] : List Int64).foldl (fun a x => a + x) (0 : Int64)) (0 : Int64)))])) := by
      refine S12.trans ?_
      refine XS.lload X11.here hx rfl (hb hby at_104) rfl ?_
      show Steps p.tables e below (T11.setTop (mkF m 106 #[.val (.int p1), .val (.long q1), .second, .val (.long q2), .second, .val (.long q3), .second, .val (.long q4), .second, .val (.int (0 : Int32)), .val (.ref b), .val (.long (0 : Int64)), .second, .val (.ref t)] [(.long (0 : Int64)), (.long (([] : List Int64).foldl (fun a x => a + x) (0 : Int64)))])) _
      refine XS.lcmp X11.here hx rfl (hb hby at_106) rfl ?_
      exact Steps.refl _
    have S14 : Steps p.tables e below Ω (T11.setTop (mkF m 115 #[.val (.int p1), .val (.long q1), .second, .val (.long q2), .second, .val (.long q3), .second, .val (.long q4), .second, .val (.int (0 : Int32)), .val (.ref b), .val (.long (0 : Int64)), .second, .val (.ref t)] [(.int (1 : Int32))])) := by
      refine S13.trans ?_
      refine XS.ifNo X11.here hx rfl (hb hby at_107) rfl (XT.ll_ne_f rfl) ?_
      show Steps p.tables e below (T11.setTop (mkF m 110 #[.val (.int p1), .val (.long q1), .second, .val (.long q2), .second, .val (.long q3), .second, .val (.long q4), .second, .val (.int (0 : Int32)), .val (.ref b), .val (.long (0 : Int64)), .second, .val (.ref t)] [])) _
      refine XS.iconst X11.here hx rfl (hb hby at_110) ?_
      show Steps p.tables e below (T11.setTop (mkF m 111 #[.val (.int p1), .val (.long q1), .second, .val (.long q2), .second, .val (.long q3), .second, .val (.long q4), .second, .val (.int (0 : Int32)), .val (.ref b), .val (.long (0 : Int64)), .second, .val (.ref t)] [(.int (1 : Int32))])) _
      refine XS.goto X11.here hx rfl (pc0 := 111) (pc' := 115) rfl (hb hby at_111) (by decide) (by decide) ?_
      exact Steps.refl _
    obtain ⟨fs, hr, hrun, hended, hW, hsame⟩ := X11.leave (v := some (.int (1 : Int32))) (fun h => by rw [Bd.returns] at h; cases h)
    have hfin : Steps p.tables e below Ω (T11.setFrames fs) := by
      refine S14.trans ?_
      exact own_retZ X11 hx Bd.returns (by decide) (hb hby at_115) hr
    rw [hΩ] at hfin
    refine ⟨_, _, hfin, hrun, hended, _, _, rfl, ?_, ⟨_, rfl⟩, hW, hsame.mono (by decide) (by decide)⟩
    show Q0 Z p1 q1 q2 q3 q4 h0 n0 _ T11.heap _
    rw [e11]
    exact ⟨rfl, N11⟩
  · obtain rfl := own_inj hk (by decide : (1 : Int32).toInt = 1)
    obtain ⟨T15, h15, k15, X15, e15, E15, A15, B15, st15⟩ := newPE X0 hx hZ (hw _ (List.mem_of_getElem? (i := 1) rfl)) e0 (g := (mkF m 10 #[.val (.int p1), .val (.long q1), .second, .val (.long q2), .second, .val (.long q3), .second, .val (.long q4), .second, .val (.int (1 : Int32)), .unset, .unset, .unset, .unset] [(.int (1 : Int32))])) rfl (hb hby at_10) rfl (by decide) (cap := 1) (by decide) (by decide) (by decide) (by decide) (ad := "[J") (by decide)
    obtain ⟨b, s_b⟩ : ∃ z, z = h0.size := ⟨_, rfl⟩
    rw [← s_b] at A15 B15 st15
    have g_b : n0 ≤ b := Nat.le_trans Z0 (Nat.le_of_eq s_b.symm)
    have S16 : Steps p.tables e below Ω (T15.setTop (mkF m 12 #[.val (.int p1), .val (.long q1), .second, .val (.long q2), .second, .val (.long q3), .second, .val (.long q4), .second, .val (.int (1 : Int32)), .unset, .unset, .unset, .unset] [(.ref b)])) := S1.trans (st15 _ (Steps.refl _))
    have V0 : LA Z h15 b .long [(.long (0 : Int64))] := LA.new A15 1 rfl
    have B0 := B15
    have S17 : Steps p.tables e below Ω (T15.setTop (mkF m 26 #[.val (.int p1), .val (.long q1), .second, .val (.long q2), .second, .val (.long q3), .second, .val (.long q4), .second, .val (.int (1 : Int32)), .val (.ref b), .val (.long (0 : Int64)), .second, .unset] [(.long q1), (.int (0 : Int32)), (.ref b)])) := by
      refine S16.trans ?_
      refine XS.astore X15.here hx rfl (hb hby at_12) rfl rfl (l' := #[.val (.int p1), .val (.long q1), .second, .val (.long q2), .second, .val (.long q3), .second, .val (.long q4), .second, .val (.int (1 : Int32)), .val (.ref b), .unset, .unset, .unset]) rfl ?_
      show Steps p.tables e below (T15.setTop (mkF m 14 #[.val (.int p1), .val (.long q1), .second, .val (.long q2), .second, .val (.long q3), .second, .val (.long q4), .second, .val (.int (1 : Int32)), .val (.ref b), .unset, .unset, .unset] [])) _
      refine XS.lconst X15.here hx rfl (hb hby at_14) ?_
      show Steps p.tables e below (T15.setTop (mkF m 15 #[.val (.int p1), .val (.long q1), .second, .val (.long q2), .second, .val (.long q3), .second, .val (.long q4), .second, .val (.int (1 : Int32)), .val (.ref b), .unset, .unset, .unset] [(.long (0 : Int64))])) _
      refine XS.lstore X15.here hx rfl (hb hby at_15) rfl (l' := #[.val (.int p1), .val (.long q1), .second, .val (.long q2), .second, .val (.long q3), .second, .val (.long q4), .second, .val (.int (1 : Int32)), .val (.ref b), .val (.long (0 : Int64)), .second, .unset]) rfl ?_
      show Steps p.tables e below (T15.setTop (mkF m 17 #[.val (.int p1), .val (.long q1), .second, .val (.long q2), .second, .val (.long q3), .second, .val (.long q4), .second, .val (.int (1 : Int32)), .val (.ref b), .val (.long (0 : Int64)), .second, .unset] [])) _
      refine XS.iload X15.here hx rfl (hb hby at_17) rfl ?_
      show Steps p.tables e below (T15.setTop (mkF m 19 #[.val (.int p1), .val (.long q1), .second, .val (.long q2), .second, .val (.long q3), .second, .val (.long q4), .second, .val (.int (1 : Int32)), .val (.ref b), .val (.long (0 : Int64)), .second, .unset] [(.int (1 : Int32))])) _
      refine XS.ifNo X15.here hx rfl (hb hby at_19) rfl (XT.i0_le_f (by decide)) ?_
      show Steps p.tables e below (T15.setTop (mkF m 22 #[.val (.int p1), .val (.long q1), .second, .val (.long q2), .second, .val (.long q3), .second, .val (.long q4), .second, .val (.int (1 : Int32)), .val (.ref b), .val (.long (0 : Int64)), .second, .unset] [])) _
      refine XS.aload X15.here hx rfl (hb hby at_22) rfl rfl ?_
      show Steps p.tables e below (T15.setTop (mkF m 24 #[.val (.int p1), .val (.long q1), .second, .val (.long q2), .second, .val (.long q3), .second, .val (.long q4), .second, .val (.int (1 : Int32)), .val (.ref b), .val (.long (0 : Int64)), .second, .unset] [(.ref b)])) _
      refine XS.iconst X15.here hx rfl (hb hby at_24) ?_
      show Steps p.tables e below (T15.setTop (mkF m 25 #[.val (.int p1), .val (.long q1), .second, .val (.long q2), .second, .val (.long q3), .second, .val (.long q4), .second, .val (.int (1 : Int32)), .val (.ref b), .val (.long (0 : Int64)), .second, .unset] [(.int (0 : Int32)), (.ref b)])) _
      refine XS.lloadN X15.here hx rfl (hb hby at_25) rfl ?_
      exact Steps.refl _
    obtain ⟨T18, h18, X18, e18, W18, V18', st18⟩ := own_stJ X15 hx hZ e15 V0 (j := (0 : Int32)) (i := 0) rfl ⟨by decide, Nat.le_of_ble_eq_true rfl⟩ (g := (mkF m 26 #[.val (.int p1), .val (.long q1), .second, .val (.long q2), .second, .val (.long q3), .second, .val (.long q4), .second, .val (.int (1 : Int32)), .val (.ref b), .val (.long (0 : Int64)), .second, .unset] [(.long q1), (.int (0 : Int32)), (.ref b)])) rfl rfl (hb hby at_26)
    have V18 : LA Z h18 b .long [(.long q1)] := V18'
    have S19 : Steps p.tables e below Ω (T18.setTop (mkF m 27 #[.val (.int p1), .val (.long q1), .second, .val (.long q2), .second, .val (.long q3), .second, .val (.long q4), .second, .val (.int (1 : Int32)), .val (.ref b), .val (.long (0 : Int64)), .second, .unset] [])) := S17.trans (st18 _ (Steps.refl _))
    have N18 := Fr.snoc X18 N0 g_b
    have B100 := B0.wr W18
    have S20 : Steps p.tables e below Ω (T18.setTop (mkF m 88 #[.val (.int p1), .val (.long q1), .second, .val (.long q2), .second, .val (.long q3), .second, .val (.long q4), .second, .val (.int (1 : Int32)), .val (.ref b), .val (.long ((0 : Int64) + q1)), .second, .unset] [])) := by
      refine S19.trans ?_
      refine XS.lload X18.here hx rfl (hb hby at_27) rfl ?_
      show Steps p.tables e below (T18.setTop (mkF m 29 #[.val (.int p1), .val (.long q1), .second, .val (.long q2), .second, .val (.long q3), .second, .val (.long q4), .second, .val (.int (1 : Int32)), .val (.ref b), .val (.long (0 : Int64)), .second, .unset] [(.long (0 : Int64))])) _
      refine XS.lloadN X18.here hx rfl (hb hby at_29) rfl ?_
      show Steps p.tables e below (T18.setTop (mkF m 30 #[.val (.int p1), .val (.long q1), .second, .val (.long q2), .second, .val (.long q3), .second, .val (.long q4), .second, .val (.int (1 : Int32)), .val (.ref b), .val (.long (0 : Int64)), .second, .unset] [(.long q1), (.long (0 : Int64))])) _
      refine XS.ladd X18.here hx rfl (hb hby at_30) rfl ?_
      show Steps p.tables e below (T18.setTop (mkF m 31 #[.val (.int p1), .val (.long q1), .second, .val (.long q2), .second, .val (.long q3), .second, .val (.long q4), .second, .val (.int (1 : Int32)), .val (.ref b), .val (.long (0 : Int64)), .second, .unset] [(.long ((0 : Int64) + q1))])) _
      refine XS.lstore X18.here hx rfl (hb hby at_31) rfl (l' := #[.val (.int p1), .val (.long q1), .second, .val (.long q2), .second, .val (.long q3), .second, .val (.long q4), .second, .val (.int (1 : Int32)), .val (.ref b), .val (.long ((0 : Int64) + q1)), .second, .unset]) rfl ?_
      show Steps p.tables e below (T18.setTop (mkF m 33 #[.val (.int p1), .val (.long q1), .second, .val (.long q2), .second, .val (.long q3), .second, .val (.long q4), .second, .val (.int (1 : Int32)), .val (.ref b), .val (.long ((0 : Int64) + q1)), .second, .unset] [])) _
      refine XS.iload X18.here hx rfl (hb hby at_33) rfl ?_
      show Steps p.tables e below (T18.setTop (mkF m 35 #[.val (.int p1), .val (.long q1), .second, .val (.long q2), .second, .val (.long q3), .second, .val (.long q4), .second, .val (.int (1 : Int32)), .val (.ref b), .val (.long ((0 : Int64) + q1)), .second, .unset] [(.int (1 : Int32))])) _
      refine XS.iconst X18.here hx rfl (hb hby at_35) ?_
      show Steps p.tables e below (T18.setTop (mkF m 36 #[.val (.int p1), .val (.long q1), .second, .val (.long q2), .second, .val (.long q3), .second, .val (.long q4), .second, .val (.int (1 : Int32)), .val (.ref b), .val (.long ((0 : Int64) + q1)), .second, .unset] [(.int (1 : Int32)), (.int (1 : Int32))])) _
      refine XS.icmpYes X18.here hx rfl (pc0 := 36) (pc' := 50) rfl (hb hby at_36) rfl (XT.ii_le_t (by decide)) (by decide) (by decide) ?_
      show Steps p.tables e below (T18.setTop (mkF m 50 #[.val (.int p1), .val (.long q1), .second, .val (.long q2), .second, .val (.long q3), .second, .val (.long q4), .second, .val (.int (1 : Int32)), .val (.ref b), .val (.long ((0 : Int64) + q1)), .second, .unset] [])) _
      refine XS.iload X18.here hx rfl (hb hby at_50) rfl ?_
      show Steps p.tables e below (T18.setTop (mkF m 52 #[.val (.int p1), .val (.long q1), .second, .val (.long q2), .second, .val (.long q3), .second, .val (.long q4), .second, .val (.int (1 : Int32)), .val (.ref b), .val (.long ((0 : Int64) + q1)), .second, .unset] [(.int (1 : Int32))])) _
      refine XS.iconst X18.here hx rfl (hb hby at_52) ?_
      show Steps p.tables e below (T18.setTop (mkF m 53 #[.val (.int p1), .val (.long q1), .second, .val (.long q2), .second, .val (.long q3), .second, .val (.long q4), .second, .val (.int (1 : Int32)), .val (.ref b), .val (.long ((0 : Int64) + q1)), .second, .unset] [(.int (2 : Int32)), (.int (1 : Int32))])) _
      refine XS.icmpYes X18.here hx rfl (pc0 := 53) (pc' := 69) rfl (hb hby at_53) rfl (XT.ii_le_t (by decide)) (by decide) (by decide) ?_
      show Steps p.tables e below (T18.setTop (mkF m 69 #[.val (.int p1), .val (.long q1), .second, .val (.long q2), .second, .val (.long q3), .second, .val (.long q4), .second, .val (.int (1 : Int32)), .val (.ref b), .val (.long ((0 : Int64) + q1)), .second, .unset] [])) _
      refine XS.iload X18.here hx rfl (hb hby at_69) rfl ?_
      show Steps p.tables e below (T18.setTop (mkF m 71 #[.val (.int p1), .val (.long q1), .second, .val (.long q2), .second, .val (.long q3), .second, .val (.long q4), .second, .val (.int (1 : Int32)), .val (.ref b), .val (.long ((0 : Int64) + q1)), .second, .unset] [(.int (1 : Int32))])) _
      refine XS.iconst X18.here hx rfl (hb hby at_71) ?_
      show Steps p.tables e below (T18.setTop (mkF m 72 #[.val (.int p1), .val (.long q1), .second, .val (.long q2), .second, .val (.long q3), .second, .val (.long q4), .second, .val (.int (1 : Int32)), .val (.ref b), .val (.long ((0 : Int64) + q1)), .second, .unset] [(.int (3 : Int32)), (.int (1 : Int32))])) _
      refine XS.icmpYes X18.here hx rfl (pc0 := 72) (pc' := 88) rfl (hb hby at_72) rfl (XT.ii_le_t (by decide)) (by decide) (by decide) ?_
      exact Steps.refl _
    obtain ⟨T21, h21, X21, e21, E21, A21, D21, -, st21⟩ := newO X18 hx hZ hown (hw _ (List.mem_of_getElem? (i := 2) rfl)) (hw _ (List.mem_of_getElem? (i := 3) rfl)) (hw _ (List.mem_of_getElem? (i := 4) rfl)) e18 (g := (mkF m 88 #[.val (.int p1), .val (.long q1), .second, .val (.long q2), .second, .val (.long q3), .second, .val (.long q4), .second, .val (.int (1 : Int32)), .val (.ref b), .val (.long ((0 : Int64) + q1)), .second, .unset] [])) rfl (hb hby at_88) (by decide) (by decide)
    obtain ⟨t, s_t⟩ : ∃ z, z = h18.size := ⟨_, rfl⟩
    rw [← s_t] at A21 D21 st21
    have g_t : n0 ≤ t := Nat.le_trans (Nat.le_trans (Nat.le_trans Z0 E15.1) (Keep.of_wr W18).1) (Nat.le_of_eq s_t.symm)
    have F_endOffsets_t : Fld Z h21 t "com/example/ingest/ingest/common/TopicInfo" "endOffsets" "[J" .null := D21 (Or.inr (hw _ (List.mem_of_getElem? (i := 21) rfl))) (ty := (.array .long)) (by decide)
    have S22 : Steps p.tables e below Ω (T21.setTop (mkF m 91 #[.val (.int p1), .val (.long q1), .second, .val (.long q2), .second, .val (.long q3), .second, .val (.long q4), .second, .val (.int (1 : Int32)), .val (.ref b), .val (.long ((0 : Int64) + q1)), .second, .unset] [(.ref t)])) := S20.trans (st21 _ (Steps.refl _))
    have VV : LA Z h21 b .long (List.map Value.long [q1]) := V18.ext E21
    have BB := B100.ext E21
    have S23 : Steps p.tables e below Ω (T21.setTop (mkF m 94 #[.val (.int p1), .val (.long q1), .second, .val (.long q2), .second, .val (.long q3), .second, .val (.long q4), .second, .val (.int (1 : Int32)), .val (.ref b), .val (.long ((0 : Int64) + q1)), .second, .unset] [(.ref b), (.ref t), (.ref t)])) := by
      refine S22.trans ?_
      refine XS.dup X21.here hx rfl (hb hby at_91) rfl rfl ?_
      show Steps p.tables e below (T21.setTop (mkF m 92 #[.val (.int p1), .val (.long q1), .second, .val (.long q2), .second, .val (.long q3), .second, .val (.long q4), .second, .val (.int (1 : Int32)), .val (.ref b), .val (.long ((0 : Int64) + q1)), .second, .unset] [(.ref t), (.ref t)])) _
      refine XS.aload X21.here hx rfl (hb hby at_92) rfl rfl ?_
      exact Steps.refl _
    obtain ⟨_, _, ⟨T24, L24, k24, n24⟩, -, X24, ⟨Lc24, hQ24, l24, y24, z24⟩, st24⟩ := X21.specialBack hx (y := (⟨"com/example/ingest/ingest/common/TopicInfo", "<init>", "([J)V"⟩ : MethodName)) rfl hown (mvT hZ (hw _ (List.mem_of_getElem? (i := 5) rfl))) (mvT hZ (hw _ (List.mem_of_getElem? (i := 6) rfl))) (mvT hZ (hw _ (List.mem_of_getElem? (i := 7) rfl))) (by decide) (backOf (W := 1) (rm1 l Z a0 hw [] t b [q1] h21 n0 (Nat.le_trans (Nat.le_trans (Nat.le_trans Z0 E15.1) (Keep.of_wr W18).1) E21.1) A21 F_endOffsets_t g_t VV BB (Nat.le_of_ble_eq_true rfl)) hZ (hw _ (List.mem_of_getElem? (i := 7) rfl)) (hw _ (List.mem_of_getElem? (i := 4) rfl)) (by decide) (by decide)) (g := (mkF m 94 #[.val (.int p1), .val (.long q1), .second, .val (.long q2), .second, .val (.long q3), .second, .val (.long q4), .second, .val (.int (1 : Int32)), .val (.ref b), .val (.long ((0 : Int64) + q1)), .second, .unset] [(.ref b), (.ref t), (.ref t)])) rfl (by rw [hml]; rfl) (Steps.refl _) (a := t) (argsL := [(.ref b)]) (rest := [(.ref t)]) (lenOf pd_0 rfl) rfl (by show 2 * 0 + _ ≤ _; exact Nat.le_of_eq rfl) (hb hby at_94) (fun _ _ => ⟨rfl, e21, (by decide : 2 + 1 ≤ _), (by decide : 2 + 4 ≤ _)⟩)
    dsimp only [Pt.U, Pt.locs, Pt.cells, Pt.slots] at X24 l24 y24 z24 st24 hQ24
    subst l24 y24 z24
    obtain ⟨cc, rfl, N24q, K24, E24, F1, LA1⟩ := hQ24
    have N24 := Fr.app N18 N24q
    have S25 : Steps p.tables e below Ω (T24.setTop (mkF m 97 #[.val (.int p1), .val (.long q1), .second, .val (.long q2), .second, .val (.long q3), .second, .val (.long q4), .second, .val (.int (1 : Int32)), .val (.ref b), .val (.long ((0 : Int64) + q1)), .second, .unset] [(.ref t)])) := S23.trans st24
    have S26 : Steps p.tables e below Ω (T24.setTop (mkF m 101 #[.val (.int p1), .val (.long q1), .second, .val (.long q2), .second, .val (.long q3), .second, .val (.long q4), .second, .val (.int (1 : Int32)), .val (.ref b), .val (.long ((0 : Int64) + q1)), .second, .val (.ref t)] [(.ref t)])) := by
      refine S25.trans ?_
      refine XS.astore X24.here hx rfl (hb hby at_97) rfl rfl (l' := #[.val (.int p1), .val (.long q1), .second, .val (.long q2), .second, .val (.long q3), .second, .val (.long q4), .second, .val (.int (1 : Int32)), .val (.ref b), .val (.long ((0 : Int64) + q1)), .second, .val (.ref t)]) rfl ?_
      show Steps p.tables e below (T24.setTop (mkF m 99 #[.val (.int p1), .val (.long q1), .second, .val (.long q2), .second, .val (.long q3), .second, .val (.long q4), .second, .val (.int (1 : Int32)), .val (.ref b), .val (.long ((0 : Int64) + q1)), .second, .val (.ref t)] [])) _
      refine XS.aload X24.here hx rfl (hb hby at_99) rfl rfl ?_
      exact Steps.refl _
    obtain ⟨cq27, kq27, q27a, q27b, q27c⟩ := isOf hZ rfl E24
    obtain ⟨_, _, ⟨T27, L27, k27, n27⟩, -, X27, ⟨Lc27, hQ27, l27, y27, z27⟩, st27⟩ := X24.virtualBack hx (y := (⟨"com/example/ingest/ingest/common/TopicInfo", "messages", "()J"⟩ : MethodName)) (z := (⟨"com/example/ingest/ingest/common/TopicInfo", "messages", "()J"⟩ : MethodName)) hown (mvT hZ (hw _ (List.mem_of_getElem? (i := 22) rfl))) (mvT hZ (hw _ (List.mem_of_getElem? (i := 23) rfl))) (notFace_of_selects (args := #[]) (mvT hZ (hw _ (List.mem_of_getElem? (i := 25) rfl)))) (mvT hZ (hw _ (List.mem_of_getElem? (i := 25) rfl))) (mvT hZ (hw _ (List.mem_of_getElem? (i := 24) rfl))) (by decide) (backOf (W := 0) (rm3 l Z a0 hw [] t cc [q1] T24.heap n0 (Nat.le_trans (Nat.le_trans (Nat.le_trans (Nat.le_trans Z0 E15.1) (Keep.of_wr W18).1) E21.1) K24.1) F1 LA1 (Nat.le_of_ble_eq_true rfl)) hZ (hw _ (List.mem_of_getElem? (i := 26) rfl)) (hw _ (List.mem_of_getElem? (i := 4) rfl)) (by decide) (by decide)) q27a q27c (g := (mkF m 101 #[.val (.int p1), .val (.long q1), .second, .val (.long q2), .second, .val (.long q3), .second, .val (.long q4), .second, .val (.int (1 : Int32)), .val (.ref b), .val (.long ((0 : Int64) + q1)), .second, .val (.ref t)] [(.ref t)])) rfl (by rw [hml]; rfl) (Steps.refl _) (argsL := []) (rest := []) (lenOf pd_1 rfl) rfl (by show 2 * 0 + _ ≤ _; exact Nat.le_of_eq rfl) (hb hby at_101) (fun _ _ => ⟨rfl, rfl, (by decide : 3 + 0 ≤ _), (by decide : 6 + 0 ≤ _)⟩)
    dsimp only [Pt.U, Pt.locs, Pt.cells, Pt.slots] at X27 l27 y27 z27 st27 hQ27
    subst l27 y27 z27
    obtain ⟨rfl, N27q, e27⟩ := hQ27
    have N27 := Fr.app N24 N27q
    have S28 : Steps p.tables e below Ω (T27.setTop (mkF m 104 #[.val (.int p1), .val (.long q1), .second, .val (.long q2), .second, .val (.long q3), .second, .val (.long q4), .second, .val (.int (1 : Int32)), .val (.ref b), .val (.long ((0 : Int64) + q1)), .second, .val (.ref t)] [(.long ([q1].foldl (fun a x => a + x) (0 : Int64)))])) := S26.trans st27
    have S29 : Steps p.tables e below Ω (T27.setTop (mkF m 107 #[.val (.int p1), .val (.long q1), .second, .val (.long q2), .second, .val (.long q3), .second, .val (.long q4), .second, .val (.int (1 : Int32)), .val (.ref b), .val (.long ((0 : Int64) + q1)), .second, .val (.ref t)] [(.int (lcmpW ([q1].foldl (fun a x => a + x) (0 : Int64)) ((0 : Int64) + q1)))])) := by
      refine S28.trans ?_
      refine XS.lload X27.here hx rfl (hb hby at_104) rfl ?_
      show Steps p.tables e below (T27.setTop (mkF m 106 #[.val (.int p1), .val (.long q1), .second, .val (.long q2), .second, .val (.long q3), .second, .val (.long q4), .second, .val (.int (1 : Int32)), .val (.ref b), .val (.long ((0 : Int64) + q1)), .second, .val (.ref t)] [(.long ((0 : Int64) + q1)), (.long ([q1].foldl (fun a x => a + x) (0 : Int64)))])) _
      refine XS.lcmp X27.here hx rfl (hb hby at_106) rfl ?_
      exact Steps.refl _
    have S30 : Steps p.tables e below Ω (T27.setTop (mkF m 115 #[.val (.int p1), .val (.long q1), .second, .val (.long q2), .second, .val (.long q3), .second, .val (.long q4), .second, .val (.int (1 : Int32)), .val (.ref b), .val (.long ((0 : Int64) + q1)), .second, .val (.ref t)] [(.int (1 : Int32))])) := by
      refine S29.trans ?_
      refine XS.ifNo X27.here hx rfl (hb hby at_107) rfl (XT.ll_ne_f rfl) ?_
      show Steps p.tables e below (T27.setTop (mkF m 110 #[.val (.int p1), .val (.long q1), .second, .val (.long q2), .second, .val (.long q3), .second, .val (.long q4), .second, .val (.int (1 : Int32)), .val (.ref b), .val (.long ((0 : Int64) + q1)), .second, .val (.ref t)] [])) _
      refine XS.iconst X27.here hx rfl (hb hby at_110) ?_
      show Steps p.tables e below (T27.setTop (mkF m 111 #[.val (.int p1), .val (.long q1), .second, .val (.long q2), .second, .val (.long q3), .second, .val (.long q4), .second, .val (.int (1 : Int32)), .val (.ref b), .val (.long ((0 : Int64) + q1)), .second, .val (.ref t)] [(.int (1 : Int32))])) _
      refine XS.goto X27.here hx rfl (pc0 := 111) (pc' := 115) rfl (hb hby at_111) (by decide) (by decide) ?_
      exact Steps.refl _
    obtain ⟨fs, hr, hrun, hended, hW, hsame⟩ := X27.leave (v := some (.int (1 : Int32))) (fun h => by rw [Bd.returns] at h; cases h)
    have hfin : Steps p.tables e below Ω (T27.setFrames fs) := by
      refine S30.trans ?_
      exact own_retZ X27 hx Bd.returns (by decide) (hb hby at_115) hr
    rw [hΩ] at hfin
    refine ⟨_, _, hfin, hrun, hended, _, _, rfl, ?_, ⟨_, rfl⟩, hW, hsame.mono (by decide) (by decide)⟩
    show Q0 Z p1 q1 q2 q3 q4 h0 n0 _ T27.heap _
    rw [e27]
    exact ⟨rfl, N27⟩
  · obtain rfl := own_inj hk (by decide : (2 : Int32).toInt = 2)
    obtain ⟨T31, h31, k31, X31, e31, E31, A31, B31, st31⟩ := newPE X0 hx hZ (hw _ (List.mem_of_getElem? (i := 1) rfl)) e0 (g := (mkF m 10 #[.val (.int p1), .val (.long q1), .second, .val (.long q2), .second, .val (.long q3), .second, .val (.long q4), .second, .val (.int (2 : Int32)), .unset, .unset, .unset, .unset] [(.int (2 : Int32))])) rfl (hb hby at_10) rfl (by decide) (cap := 2) (by decide) (by decide) (by decide) (by decide) (ad := "[J") (by decide)
    obtain ⟨b, s_b⟩ : ∃ z, z = h0.size := ⟨_, rfl⟩
    rw [← s_b] at A31 B31 st31
    have g_b : n0 ≤ b := Nat.le_trans Z0 (Nat.le_of_eq s_b.symm)
    have S32 : Steps p.tables e below Ω (T31.setTop (mkF m 12 #[.val (.int p1), .val (.long q1), .second, .val (.long q2), .second, .val (.long q3), .second, .val (.long q4), .second, .val (.int (2 : Int32)), .unset, .unset, .unset, .unset] [(.ref b)])) := S1.trans (st31 _ (Steps.refl _))
    have V0 : LA Z h31 b .long [(.long (0 : Int64)), (.long (0 : Int64))] := LA.new A31 2 rfl
    have B0 := B31
    have S33 : Steps p.tables e below Ω (T31.setTop (mkF m 26 #[.val (.int p1), .val (.long q1), .second, .val (.long q2), .second, .val (.long q3), .second, .val (.long q4), .second, .val (.int (2 : Int32)), .val (.ref b), .val (.long (0 : Int64)), .second, .unset] [(.long q1), (.int (0 : Int32)), (.ref b)])) := by
      refine S32.trans ?_
      refine XS.astore X31.here hx rfl (hb hby at_12) rfl rfl (l' := #[.val (.int p1), .val (.long q1), .second, .val (.long q2), .second, .val (.long q3), .second, .val (.long q4), .second, .val (.int (2 : Int32)), .val (.ref b), .unset, .unset, .unset]) rfl ?_
      show Steps p.tables e below (T31.setTop (mkF m 14 #[.val (.int p1), .val (.long q1), .second, .val (.long q2), .second, .val (.long q3), .second, .val (.long q4), .second, .val (.int (2 : Int32)), .val (.ref b), .unset, .unset, .unset] [])) _
      refine XS.lconst X31.here hx rfl (hb hby at_14) ?_
      show Steps p.tables e below (T31.setTop (mkF m 15 #[.val (.int p1), .val (.long q1), .second, .val (.long q2), .second, .val (.long q3), .second, .val (.long q4), .second, .val (.int (2 : Int32)), .val (.ref b), .unset, .unset, .unset] [(.long (0 : Int64))])) _
      refine XS.lstore X31.here hx rfl (hb hby at_15) rfl (l' := #[.val (.int p1), .val (.long q1), .second, .val (.long q2), .second, .val (.long q3), .second, .val (.long q4), .second, .val (.int (2 : Int32)), .val (.ref b), .val (.long (0 : Int64)), .second, .unset]) rfl ?_
      show Steps p.tables e below (T31.setTop (mkF m 17 #[.val (.int p1), .val (.long q1), .second, .val (.long q2), .second, .val (.long q3), .second, .val (.long q4), .second, .val (.int (2 : Int32)), .val (.ref b), .val (.long (0 : Int64)), .second, .unset] [])) _
      refine XS.iload X31.here hx rfl (hb hby at_17) rfl ?_
      show Steps p.tables e below (T31.setTop (mkF m 19 #[.val (.int p1), .val (.long q1), .second, .val (.long q2), .second, .val (.long q3), .second, .val (.long q4), .second, .val (.int (2 : Int32)), .val (.ref b), .val (.long (0 : Int64)), .second, .unset] [(.int (2 : Int32))])) _
      refine XS.ifNo X31.here hx rfl (hb hby at_19) rfl (XT.i0_le_f (by decide)) ?_
      show Steps p.tables e below (T31.setTop (mkF m 22 #[.val (.int p1), .val (.long q1), .second, .val (.long q2), .second, .val (.long q3), .second, .val (.long q4), .second, .val (.int (2 : Int32)), .val (.ref b), .val (.long (0 : Int64)), .second, .unset] [])) _
      refine XS.aload X31.here hx rfl (hb hby at_22) rfl rfl ?_
      show Steps p.tables e below (T31.setTop (mkF m 24 #[.val (.int p1), .val (.long q1), .second, .val (.long q2), .second, .val (.long q3), .second, .val (.long q4), .second, .val (.int (2 : Int32)), .val (.ref b), .val (.long (0 : Int64)), .second, .unset] [(.ref b)])) _
      refine XS.iconst X31.here hx rfl (hb hby at_24) ?_
      show Steps p.tables e below (T31.setTop (mkF m 25 #[.val (.int p1), .val (.long q1), .second, .val (.long q2), .second, .val (.long q3), .second, .val (.long q4), .second, .val (.int (2 : Int32)), .val (.ref b), .val (.long (0 : Int64)), .second, .unset] [(.int (0 : Int32)), (.ref b)])) _
      refine XS.lloadN X31.here hx rfl (hb hby at_25) rfl ?_
      exact Steps.refl _
    obtain ⟨T34, h34, X34, e34, W34, V34', st34⟩ := own_stJ X31 hx hZ e31 V0 (j := (0 : Int32)) (i := 0) rfl ⟨by decide, Nat.le_of_ble_eq_true rfl⟩ (g := (mkF m 26 #[.val (.int p1), .val (.long q1), .second, .val (.long q2), .second, .val (.long q3), .second, .val (.long q4), .second, .val (.int (2 : Int32)), .val (.ref b), .val (.long (0 : Int64)), .second, .unset] [(.long q1), (.int (0 : Int32)), (.ref b)])) rfl rfl (hb hby at_26)
    have V34 : LA Z h34 b .long [(.long q1), (.long (0 : Int64))] := V34'
    have S35 : Steps p.tables e below Ω (T34.setTop (mkF m 27 #[.val (.int p1), .val (.long q1), .second, .val (.long q2), .second, .val (.long q3), .second, .val (.long q4), .second, .val (.int (2 : Int32)), .val (.ref b), .val (.long (0 : Int64)), .second, .unset] [])) := S33.trans (st34 _ (Steps.refl _))
    have N34 := Fr.snoc X34 N0 g_b
    have B100 := B0.wr W34
    have S36 : Steps p.tables e below Ω (T34.setTop (mkF m 43 #[.val (.int p1), .val (.long q1), .second, .val (.long q2), .second, .val (.long q3), .second, .val (.long q4), .second, .val (.int (2 : Int32)), .val (.ref b), .val (.long ((0 : Int64) + q1)), .second, .unset] [(.long q2), (.int (1 : Int32)), (.ref b)])) := by
      refine S35.trans ?_
      refine XS.lload X34.here hx rfl (hb hby at_27) rfl ?_
      show Steps p.tables e below (T34.setTop (mkF m 29 #[.val (.int p1), .val (.long q1), .second, .val (.long q2), .second, .val (.long q3), .second, .val (.long q4), .second, .val (.int (2 : Int32)), .val (.ref b), .val (.long (0 : Int64)), .second, .unset] [(.long (0 : Int64))])) _
      refine XS.lloadN X34.here hx rfl (hb hby at_29) rfl ?_
      show Steps p.tables e below (T34.setTop (mkF m 30 #[.val (.int p1), .val (.long q1), .second, .val (.long q2), .second, .val (.long q3), .second, .val (.long q4), .second, .val (.int (2 : Int32)), .val (.ref b), .val (.long (0 : Int64)), .second, .unset] [(.long q1), (.long (0 : Int64))])) _
      refine XS.ladd X34.here hx rfl (hb hby at_30) rfl ?_
      show Steps p.tables e below (T34.setTop (mkF m 31 #[.val (.int p1), .val (.long q1), .second, .val (.long q2), .second, .val (.long q3), .second, .val (.long q4), .second, .val (.int (2 : Int32)), .val (.ref b), .val (.long (0 : Int64)), .second, .unset] [(.long ((0 : Int64) + q1))])) _
      refine XS.lstore X34.here hx rfl (hb hby at_31) rfl (l' := #[.val (.int p1), .val (.long q1), .second, .val (.long q2), .second, .val (.long q3), .second, .val (.long q4), .second, .val (.int (2 : Int32)), .val (.ref b), .val (.long ((0 : Int64) + q1)), .second, .unset]) rfl ?_
      show Steps p.tables e below (T34.setTop (mkF m 33 #[.val (.int p1), .val (.long q1), .second, .val (.long q2), .second, .val (.long q3), .second, .val (.long q4), .second, .val (.int (2 : Int32)), .val (.ref b), .val (.long ((0 : Int64) + q1)), .second, .unset] [])) _
      refine XS.iload X34.here hx rfl (hb hby at_33) rfl ?_
      show Steps p.tables e below (T34.setTop (mkF m 35 #[.val (.int p1), .val (.long q1), .second, .val (.long q2), .second, .val (.long q3), .second, .val (.long q4), .second, .val (.int (2 : Int32)), .val (.ref b), .val (.long ((0 : Int64) + q1)), .second, .unset] [(.int (2 : Int32))])) _
      refine XS.iconst X34.here hx rfl (hb hby at_35) ?_
      show Steps p.tables e below (T34.setTop (mkF m 36 #[.val (.int p1), .val (.long q1), .second, .val (.long q2), .second, .val (.long q3), .second, .val (.long q4), .second, .val (.int (2 : Int32)), .val (.ref b), .val (.long ((0 : Int64) + q1)), .second, .unset] [(.int (1 : Int32)), (.int (2 : Int32))])) _
      refine XS.icmpNo X34.here hx rfl (hb hby at_36) rfl (XT.ii_le_f (by decide)) ?_
      show Steps p.tables e below (T34.setTop (mkF m 39 #[.val (.int p1), .val (.long q1), .second, .val (.long q2), .second, .val (.long q3), .second, .val (.long q4), .second, .val (.int (2 : Int32)), .val (.ref b), .val (.long ((0 : Int64) + q1)), .second, .unset] [])) _
      refine XS.aload X34.here hx rfl (hb hby at_39) rfl rfl ?_
      show Steps p.tables e below (T34.setTop (mkF m 41 #[.val (.int p1), .val (.long q1), .second, .val (.long q2), .second, .val (.long q3), .second, .val (.long q4), .second, .val (.int (2 : Int32)), .val (.ref b), .val (.long ((0 : Int64) + q1)), .second, .unset] [(.ref b)])) _
      refine XS.iconst X34.here hx rfl (hb hby at_41) ?_
      show Steps p.tables e below (T34.setTop (mkF m 42 #[.val (.int p1), .val (.long q1), .second, .val (.long q2), .second, .val (.long q3), .second, .val (.long q4), .second, .val (.int (2 : Int32)), .val (.ref b), .val (.long ((0 : Int64) + q1)), .second, .unset] [(.int (1 : Int32)), (.ref b)])) _
      refine XS.lloadN X34.here hx rfl (hb hby at_42) rfl ?_
      exact Steps.refl _
    obtain ⟨T37, h37, X37, e37, W37, V37', st37⟩ := own_stJ X34 hx hZ e34 V34 (j := (1 : Int32)) (i := 1) rfl ⟨by decide, Nat.le_of_ble_eq_true rfl⟩ (g := (mkF m 43 #[.val (.int p1), .val (.long q1), .second, .val (.long q2), .second, .val (.long q3), .second, .val (.long q4), .second, .val (.int (2 : Int32)), .val (.ref b), .val (.long ((0 : Int64) + q1)), .second, .unset] [(.long q2), (.int (1 : Int32)), (.ref b)])) rfl rfl (hb hby at_43)
    have V37 : LA Z h37 b .long [(.long q1), (.long q2)] := V37'
    have S38 : Steps p.tables e below Ω (T37.setTop (mkF m 44 #[.val (.int p1), .val (.long q1), .second, .val (.long q2), .second, .val (.long q3), .second, .val (.long q4), .second, .val (.int (2 : Int32)), .val (.ref b), .val (.long ((0 : Int64) + q1)), .second, .unset] [])) := S36.trans (st37 _ (Steps.refl _))
    have N37 := Fr.snoc X37 N34 g_b
    have B101 := B100.wr W37
    have S39 : Steps p.tables e below Ω (T37.setTop (mkF m 88 #[.val (.int p1), .val (.long q1), .second, .val (.long q2), .second, .val (.long q3), .second, .val (.long q4), .second, .val (.int (2 : Int32)), .val (.ref b), .val (.long (((0 : Int64) + q1) + q2)), .second, .unset] [])) := by
      refine S38.trans ?_
      refine XS.lload X37.here hx rfl (hb hby at_44) rfl ?_
      show Steps p.tables e below (T37.setTop (mkF m 46 #[.val (.int p1), .val (.long q1), .second, .val (.long q2), .second, .val (.long q3), .second, .val (.long q4), .second, .val (.int (2 : Int32)), .val (.ref b), .val (.long ((0 : Int64) + q1)), .second, .unset] [(.long ((0 : Int64) + q1))])) _
      refine XS.lloadN X37.here hx rfl (hb hby at_46) rfl ?_
      show Steps p.tables e below (T37.setTop (mkF m 47 #[.val (.int p1), .val (.long q1), .second, .val (.long q2), .second, .val (.long q3), .second, .val (.long q4), .second, .val (.int (2 : Int32)), .val (.ref b), .val (.long ((0 : Int64) + q1)), .second, .unset] [(.long q2), (.long ((0 : Int64) + q1))])) _
      refine XS.ladd X37.here hx rfl (hb hby at_47) rfl ?_
      show Steps p.tables e below (T37.setTop (mkF m 48 #[.val (.int p1), .val (.long q1), .second, .val (.long q2), .second, .val (.long q3), .second, .val (.long q4), .second, .val (.int (2 : Int32)), .val (.ref b), .val (.long ((0 : Int64) + q1)), .second, .unset] [(.long (((0 : Int64) + q1) + q2))])) _
      refine XS.lstore X37.here hx rfl (hb hby at_48) rfl (l' := #[.val (.int p1), .val (.long q1), .second, .val (.long q2), .second, .val (.long q3), .second, .val (.long q4), .second, .val (.int (2 : Int32)), .val (.ref b), .val (.long (((0 : Int64) + q1) + q2)), .second, .unset]) rfl ?_
      show Steps p.tables e below (T37.setTop (mkF m 50 #[.val (.int p1), .val (.long q1), .second, .val (.long q2), .second, .val (.long q3), .second, .val (.long q4), .second, .val (.int (2 : Int32)), .val (.ref b), .val (.long (((0 : Int64) + q1) + q2)), .second, .unset] [])) _
      refine XS.iload X37.here hx rfl (hb hby at_50) rfl ?_
      show Steps p.tables e below (T37.setTop (mkF m 52 #[.val (.int p1), .val (.long q1), .second, .val (.long q2), .second, .val (.long q3), .second, .val (.long q4), .second, .val (.int (2 : Int32)), .val (.ref b), .val (.long (((0 : Int64) + q1) + q2)), .second, .unset] [(.int (2 : Int32))])) _
      refine XS.iconst X37.here hx rfl (hb hby at_52) ?_
      show Steps p.tables e below (T37.setTop (mkF m 53 #[.val (.int p1), .val (.long q1), .second, .val (.long q2), .second, .val (.long q3), .second, .val (.long q4), .second, .val (.int (2 : Int32)), .val (.ref b), .val (.long (((0 : Int64) + q1) + q2)), .second, .unset] [(.int (2 : Int32)), (.int (2 : Int32))])) _
      refine XS.icmpYes X37.here hx rfl (pc0 := 53) (pc' := 69) rfl (hb hby at_53) rfl (XT.ii_le_t (by decide)) (by decide) (by decide) ?_
      show Steps p.tables e below (T37.setTop (mkF m 69 #[.val (.int p1), .val (.long q1), .second, .val (.long q2), .second, .val (.long q3), .second, .val (.long q4), .second, .val (.int (2 : Int32)), .val (.ref b), .val (.long (((0 : Int64) + q1) + q2)), .second, .unset] [])) _
      refine XS.iload X37.here hx rfl (hb hby at_69) rfl ?_
      show Steps p.tables e below (T37.setTop (mkF m 71 #[.val (.int p1), .val (.long q1), .second, .val (.long q2), .second, .val (.long q3), .second, .val (.long q4), .second, .val (.int (2 : Int32)), .val (.ref b), .val (.long (((0 : Int64) + q1) + q2)), .second, .unset] [(.int (2 : Int32))])) _
      refine XS.iconst X37.here hx rfl (hb hby at_71) ?_
      show Steps p.tables e below (T37.setTop (mkF m 72 #[.val (.int p1), .val (.long q1), .second, .val (.long q2), .second, .val (.long q3), .second, .val (.long q4), .second, .val (.int (2 : Int32)), .val (.ref b), .val (.long (((0 : Int64) + q1) + q2)), .second, .unset] [(.int (3 : Int32)), (.int (2 : Int32))])) _
      refine XS.icmpYes X37.here hx rfl (pc0 := 72) (pc' := 88) rfl (hb hby at_72) rfl (XT.ii_le_t (by decide)) (by decide) (by decide) ?_
      exact Steps.refl _
    obtain ⟨T40, h40, X40, e40, E40, A40, D40, -, st40⟩ := newO X37 hx hZ hown (hw _ (List.mem_of_getElem? (i := 2) rfl)) (hw _ (List.mem_of_getElem? (i := 3) rfl)) (hw _ (List.mem_of_getElem? (i := 4) rfl)) e37 (g := (mkF m 88 #[.val (.int p1), .val (.long q1), .second, .val (.long q2), .second, .val (.long q3), .second, .val (.long q4), .second, .val (.int (2 : Int32)), .val (.ref b), .val (.long (((0 : Int64) + q1) + q2)), .second, .unset] [])) rfl (hb hby at_88) (by decide) (by decide)
    obtain ⟨t, s_t⟩ : ∃ z, z = h37.size := ⟨_, rfl⟩
    rw [← s_t] at A40 D40 st40
    have g_t : n0 ≤ t := Nat.le_trans (Nat.le_trans (Nat.le_trans (Nat.le_trans Z0 E31.1) (Keep.of_wr W34).1) (Keep.of_wr W37).1) (Nat.le_of_eq s_t.symm)
    have F_endOffsets_t : Fld Z h40 t "com/example/ingest/ingest/common/TopicInfo" "endOffsets" "[J" .null := D40 (Or.inr (hw _ (List.mem_of_getElem? (i := 21) rfl))) (ty := (.array .long)) (by decide)
    have S41 : Steps p.tables e below Ω (T40.setTop (mkF m 91 #[.val (.int p1), .val (.long q1), .second, .val (.long q2), .second, .val (.long q3), .second, .val (.long q4), .second, .val (.int (2 : Int32)), .val (.ref b), .val (.long (((0 : Int64) + q1) + q2)), .second, .unset] [(.ref t)])) := S39.trans (st40 _ (Steps.refl _))
    have VV : LA Z h40 b .long (List.map Value.long [q1, q2]) := V37.ext E40
    have BB := B101.ext E40
    have S42 : Steps p.tables e below Ω (T40.setTop (mkF m 94 #[.val (.int p1), .val (.long q1), .second, .val (.long q2), .second, .val (.long q3), .second, .val (.long q4), .second, .val (.int (2 : Int32)), .val (.ref b), .val (.long (((0 : Int64) + q1) + q2)), .second, .unset] [(.ref b), (.ref t), (.ref t)])) := by
      refine S41.trans ?_
      refine XS.dup X40.here hx rfl (hb hby at_91) rfl rfl ?_
      show Steps p.tables e below (T40.setTop (mkF m 92 #[.val (.int p1), .val (.long q1), .second, .val (.long q2), .second, .val (.long q3), .second, .val (.long q4), .second, .val (.int (2 : Int32)), .val (.ref b), .val (.long (((0 : Int64) + q1) + q2)), .second, .unset] [(.ref t), (.ref t)])) _
      refine XS.aload X40.here hx rfl (hb hby at_92) rfl rfl ?_
      exact Steps.refl _
    obtain ⟨_, _, ⟨T43, L43, k43, n43⟩, -, X43, ⟨Lc43, hQ43, l43, y43, z43⟩, st43⟩ := X40.specialBack hx (y := (⟨"com/example/ingest/ingest/common/TopicInfo", "<init>", "([J)V"⟩ : MethodName)) rfl hown (mvT hZ (hw _ (List.mem_of_getElem? (i := 5) rfl))) (mvT hZ (hw _ (List.mem_of_getElem? (i := 6) rfl))) (mvT hZ (hw _ (List.mem_of_getElem? (i := 7) rfl))) (by decide) (backOf (W := 1) (rm1 l Z a0 hw [] t b [q1, q2] h40 n0 (Nat.le_trans (Nat.le_trans (Nat.le_trans (Nat.le_trans Z0 E31.1) (Keep.of_wr W34).1) (Keep.of_wr W37).1) E40.1) A40 F_endOffsets_t g_t VV BB (Nat.le_of_ble_eq_true rfl)) hZ (hw _ (List.mem_of_getElem? (i := 7) rfl)) (hw _ (List.mem_of_getElem? (i := 4) rfl)) (by decide) (by decide)) (g := (mkF m 94 #[.val (.int p1), .val (.long q1), .second, .val (.long q2), .second, .val (.long q3), .second, .val (.long q4), .second, .val (.int (2 : Int32)), .val (.ref b), .val (.long (((0 : Int64) + q1) + q2)), .second, .unset] [(.ref b), (.ref t), (.ref t)])) rfl (by rw [hml]; rfl) (Steps.refl _) (a := t) (argsL := [(.ref b)]) (rest := [(.ref t)]) (lenOf pd_0 rfl) rfl (by show 2 * 0 + _ ≤ _; exact Nat.le_of_eq rfl) (hb hby at_94) (fun _ _ => ⟨rfl, e40, (by decide : 2 + 1 ≤ _), (by decide : 3 + 4 ≤ _)⟩)
    dsimp only [Pt.U, Pt.locs, Pt.cells, Pt.slots] at X43 l43 y43 z43 st43 hQ43
    subst l43 y43 z43
    obtain ⟨cc, rfl, N43q, K43, E43, F1, LA1⟩ := hQ43
    have N43 := Fr.app N37 N43q
    have S44 : Steps p.tables e below Ω (T43.setTop (mkF m 97 #[.val (.int p1), .val (.long q1), .second, .val (.long q2), .second, .val (.long q3), .second, .val (.long q4), .second, .val (.int (2 : Int32)), .val (.ref b), .val (.long (((0 : Int64) + q1) + q2)), .second, .unset] [(.ref t)])) := S42.trans st43
    have S45 : Steps p.tables e below Ω (T43.setTop (mkF m 101 #[.val (.int p1), .val (.long q1), .second, .val (.long q2), .second, .val (.long q3), .second, .val (.long q4), .second, .val (.int (2 : Int32)), .val (.ref b), .val (.long (((0 : Int64) + q1) + q2)), .second, .val (.ref t)] [(.ref t)])) := by
      refine S44.trans ?_
      refine XS.astore X43.here hx rfl (hb hby at_97) rfl rfl (l' := #[.val (.int p1), .val (.long q1), .second, .val (.long q2), .second, .val (.long q3), .second, .val (.long q4), .second, .val (.int (2 : Int32)), .val (.ref b), .val (.long (((0 : Int64) + q1) + q2)), .second, .val (.ref t)]) rfl ?_
      show Steps p.tables e below (T43.setTop (mkF m 99 #[.val (.int p1), .val (.long q1), .second, .val (.long q2), .second, .val (.long q3), .second, .val (.long q4), .second, .val (.int (2 : Int32)), .val (.ref b), .val (.long (((0 : Int64) + q1) + q2)), .second, .val (.ref t)] [])) _
      refine XS.aload X43.here hx rfl (hb hby at_99) rfl rfl ?_
      exact Steps.refl _
    obtain ⟨cq46, kq46, q46a, q46b, q46c⟩ := isOf hZ rfl E43
    obtain ⟨_, _, ⟨T46, L46, k46, n46⟩, -, X46, ⟨Lc46, hQ46, l46, y46, z46⟩, st46⟩ := X43.virtualBack hx (y := (⟨"com/example/ingest/ingest/common/TopicInfo", "messages", "()J"⟩ : MethodName)) (z := (⟨"com/example/ingest/ingest/common/TopicInfo", "messages", "()J"⟩ : MethodName)) hown (mvT hZ (hw _ (List.mem_of_getElem? (i := 22) rfl))) (mvT hZ (hw _ (List.mem_of_getElem? (i := 23) rfl))) (notFace_of_selects (args := #[]) (mvT hZ (hw _ (List.mem_of_getElem? (i := 25) rfl)))) (mvT hZ (hw _ (List.mem_of_getElem? (i := 25) rfl))) (mvT hZ (hw _ (List.mem_of_getElem? (i := 24) rfl))) (by decide) (backOf (W := 0) (rm3 l Z a0 hw [] t cc [q1, q2] T43.heap n0 (Nat.le_trans (Nat.le_trans (Nat.le_trans (Nat.le_trans (Nat.le_trans Z0 E31.1) (Keep.of_wr W34).1) (Keep.of_wr W37).1) E40.1) K43.1) F1 LA1 (Nat.le_of_ble_eq_true rfl)) hZ (hw _ (List.mem_of_getElem? (i := 26) rfl)) (hw _ (List.mem_of_getElem? (i := 4) rfl)) (by decide) (by decide)) q46a q46c (g := (mkF m 101 #[.val (.int p1), .val (.long q1), .second, .val (.long q2), .second, .val (.long q3), .second, .val (.long q4), .second, .val (.int (2 : Int32)), .val (.ref b), .val (.long (((0 : Int64) + q1) + q2)), .second, .val (.ref t)] [(.ref t)])) rfl (by rw [hml]; rfl) (Steps.refl _) (argsL := []) (rest := []) (lenOf pd_1 rfl) rfl (by show 2 * 0 + _ ≤ _; exact Nat.le_of_eq rfl) (hb hby at_101) (fun _ _ => ⟨rfl, rfl, (by decide : 3 + 0 ≤ _), (by decide : 7 + 0 ≤ _)⟩)
    dsimp only [Pt.U, Pt.locs, Pt.cells, Pt.slots] at X46 l46 y46 z46 st46 hQ46
    subst l46 y46 z46
    obtain ⟨rfl, N46q, e46⟩ := hQ46
    have N46 := Fr.app N43 N46q
    have S47 : Steps p.tables e below Ω (T46.setTop (mkF m 104 #[.val (.int p1), .val (.long q1), .second, .val (.long q2), .second, .val (.long q3), .second, .val (.long q4), .second, .val (.int (2 : Int32)), .val (.ref b), .val (.long (((0 : Int64) + q1) + q2)), .second, .val (.ref t)] [(.long ([q1, q2].foldl (fun a x => a + x) (0 : Int64)))])) := S45.trans st46
    have S48 : Steps p.tables e below Ω (T46.setTop (mkF m 107 #[.val (.int p1), .val (.long q1), .second, .val (.long q2), .second, .val (.long q3), .second, .val (.long q4), .second, .val (.int (2 : Int32)), .val (.ref b), .val (.long (((0 : Int64) + q1) + q2)), .second, .val (.ref t)] [(.int (lcmpW ([q1, q2].foldl (fun a x => a + x) (0 : Int64)) (((0 : Int64) + q1) + q2)))])) := by
      refine S47.trans ?_
      refine XS.lload X46.here hx rfl (hb hby at_104) rfl ?_
      show Steps p.tables e below (T46.setTop (mkF m 106 #[.val (.int p1), .val (.long q1), .second, .val (.long q2), .second, .val (.long q3), .second, .val (.long q4), .second, .val (.int (2 : Int32)), .val (.ref b), .val (.long (((0 : Int64) + q1) + q2)), .second, .val (.ref t)] [(.long (((0 : Int64) + q1) + q2)), (.long ([q1, q2].foldl (fun a x => a + x) (0 : Int64)))])) _
      refine XS.lcmp X46.here hx rfl (hb hby at_106) rfl ?_
      exact Steps.refl _
    have S49 : Steps p.tables e below Ω (T46.setTop (mkF m 115 #[.val (.int p1), .val (.long q1), .second, .val (.long q2), .second, .val (.long q3), .second, .val (.long q4), .second, .val (.int (2 : Int32)), .val (.ref b), .val (.long (((0 : Int64) + q1) + q2)), .second, .val (.ref t)] [(.int (1 : Int32))])) := by
      refine S48.trans ?_
      refine XS.ifNo X46.here hx rfl (hb hby at_107) rfl (XT.ll_ne_f rfl) ?_
      show Steps p.tables e below (T46.setTop (mkF m 110 #[.val (.int p1), .val (.long q1), .second, .val (.long q2), .second, .val (.long q3), .second, .val (.long q4), .second, .val (.int (2 : Int32)), .val (.ref b), .val (.long (((0 : Int64) + q1) + q2)), .second, .val (.ref t)] [])) _
      refine XS.iconst X46.here hx rfl (hb hby at_110) ?_
      show Steps p.tables e below (T46.setTop (mkF m 111 #[.val (.int p1), .val (.long q1), .second, .val (.long q2), .second, .val (.long q3), .second, .val (.long q4), .second, .val (.int (2 : Int32)), .val (.ref b), .val (.long (((0 : Int64) + q1) + q2)), .second, .val (.ref t)] [(.int (1 : Int32))])) _
      refine XS.goto X46.here hx rfl (pc0 := 111) (pc' := 115) rfl (hb hby at_111) (by decide) (by decide) ?_
      exact Steps.refl _
    obtain ⟨fs, hr, hrun, hended, hW, hsame⟩ := X46.leave (v := some (.int (1 : Int32))) (fun h => by rw [Bd.returns] at h; cases h)
    have hfin : Steps p.tables e below Ω (T46.setFrames fs) := by
      refine S49.trans ?_
      exact own_retZ X46 hx Bd.returns (by decide) (hb hby at_115) hr
    rw [hΩ] at hfin
    refine ⟨_, _, hfin, hrun, hended, _, _, rfl, ?_, ⟨_, rfl⟩, hW, hsame.mono (by decide) (by decide)⟩
    show Q0 Z p1 q1 q2 q3 q4 h0 n0 _ T46.heap _
    rw [e46]
    exact ⟨rfl, N46⟩
  · obtain rfl := own_inj hk (by decide : (3 : Int32).toInt = 3)
    obtain ⟨T50, h50, k50, X50, e50, E50, A50, B50, st50⟩ := newPE X0 hx hZ (hw _ (List.mem_of_getElem? (i := 1) rfl)) e0 (g := (mkF m 10 #[.val (.int p1), .val (.long q1), .second, .val (.long q2), .second, .val (.long q3), .second, .val (.long q4), .second, .val (.int (3 : Int32)), .unset, .unset, .unset, .unset] [(.int (3 : Int32))])) rfl (hb hby at_10) rfl (by decide) (cap := 3) (by decide) (by decide) (by decide) (by decide) (ad := "[J") (by decide)
    obtain ⟨b, s_b⟩ : ∃ z, z = h0.size := ⟨_, rfl⟩
    rw [← s_b] at A50 B50 st50
    have g_b : n0 ≤ b := Nat.le_trans Z0 (Nat.le_of_eq s_b.symm)
    have S51 : Steps p.tables e below Ω (T50.setTop (mkF m 12 #[.val (.int p1), .val (.long q1), .second, .val (.long q2), .second, .val (.long q3), .second, .val (.long q4), .second, .val (.int (3 : Int32)), .unset, .unset, .unset, .unset] [(.ref b)])) := S1.trans (st50 _ (Steps.refl _))
    have V0 : LA Z h50 b .long [(.long (0 : Int64)), (.long (0 : Int64)), (.long (0 : Int64))] := LA.new A50 3 rfl
    have B0 := B50
    have S52 : Steps p.tables e below Ω (T50.setTop (mkF m 26 #[.val (.int p1), .val (.long q1), .second, .val (.long q2), .second, .val (.long q3), .second, .val (.long q4), .second, .val (.int (3 : Int32)), .val (.ref b), .val (.long (0 : Int64)), .second, .unset] [(.long q1), (.int (0 : Int32)), (.ref b)])) := by
      refine S51.trans ?_
      refine XS.astore X50.here hx rfl (hb hby at_12) rfl rfl (l' := #[.val (.int p1), .val (.long q1), .second, .val (.long q2), .second, .val (.long q3), .second, .val (.long q4), .second, .val (.int (3 : Int32)), .val (.ref b), .unset, .unset, .unset]) rfl ?_
      show Steps p.tables e below (T50.setTop (mkF m 14 #[.val (.int p1), .val (.long q1), .second, .val (.long q2), .second, .val (.long q3), .second, .val (.long q4), .second, .val (.int (3 : Int32)), .val (.ref b), .unset, .unset, .unset] [])) _
      refine XS.lconst X50.here hx rfl (hb hby at_14) ?_
      show Steps p.tables e below (T50.setTop (mkF m 15 #[.val (.int p1), .val (.long q1), .second, .val (.long q2), .second, .val (.long q3), .second, .val (.long q4), .second, .val (.int (3 : Int32)), .val (.ref b), .unset, .unset, .unset] [(.long (0 : Int64))])) _
      refine XS.lstore X50.here hx rfl (hb hby at_15) rfl (l' := #[.val (.int p1), .val (.long q1), .second, .val (.long q2), .second, .val (.long q3), .second, .val (.long q4), .second, .val (.int (3 : Int32)), .val (.ref b), .val (.long (0 : Int64)), .second, .unset]) rfl ?_
      show Steps p.tables e below (T50.setTop (mkF m 17 #[.val (.int p1), .val (.long q1), .second, .val (.long q2), .second, .val (.long q3), .second, .val (.long q4), .second, .val (.int (3 : Int32)), .val (.ref b), .val (.long (0 : Int64)), .second, .unset] [])) _
      refine XS.iload X50.here hx rfl (hb hby at_17) rfl ?_
      show Steps p.tables e below (T50.setTop (mkF m 19 #[.val (.int p1), .val (.long q1), .second, .val (.long q2), .second, .val (.long q3), .second, .val (.long q4), .second, .val (.int (3 : Int32)), .val (.ref b), .val (.long (0 : Int64)), .second, .unset] [(.int (3 : Int32))])) _
      refine XS.ifNo X50.here hx rfl (hb hby at_19) rfl (XT.i0_le_f (by decide)) ?_
      show Steps p.tables e below (T50.setTop (mkF m 22 #[.val (.int p1), .val (.long q1), .second, .val (.long q2), .second, .val (.long q3), .second, .val (.long q4), .second, .val (.int (3 : Int32)), .val (.ref b), .val (.long (0 : Int64)), .second, .unset] [])) _
      refine XS.aload X50.here hx rfl (hb hby at_22) rfl rfl ?_
      show Steps p.tables e below (T50.setTop (mkF m 24 #[.val (.int p1), .val (.long q1), .second, .val (.long q2), .second, .val (.long q3), .second, .val (.long q4), .second, .val (.int (3 : Int32)), .val (.ref b), .val (.long (0 : Int64)), .second, .unset] [(.ref b)])) _
      refine XS.iconst X50.here hx rfl (hb hby at_24) ?_
      show Steps p.tables e below (T50.setTop (mkF m 25 #[.val (.int p1), .val (.long q1), .second, .val (.long q2), .second, .val (.long q3), .second, .val (.long q4), .second, .val (.int (3 : Int32)), .val (.ref b), .val (.long (0 : Int64)), .second, .unset] [(.int (0 : Int32)), (.ref b)])) _
      refine XS.lloadN X50.here hx rfl (hb hby at_25) rfl ?_
      exact Steps.refl _
    obtain ⟨T53, h53, X53, e53, W53, V53', st53⟩ := own_stJ X50 hx hZ e50 V0 (j := (0 : Int32)) (i := 0) rfl ⟨by decide, Nat.le_of_ble_eq_true rfl⟩ (g := (mkF m 26 #[.val (.int p1), .val (.long q1), .second, .val (.long q2), .second, .val (.long q3), .second, .val (.long q4), .second, .val (.int (3 : Int32)), .val (.ref b), .val (.long (0 : Int64)), .second, .unset] [(.long q1), (.int (0 : Int32)), (.ref b)])) rfl rfl (hb hby at_26)
    have V53 : LA Z h53 b .long [(.long q1), (.long (0 : Int64)), (.long (0 : Int64))] := V53'
    have S54 : Steps p.tables e below Ω (T53.setTop (mkF m 27 #[.val (.int p1), .val (.long q1), .second, .val (.long q2), .second, .val (.long q3), .second, .val (.long q4), .second, .val (.int (3 : Int32)), .val (.ref b), .val (.long (0 : Int64)), .second, .unset] [])) := S52.trans (st53 _ (Steps.refl _))
    have N53 := Fr.snoc X53 N0 g_b
    have B100 := B0.wr W53
    have S55 : Steps p.tables e below Ω (T53.setTop (mkF m 43 #[.val (.int p1), .val (.long q1), .second, .val (.long q2), .second, .val (.long q3), .second, .val (.long q4), .second, .val (.int (3 : Int32)), .val (.ref b), .val (.long ((0 : Int64) + q1)), .second, .unset] [(.long q2), (.int (1 : Int32)), (.ref b)])) := by
      refine S54.trans ?_
      refine XS.lload X53.here hx rfl (hb hby at_27) rfl ?_
      show Steps p.tables e below (T53.setTop (mkF m 29 #[.val (.int p1), .val (.long q1), .second, .val (.long q2), .second, .val (.long q3), .second, .val (.long q4), .second, .val (.int (3 : Int32)), .val (.ref b), .val (.long (0 : Int64)), .second, .unset] [(.long (0 : Int64))])) _
      refine XS.lloadN X53.here hx rfl (hb hby at_29) rfl ?_
      show Steps p.tables e below (T53.setTop (mkF m 30 #[.val (.int p1), .val (.long q1), .second, .val (.long q2), .second, .val (.long q3), .second, .val (.long q4), .second, .val (.int (3 : Int32)), .val (.ref b), .val (.long (0 : Int64)), .second, .unset] [(.long q1), (.long (0 : Int64))])) _
      refine XS.ladd X53.here hx rfl (hb hby at_30) rfl ?_
      show Steps p.tables e below (T53.setTop (mkF m 31 #[.val (.int p1), .val (.long q1), .second, .val (.long q2), .second, .val (.long q3), .second, .val (.long q4), .second, .val (.int (3 : Int32)), .val (.ref b), .val (.long (0 : Int64)), .second, .unset] [(.long ((0 : Int64) + q1))])) _
      refine XS.lstore X53.here hx rfl (hb hby at_31) rfl (l' := #[.val (.int p1), .val (.long q1), .second, .val (.long q2), .second, .val (.long q3), .second, .val (.long q4), .second, .val (.int (3 : Int32)), .val (.ref b), .val (.long ((0 : Int64) + q1)), .second, .unset]) rfl ?_
      show Steps p.tables e below (T53.setTop (mkF m 33 #[.val (.int p1), .val (.long q1), .second, .val (.long q2), .second, .val (.long q3), .second, .val (.long q4), .second, .val (.int (3 : Int32)), .val (.ref b), .val (.long ((0 : Int64) + q1)), .second, .unset] [])) _
      refine XS.iload X53.here hx rfl (hb hby at_33) rfl ?_
      show Steps p.tables e below (T53.setTop (mkF m 35 #[.val (.int p1), .val (.long q1), .second, .val (.long q2), .second, .val (.long q3), .second, .val (.long q4), .second, .val (.int (3 : Int32)), .val (.ref b), .val (.long ((0 : Int64) + q1)), .second, .unset] [(.int (3 : Int32))])) _
      refine XS.iconst X53.here hx rfl (hb hby at_35) ?_
      show Steps p.tables e below (T53.setTop (mkF m 36 #[.val (.int p1), .val (.long q1), .second, .val (.long q2), .second, .val (.long q3), .second, .val (.long q4), .second, .val (.int (3 : Int32)), .val (.ref b), .val (.long ((0 : Int64) + q1)), .second, .unset] [(.int (1 : Int32)), (.int (3 : Int32))])) _
      refine XS.icmpNo X53.here hx rfl (hb hby at_36) rfl (XT.ii_le_f (by decide)) ?_
      show Steps p.tables e below (T53.setTop (mkF m 39 #[.val (.int p1), .val (.long q1), .second, .val (.long q2), .second, .val (.long q3), .second, .val (.long q4), .second, .val (.int (3 : Int32)), .val (.ref b), .val (.long ((0 : Int64) + q1)), .second, .unset] [])) _
      refine XS.aload X53.here hx rfl (hb hby at_39) rfl rfl ?_
      show Steps p.tables e below (T53.setTop (mkF m 41 #[.val (.int p1), .val (.long q1), .second, .val (.long q2), .second, .val (.long q3), .second, .val (.long q4), .second, .val (.int (3 : Int32)), .val (.ref b), .val (.long ((0 : Int64) + q1)), .second, .unset] [(.ref b)])) _
      refine XS.iconst X53.here hx rfl (hb hby at_41) ?_
      show Steps p.tables e below (T53.setTop (mkF m 42 #[.val (.int p1), .val (.long q1), .second, .val (.long q2), .second, .val (.long q3), .second, .val (.long q4), .second, .val (.int (3 : Int32)), .val (.ref b), .val (.long ((0 : Int64) + q1)), .second, .unset] [(.int (1 : Int32)), (.ref b)])) _
      refine XS.lloadN X53.here hx rfl (hb hby at_42) rfl ?_
      exact Steps.refl _
    obtain ⟨T56, h56, X56, e56, W56, V56', st56⟩ := own_stJ X53 hx hZ e53 V53 (j := (1 : Int32)) (i := 1) rfl ⟨by decide, Nat.le_of_ble_eq_true rfl⟩ (g := (mkF m 43 #[.val (.int p1), .val (.long q1), .second, .val (.long q2), .second, .val (.long q3), .second, .val (.long q4), .second, .val (.int (3 : Int32)), .val (.ref b), .val (.long ((0 : Int64) + q1)), .second, .unset] [(.long q2), (.int (1 : Int32)), (.ref b)])) rfl rfl (hb hby at_43)
    have V56 : LA Z h56 b .long [(.long q1), (.long q2), (.long (0 : Int64))] := V56'
    have S57 : Steps p.tables e below Ω (T56.setTop (mkF m 44 #[.val (.int p1), .val (.long q1), .second, .val (.long q2), .second, .val (.long q3), .second, .val (.long q4), .second, .val (.int (3 : Int32)), .val (.ref b), .val (.long ((0 : Int64) + q1)), .second, .unset] [])) := S55.trans (st56 _ (Steps.refl _))
    have N56 := Fr.snoc X56 N53 g_b
    have B101 := B100.wr W56
    have S58 : Steps p.tables e below Ω (T56.setTop (mkF m 61 #[.val (.int p1), .val (.long q1), .second, .val (.long q2), .second, .val (.long q3), .second, .val (.long q4), .second, .val (.int (3 : Int32)), .val (.ref b), .val (.long (((0 : Int64) + q1) + q2)), .second, .unset] [(.long q3), (.int (2 : Int32)), (.ref b)])) := by
      refine S57.trans ?_
      refine XS.lload X56.here hx rfl (hb hby at_44) rfl ?_
      show Steps p.tables e below (T56.setTop (mkF m 46 #[.val (.int p1), .val (.long q1), .second, .val (.long q2), .second, .val (.long q3), .second, .val (.long q4), .second, .val (.int (3 : Int32)), .val (.ref b), .val (.long ((0 : Int64) + q1)), .second, .unset] [(.long ((0 : Int64) + q1))])) _
      refine XS.lloadN X56.here hx rfl (hb hby at_46) rfl ?_
      show Steps p.tables e below (T56.setTop (mkF m 47 #[.val (.int p1), .val (.long q1), .second, .val (.long q2), .second, .val (.long q3), .second, .val (.long q4), .second, .val (.int (3 : Int32)), .val (.ref b), .val (.long ((0 : Int64) + q1)), .second, .unset] [(.long q2), (.long ((0 : Int64) + q1))])) _
      refine XS.ladd X56.here hx rfl (hb hby at_47) rfl ?_
      show Steps p.tables e below (T56.setTop (mkF m 48 #[.val (.int p1), .val (.long q1), .second, .val (.long q2), .second, .val (.long q3), .second, .val (.long q4), .second, .val (.int (3 : Int32)), .val (.ref b), .val (.long ((0 : Int64) + q1)), .second, .unset] [(.long (((0 : Int64) + q1) + q2))])) _
      refine XS.lstore X56.here hx rfl (hb hby at_48) rfl (l' := #[.val (.int p1), .val (.long q1), .second, .val (.long q2), .second, .val (.long q3), .second, .val (.long q4), .second, .val (.int (3 : Int32)), .val (.ref b), .val (.long (((0 : Int64) + q1) + q2)), .second, .unset]) rfl ?_
      show Steps p.tables e below (T56.setTop (mkF m 50 #[.val (.int p1), .val (.long q1), .second, .val (.long q2), .second, .val (.long q3), .second, .val (.long q4), .second, .val (.int (3 : Int32)), .val (.ref b), .val (.long (((0 : Int64) + q1) + q2)), .second, .unset] [])) _
      refine XS.iload X56.here hx rfl (hb hby at_50) rfl ?_
      show Steps p.tables e below (T56.setTop (mkF m 52 #[.val (.int p1), .val (.long q1), .second, .val (.long q2), .second, .val (.long q3), .second, .val (.long q4), .second, .val (.int (3 : Int32)), .val (.ref b), .val (.long (((0 : Int64) + q1) + q2)), .second, .unset] [(.int (3 : Int32))])) _
      refine XS.iconst X56.here hx rfl (hb hby at_52) ?_
      show Steps p.tables e below (T56.setTop (mkF m 53 #[.val (.int p1), .val (.long q1), .second, .val (.long q2), .second, .val (.long q3), .second, .val (.long q4), .second, .val (.int (3 : Int32)), .val (.ref b), .val (.long (((0 : Int64) + q1) + q2)), .second, .unset] [(.int (2 : Int32)), (.int (3 : Int32))])) _
      refine XS.icmpNo X56.here hx rfl (hb hby at_53) rfl (XT.ii_le_f (by decide)) ?_
      show Steps p.tables e below (T56.setTop (mkF m 56 #[.val (.int p1), .val (.long q1), .second, .val (.long q2), .second, .val (.long q3), .second, .val (.long q4), .second, .val (.int (3 : Int32)), .val (.ref b), .val (.long (((0 : Int64) + q1) + q2)), .second, .unset] [])) _
      refine XS.aload X56.here hx rfl (hb hby at_56) rfl rfl ?_
      show Steps p.tables e below (T56.setTop (mkF m 58 #[.val (.int p1), .val (.long q1), .second, .val (.long q2), .second, .val (.long q3), .second, .val (.long q4), .second, .val (.int (3 : Int32)), .val (.ref b), .val (.long (((0 : Int64) + q1) + q2)), .second, .unset] [(.ref b)])) _
      refine XS.iconst X56.here hx rfl (hb hby at_58) ?_
      show Steps p.tables e below (T56.setTop (mkF m 59 #[.val (.int p1), .val (.long q1), .second, .val (.long q2), .second, .val (.long q3), .second, .val (.long q4), .second, .val (.int (3 : Int32)), .val (.ref b), .val (.long (((0 : Int64) + q1) + q2)), .second, .unset] [(.int (2 : Int32)), (.ref b)])) _
      refine XS.lload X56.here hx rfl (hb hby at_59) rfl ?_
      exact Steps.refl _
    obtain ⟨T59, h59, X59, e59, W59, V59', st59⟩ := own_stJ X56 hx hZ e56 V56 (j := (2 : Int32)) (i := 2) rfl ⟨by decide, Nat.le_of_ble_eq_true rfl⟩ (g := (mkF m 61 #[.val (.int p1), .val (.long q1), .second, .val (.long q2), .second, .val (.long q3), .second, .val (.long q4), .second, .val (.int (3 : Int32)), .val (.ref b), .val (.long (((0 : Int64) + q1) + q2)), .second, .unset] [(.long q3), (.int (2 : Int32)), (.ref b)])) rfl rfl (hb hby at_61)
    have V59 : LA Z h59 b .long [(.long q1), (.long q2), (.long q3)] := V59'
    have S60 : Steps p.tables e below Ω (T59.setTop (mkF m 62 #[.val (.int p1), .val (.long q1), .second, .val (.long q2), .second, .val (.long q3), .second, .val (.long q4), .second, .val (.int (3 : Int32)), .val (.ref b), .val (.long (((0 : Int64) + q1) + q2)), .second, .unset] [])) := S58.trans (st59 _ (Steps.refl _))
    have N59 := Fr.snoc X59 N56 g_b
    have B102 := B101.wr W59
    have S61 : Steps p.tables e below Ω (T59.setTop (mkF m 88 #[.val (.int p1), .val (.long q1), .second, .val (.long q2), .second, .val (.long q3), .second, .val (.long q4), .second, .val (.int (3 : Int32)), .val (.ref b), .val (.long ((((0 : Int64) + q1) + q2) + q3)), .second, .unset] [])) := by
      refine S60.trans ?_
      refine XS.lload X59.here hx rfl (hb hby at_62) rfl ?_
      show Steps p.tables e below (T59.setTop (mkF m 64 #[.val (.int p1), .val (.long q1), .second, .val (.long q2), .second, .val (.long q3), .second, .val (.long q4), .second, .val (.int (3 : Int32)), .val (.ref b), .val (.long (((0 : Int64) + q1) + q2)), .second, .unset] [(.long (((0 : Int64) + q1) + q2))])) _
      refine XS.lload X59.here hx rfl (hb hby at_64) rfl ?_
      show Steps p.tables e below (T59.setTop (mkF m 66 #[.val (.int p1), .val (.long q1), .second, .val (.long q2), .second, .val (.long q3), .second, .val (.long q4), .second, .val (.int (3 : Int32)), .val (.ref b), .val (.long (((0 : Int64) + q1) + q2)), .second, .unset] [(.long q3), (.long (((0 : Int64) + q1) + q2))])) _
      refine XS.ladd X59.here hx rfl (hb hby at_66) rfl ?_
      show Steps p.tables e below (T59.setTop (mkF m 67 #[.val (.int p1), .val (.long q1), .second, .val (.long q2), .second, .val (.long q3), .second, .val (.long q4), .second, .val (.int (3 : Int32)), .val (.ref b), .val (.long (((0 : Int64) + q1) + q2)), .second, .unset] [(.long ((((0 : Int64) + q1) + q2) + q3))])) _
      refine XS.lstore X59.here hx rfl (hb hby at_67) rfl (l' := #[.val (.int p1), .val (.long q1), .second, .val (.long q2), .second, .val (.long q3), .second, .val (.long q4), .second, .val (.int (3 : Int32)), .val (.ref b), .val (.long ((((0 : Int64) + q1) + q2) + q3)), .second, .unset]) rfl ?_
      show Steps p.tables e below (T59.setTop (mkF m 69 #[.val (.int p1), .val (.long q1), .second, .val (.long q2), .second, .val (.long q3), .second, .val (.long q4), .second, .val (.int (3 : Int32)), .val (.ref b), .val (.long ((((0 : Int64) + q1) + q2) + q3)), .second, .unset] [])) _
      refine XS.iload X59.here hx rfl (hb hby at_69) rfl ?_
      show Steps p.tables e below (T59.setTop (mkF m 71 #[.val (.int p1), .val (.long q1), .second, .val (.long q2), .second, .val (.long q3), .second, .val (.long q4), .second, .val (.int (3 : Int32)), .val (.ref b), .val (.long ((((0 : Int64) + q1) + q2) + q3)), .second, .unset] [(.int (3 : Int32))])) _
      refine XS.iconst X59.here hx rfl (hb hby at_71) ?_
      show Steps p.tables e below (T59.setTop (mkF m 72 #[.val (.int p1), .val (.long q1), .second, .val (.long q2), .second, .val (.long q3), .second, .val (.long q4), .second, .val (.int (3 : Int32)), .val (.ref b), .val (.long ((((0 : Int64) + q1) + q2) + q3)), .second, .unset] [(.int (3 : Int32)), (.int (3 : Int32))])) _
      refine XS.icmpYes X59.here hx rfl (pc0 := 72) (pc' := 88) rfl (hb hby at_72) rfl (XT.ii_le_t (by decide)) (by decide) (by decide) ?_
      exact Steps.refl _
    obtain ⟨T62, h62, X62, e62, E62, A62, D62, -, st62⟩ := newO X59 hx hZ hown (hw _ (List.mem_of_getElem? (i := 2) rfl)) (hw _ (List.mem_of_getElem? (i := 3) rfl)) (hw _ (List.mem_of_getElem? (i := 4) rfl)) e59 (g := (mkF m 88 #[.val (.int p1), .val (.long q1), .second, .val (.long q2), .second, .val (.long q3), .second, .val (.long q4), .second, .val (.int (3 : Int32)), .val (.ref b), .val (.long ((((0 : Int64) + q1) + q2) + q3)), .second, .unset] [])) rfl (hb hby at_88) (by decide) (by decide)
    obtain ⟨t, s_t⟩ : ∃ z, z = h59.size := ⟨_, rfl⟩
    rw [← s_t] at A62 D62 st62
    have g_t : n0 ≤ t := Nat.le_trans (Nat.le_trans (Nat.le_trans (Nat.le_trans (Nat.le_trans Z0 E50.1) (Keep.of_wr W53).1) (Keep.of_wr W56).1) (Keep.of_wr W59).1) (Nat.le_of_eq s_t.symm)
    have F_endOffsets_t : Fld Z h62 t "com/example/ingest/ingest/common/TopicInfo" "endOffsets" "[J" .null := D62 (Or.inr (hw _ (List.mem_of_getElem? (i := 21) rfl))) (ty := (.array .long)) (by decide)
    have S63 : Steps p.tables e below Ω (T62.setTop (mkF m 91 #[.val (.int p1), .val (.long q1), .second, .val (.long q2), .second, .val (.long q3), .second, .val (.long q4), .second, .val (.int (3 : Int32)), .val (.ref b), .val (.long ((((0 : Int64) + q1) + q2) + q3)), .second, .unset] [(.ref t)])) := S61.trans (st62 _ (Steps.refl _))
    have VV : LA Z h62 b .long (List.map Value.long [q1, q2, q3]) := V59.ext E62
    have BB := B102.ext E62
    have S64 : Steps p.tables e below Ω (T62.setTop (mkF m 94 #[.val (.int p1), .val (.long q1), .second, .val (.long q2), .second, .val (.long q3), .second, .val (.long q4), .second, .val (.int (3 : Int32)), .val (.ref b), .val (.long ((((0 : Int64) + q1) + q2) + q3)), .second, .unset] [(.ref b), (.ref t), (.ref t)])) := by
      refine S63.trans ?_
      refine XS.dup X62.here hx rfl (hb hby at_91) rfl rfl ?_
      show Steps p.tables e below (T62.setTop (mkF m 92 #[.val (.int p1), .val (.long q1), .second, .val (.long q2), .second, .val (.long q3), .second, .val (.long q4), .second, .val (.int (3 : Int32)), .val (.ref b), .val (.long ((((0 : Int64) + q1) + q2) + q3)), .second, .unset] [(.ref t), (.ref t)])) _
      refine XS.aload X62.here hx rfl (hb hby at_92) rfl rfl ?_
      exact Steps.refl _
    obtain ⟨_, _, ⟨T65, L65, k65, n65⟩, -, X65, ⟨Lc65, hQ65, l65, y65, z65⟩, st65⟩ := X62.specialBack hx (y := (⟨"com/example/ingest/ingest/common/TopicInfo", "<init>", "([J)V"⟩ : MethodName)) rfl hown (mvT hZ (hw _ (List.mem_of_getElem? (i := 5) rfl))) (mvT hZ (hw _ (List.mem_of_getElem? (i := 6) rfl))) (mvT hZ (hw _ (List.mem_of_getElem? (i := 7) rfl))) (by decide) (backOf (W := 1) (rm1 l Z a0 hw [] t b [q1, q2, q3] h62 n0 (Nat.le_trans (Nat.le_trans (Nat.le_trans (Nat.le_trans (Nat.le_trans Z0 E50.1) (Keep.of_wr W53).1) (Keep.of_wr W56).1) (Keep.of_wr W59).1) E62.1) A62 F_endOffsets_t g_t VV BB (Nat.le_of_ble_eq_true rfl)) hZ (hw _ (List.mem_of_getElem? (i := 7) rfl)) (hw _ (List.mem_of_getElem? (i := 4) rfl)) (by decide) (by decide)) (g := (mkF m 94 #[.val (.int p1), .val (.long q1), .second, .val (.long q2), .second, .val (.long q3), .second, .val (.long q4), .second, .val (.int (3 : Int32)), .val (.ref b), .val (.long ((((0 : Int64) + q1) + q2) + q3)), .second, .unset] [(.ref b), (.ref t), (.ref t)])) rfl (by rw [hml]; rfl) (Steps.refl _) (a := t) (argsL := [(.ref b)]) (rest := [(.ref t)]) (lenOf pd_0 rfl) rfl (by show 2 * 0 + _ ≤ _; exact Nat.le_of_eq rfl) (hb hby at_94) (fun _ _ => ⟨rfl, e62, (by decide : 2 + 1 ≤ _), (by decide : 4 + 4 ≤ _)⟩)
    dsimp only [Pt.U, Pt.locs, Pt.cells, Pt.slots] at X65 l65 y65 z65 st65 hQ65
    subst l65 y65 z65
    obtain ⟨cc, rfl, N65q, K65, E65, F1, LA1⟩ := hQ65
    have N65 := Fr.app N59 N65q
    have S66 : Steps p.tables e below Ω (T65.setTop (mkF m 97 #[.val (.int p1), .val (.long q1), .second, .val (.long q2), .second, .val (.long q3), .second, .val (.long q4), .second, .val (.int (3 : Int32)), .val (.ref b), .val (.long ((((0 : Int64) + q1) + q2) + q3)), .second, .unset] [(.ref t)])) := S64.trans st65
    have S67 : Steps p.tables e below Ω (T65.setTop (mkF m 101 #[.val (.int p1), .val (.long q1), .second, .val (.long q2), .second, .val (.long q3), .second, .val (.long q4), .second, .val (.int (3 : Int32)), .val (.ref b), .val (.long ((((0 : Int64) + q1) + q2) + q3)), .second, .val (.ref t)] [(.ref t)])) := by
      refine S66.trans ?_
      refine XS.astore X65.here hx rfl (hb hby at_97) rfl rfl (l' := #[.val (.int p1), .val (.long q1), .second, .val (.long q2), .second, .val (.long q3), .second, .val (.long q4), .second, .val (.int (3 : Int32)), .val (.ref b), .val (.long ((((0 : Int64) + q1) + q2) + q3)), .second, .val (.ref t)]) rfl ?_
      show Steps p.tables e below (T65.setTop (mkF m 99 #[.val (.int p1), .val (.long q1), .second, .val (.long q2), .second, .val (.long q3), .second, .val (.long q4), .second, .val (.int (3 : Int32)), .val (.ref b), .val (.long ((((0 : Int64) + q1) + q2) + q3)), .second, .val (.ref t)] [])) _
      refine XS.aload X65.here hx rfl (hb hby at_99) rfl rfl ?_
      exact Steps.refl _
    obtain ⟨cq68, kq68, q68a, q68b, q68c⟩ := isOf hZ rfl E65
    obtain ⟨_, _, ⟨T68, L68, k68, n68⟩, -, X68, ⟨Lc68, hQ68, l68, y68, z68⟩, st68⟩ := X65.virtualBack hx (y := (⟨"com/example/ingest/ingest/common/TopicInfo", "messages", "()J"⟩ : MethodName)) (z := (⟨"com/example/ingest/ingest/common/TopicInfo", "messages", "()J"⟩ : MethodName)) hown (mvT hZ (hw _ (List.mem_of_getElem? (i := 22) rfl))) (mvT hZ (hw _ (List.mem_of_getElem? (i := 23) rfl))) (notFace_of_selects (args := #[]) (mvT hZ (hw _ (List.mem_of_getElem? (i := 25) rfl)))) (mvT hZ (hw _ (List.mem_of_getElem? (i := 25) rfl))) (mvT hZ (hw _ (List.mem_of_getElem? (i := 24) rfl))) (by decide) (backOf (W := 0) (rm3 l Z a0 hw [] t cc [q1, q2, q3] T65.heap n0 (Nat.le_trans (Nat.le_trans (Nat.le_trans (Nat.le_trans (Nat.le_trans (Nat.le_trans Z0 E50.1) (Keep.of_wr W53).1) (Keep.of_wr W56).1) (Keep.of_wr W59).1) E62.1) K65.1) F1 LA1 (Nat.le_of_ble_eq_true rfl)) hZ (hw _ (List.mem_of_getElem? (i := 26) rfl)) (hw _ (List.mem_of_getElem? (i := 4) rfl)) (by decide) (by decide)) q68a q68c (g := (mkF m 101 #[.val (.int p1), .val (.long q1), .second, .val (.long q2), .second, .val (.long q3), .second, .val (.long q4), .second, .val (.int (3 : Int32)), .val (.ref b), .val (.long ((((0 : Int64) + q1) + q2) + q3)), .second, .val (.ref t)] [(.ref t)])) rfl (by rw [hml]; rfl) (Steps.refl _) (argsL := []) (rest := []) (lenOf pd_1 rfl) rfl (by show 2 * 0 + _ ≤ _; exact Nat.le_of_eq rfl) (hb hby at_101) (fun _ _ => ⟨rfl, rfl, (by decide : 3 + 0 ≤ _), (by decide : 8 + 0 ≤ _)⟩)
    dsimp only [Pt.U, Pt.locs, Pt.cells, Pt.slots] at X68 l68 y68 z68 st68 hQ68
    subst l68 y68 z68
    obtain ⟨rfl, N68q, e68⟩ := hQ68
    have N68 := Fr.app N65 N68q
    have S69 : Steps p.tables e below Ω (T68.setTop (mkF m 104 #[.val (.int p1), .val (.long q1), .second, .val (.long q2), .second, .val (.long q3), .second, .val (.long q4), .second, .val (.int (3 : Int32)), .val (.ref b), .val (.long ((((0 : Int64) + q1) + q2) + q3)), .second, .val (.ref t)] [(.long ([q1, q2, q3].foldl (fun a x => a + x) (0 : Int64)))])) := S67.trans st68
    have S70 : Steps p.tables e below Ω (T68.setTop (mkF m 107 #[.val (.int p1), .val (.long q1), .second, .val (.long q2), .second, .val (.long q3), .second, .val (.long q4), .second, .val (.int (3 : Int32)), .val (.ref b), .val (.long ((((0 : Int64) + q1) + q2) + q3)), .second, .val (.ref t)] [(.int (lcmpW ([q1, q2, q3].foldl (fun a x => a + x) (0 : Int64)) ((((0 : Int64) + q1) + q2) + q3)))])) := by
      refine S69.trans ?_
      refine XS.lload X68.here hx rfl (hb hby at_104) rfl ?_
      show Steps p.tables e below (T68.setTop (mkF m 106 #[.val (.int p1), .val (.long q1), .second, .val (.long q2), .second, .val (.long q3), .second, .val (.long q4), .second, .val (.int (3 : Int32)), .val (.ref b), .val (.long ((((0 : Int64) + q1) + q2) + q3)), .second, .val (.ref t)] [(.long ((((0 : Int64) + q1) + q2) + q3)), (.long ([q1, q2, q3].foldl (fun a x => a + x) (0 : Int64)))])) _
      refine XS.lcmp X68.here hx rfl (hb hby at_106) rfl ?_
      exact Steps.refl _
    have S71 : Steps p.tables e below Ω (T68.setTop (mkF m 115 #[.val (.int p1), .val (.long q1), .second, .val (.long q2), .second, .val (.long q3), .second, .val (.long q4), .second, .val (.int (3 : Int32)), .val (.ref b), .val (.long ((((0 : Int64) + q1) + q2) + q3)), .second, .val (.ref t)] [(.int (1 : Int32))])) := by
      refine S70.trans ?_
      refine XS.ifNo X68.here hx rfl (hb hby at_107) rfl (XT.ll_ne_f rfl) ?_
      show Steps p.tables e below (T68.setTop (mkF m 110 #[.val (.int p1), .val (.long q1), .second, .val (.long q2), .second, .val (.long q3), .second, .val (.long q4), .second, .val (.int (3 : Int32)), .val (.ref b), .val (.long ((((0 : Int64) + q1) + q2) + q3)), .second, .val (.ref t)] [])) _
      refine XS.iconst X68.here hx rfl (hb hby at_110) ?_
      show Steps p.tables e below (T68.setTop (mkF m 111 #[.val (.int p1), .val (.long q1), .second, .val (.long q2), .second, .val (.long q3), .second, .val (.long q4), .second, .val (.int (3 : Int32)), .val (.ref b), .val (.long ((((0 : Int64) + q1) + q2) + q3)), .second, .val (.ref t)] [(.int (1 : Int32))])) _
      refine XS.goto X68.here hx rfl (pc0 := 111) (pc' := 115) rfl (hb hby at_111) (by decide) (by decide) ?_
      exact Steps.refl _
    obtain ⟨fs, hr, hrun, hended, hW, hsame⟩ := X68.leave (v := some (.int (1 : Int32))) (fun h => by rw [Bd.returns] at h; cases h)
    have hfin : Steps p.tables e below Ω (T68.setFrames fs) := by
      refine S71.trans ?_
      exact own_retZ X68 hx Bd.returns (by decide) (hb hby at_115) hr
    rw [hΩ] at hfin
    refine ⟨_, _, hfin, hrun, hended, _, _, rfl, ?_, ⟨_, rfl⟩, hW, hsame.mono (by decide) (by decide)⟩
    show Q0 Z p1 q1 q2 q3 q4 h0 n0 _ T68.heap _
    rw [e68]
    exact ⟨rfl, N68⟩
  · obtain rfl := own_inj hk (by decide : (4 : Int32).toInt = 4)
    obtain ⟨T72, h72, k72, X72, e72, E72, A72, B72, st72⟩ := newPE X0 hx hZ (hw _ (List.mem_of_getElem? (i := 1) rfl)) e0 (g := (mkF m 10 #[.val (.int p1), .val (.long q1), .second, .val (.long q2), .second, .val (.long q3), .second, .val (.long q4), .second, .val (.int (4 : Int32)), .unset, .unset, .unset, .unset] [(.int (4 : Int32))])) rfl (hb hby at_10) rfl (by decide) (cap := 4) (by decide) (by decide) (by decide) (by decide) (ad := "[J") (by decide)
    obtain ⟨b, s_b⟩ : ∃ z, z = h0.size := ⟨_, rfl⟩
    rw [← s_b] at A72 B72 st72
    have g_b : n0 ≤ b := Nat.le_trans Z0 (Nat.le_of_eq s_b.symm)
    have S73 : Steps p.tables e below Ω (T72.setTop (mkF m 12 #[.val (.int p1), .val (.long q1), .second, .val (.long q2), .second, .val (.long q3), .second, .val (.long q4), .second, .val (.int (4 : Int32)), .unset, .unset, .unset, .unset] [(.ref b)])) := S1.trans (st72 _ (Steps.refl _))
    have V0 : LA Z h72 b .long [(.long (0 : Int64)), (.long (0 : Int64)), (.long (0 : Int64)), (.long (0 : Int64))] := LA.new A72 4 rfl
    have B0 := B72
    have S74 : Steps p.tables e below Ω (T72.setTop (mkF m 26 #[.val (.int p1), .val (.long q1), .second, .val (.long q2), .second, .val (.long q3), .second, .val (.long q4), .second, .val (.int (4 : Int32)), .val (.ref b), .val (.long (0 : Int64)), .second, .unset] [(.long q1), (.int (0 : Int32)), (.ref b)])) := by
      refine S73.trans ?_
      refine XS.astore X72.here hx rfl (hb hby at_12) rfl rfl (l' := #[.val (.int p1), .val (.long q1), .second, .val (.long q2), .second, .val (.long q3), .second, .val (.long q4), .second, .val (.int (4 : Int32)), .val (.ref b), .unset, .unset, .unset]) rfl ?_
      show Steps p.tables e below (T72.setTop (mkF m 14 #[.val (.int p1), .val (.long q1), .second, .val (.long q2), .second, .val (.long q3), .second, .val (.long q4), .second, .val (.int (4 : Int32)), .val (.ref b), .unset, .unset, .unset] [])) _
      refine XS.lconst X72.here hx rfl (hb hby at_14) ?_
      show Steps p.tables e below (T72.setTop (mkF m 15 #[.val (.int p1), .val (.long q1), .second, .val (.long q2), .second, .val (.long q3), .second, .val (.long q4), .second, .val (.int (4 : Int32)), .val (.ref b), .unset, .unset, .unset] [(.long (0 : Int64))])) _
      refine XS.lstore X72.here hx rfl (hb hby at_15) rfl (l' := #[.val (.int p1), .val (.long q1), .second, .val (.long q2), .second, .val (.long q3), .second, .val (.long q4), .second, .val (.int (4 : Int32)), .val (.ref b), .val (.long (0 : Int64)), .second, .unset]) rfl ?_
      show Steps p.tables e below (T72.setTop (mkF m 17 #[.val (.int p1), .val (.long q1), .second, .val (.long q2), .second, .val (.long q3), .second, .val (.long q4), .second, .val (.int (4 : Int32)), .val (.ref b), .val (.long (0 : Int64)), .second, .unset] [])) _
      refine XS.iload X72.here hx rfl (hb hby at_17) rfl ?_
      show Steps p.tables e below (T72.setTop (mkF m 19 #[.val (.int p1), .val (.long q1), .second, .val (.long q2), .second, .val (.long q3), .second, .val (.long q4), .second, .val (.int (4 : Int32)), .val (.ref b), .val (.long (0 : Int64)), .second, .unset] [(.int (4 : Int32))])) _
      refine XS.ifNo X72.here hx rfl (hb hby at_19) rfl (XT.i0_le_f (by decide)) ?_
      show Steps p.tables e below (T72.setTop (mkF m 22 #[.val (.int p1), .val (.long q1), .second, .val (.long q2), .second, .val (.long q3), .second, .val (.long q4), .second, .val (.int (4 : Int32)), .val (.ref b), .val (.long (0 : Int64)), .second, .unset] [])) _
      refine XS.aload X72.here hx rfl (hb hby at_22) rfl rfl ?_
      show Steps p.tables e below (T72.setTop (mkF m 24 #[.val (.int p1), .val (.long q1), .second, .val (.long q2), .second, .val (.long q3), .second, .val (.long q4), .second, .val (.int (4 : Int32)), .val (.ref b), .val (.long (0 : Int64)), .second, .unset] [(.ref b)])) _
      refine XS.iconst X72.here hx rfl (hb hby at_24) ?_
      show Steps p.tables e below (T72.setTop (mkF m 25 #[.val (.int p1), .val (.long q1), .second, .val (.long q2), .second, .val (.long q3), .second, .val (.long q4), .second, .val (.int (4 : Int32)), .val (.ref b), .val (.long (0 : Int64)), .second, .unset] [(.int (0 : Int32)), (.ref b)])) _
      refine XS.lloadN X72.here hx rfl (hb hby at_25) rfl ?_
      exact Steps.refl _
    obtain ⟨T75, h75, X75, e75, W75, V75', st75⟩ := own_stJ X72 hx hZ e72 V0 (j := (0 : Int32)) (i := 0) rfl ⟨by decide, Nat.le_of_ble_eq_true rfl⟩ (g := (mkF m 26 #[.val (.int p1), .val (.long q1), .second, .val (.long q2), .second, .val (.long q3), .second, .val (.long q4), .second, .val (.int (4 : Int32)), .val (.ref b), .val (.long (0 : Int64)), .second, .unset] [(.long q1), (.int (0 : Int32)), (.ref b)])) rfl rfl (hb hby at_26)
    have V75 : LA Z h75 b .long [(.long q1), (.long (0 : Int64)), (.long (0 : Int64)), (.long (0 : Int64))] := V75'
    have S76 : Steps p.tables e below Ω (T75.setTop (mkF m 27 #[.val (.int p1), .val (.long q1), .second, .val (.long q2), .second, .val (.long q3), .second, .val (.long q4), .second, .val (.int (4 : Int32)), .val (.ref b), .val (.long (0 : Int64)), .second, .unset] [])) := S74.trans (st75 _ (Steps.refl _))
    have N75 := Fr.snoc X75 N0 g_b
    have B100 := B0.wr W75
    have S77 : Steps p.tables e below Ω (T75.setTop (mkF m 43 #[.val (.int p1), .val (.long q1), .second, .val (.long q2), .second, .val (.long q3), .second, .val (.long q4), .second, .val (.int (4 : Int32)), .val (.ref b), .val (.long ((0 : Int64) + q1)), .second, .unset] [(.long q2), (.int (1 : Int32)), (.ref b)])) := by
      refine S76.trans ?_
      refine XS.lload X75.here hx rfl (hb hby at_27) rfl ?_
      show Steps p.tables e below (T75.setTop (mkF m 29 #[.val (.int p1), .val (.long q1), .second, .val (.long q2), .second, .val (.long q3), .second, .val (.long q4), .second, .val (.int (4 : Int32)), .val (.ref b), .val (.long (0 : Int64)), .second, .unset] [(.long (0 : Int64))])) _
      refine XS.lloadN X75.here hx rfl (hb hby at_29) rfl ?_
      show Steps p.tables e below (T75.setTop (mkF m 30 #[.val (.int p1), .val (.long q1), .second, .val (.long q2), .second, .val (.long q3), .second, .val (.long q4), .second, .val (.int (4 : Int32)), .val (.ref b), .val (.long (0 : Int64)), .second, .unset] [(.long q1), (.long (0 : Int64))])) _
      refine XS.ladd X75.here hx rfl (hb hby at_30) rfl ?_
      show Steps p.tables e below (T75.setTop (mkF m 31 #[.val (.int p1), .val (.long q1), .second, .val (.long q2), .second, .val (.long q3), .second, .val (.long q4), .second, .val (.int (4 : Int32)), .val (.ref b), .val (.long (0 : Int64)), .second, .unset] [(.long ((0 : Int64) + q1))])) _
      refine XS.lstore X75.here hx rfl (hb hby at_31) rfl (l' := #[.val (.int p1), .val (.long q1), .second, .val (.long q2), .second, .val (.long q3), .second, .val (.long q4), .second, .val (.int (4 : Int32)), .val (.ref b), .val (.long ((0 : Int64) + q1)), .second, .unset]) rfl ?_
      show Steps p.tables e below (T75.setTop (mkF m 33 #[.val (.int p1), .val (.long q1), .second, .val (.long q2), .second, .val (.long q3), .second, .val (.long q4), .second, .val (.int (4 : Int32)), .val (.ref b), .val (.long ((0 : Int64) + q1)), .second, .unset] [])) _
      refine XS.iload X75.here hx rfl (hb hby at_33) rfl ?_
      show Steps p.tables e below (T75.setTop (mkF m 35 #[.val (.int p1), .val (.long q1), .second, .val (.long q2), .second, .val (.long q3), .second, .val (.long q4), .second, .val (.int (4 : Int32)), .val (.ref b), .val (.long ((0 : Int64) + q1)), .second, .unset] [(.int (4 : Int32))])) _
      refine XS.iconst X75.here hx rfl (hb hby at_35) ?_
      show Steps p.tables e below (T75.setTop (mkF m 36 #[.val (.int p1), .val (.long q1), .second, .val (.long q2), .second, .val (.long q3), .second, .val (.long q4), .second, .val (.int (4 : Int32)), .val (.ref b), .val (.long ((0 : Int64) + q1)), .second, .unset] [(.int (1 : Int32)), (.int (4 : Int32))])) _
      refine XS.icmpNo X75.here hx rfl (hb hby at_36) rfl (XT.ii_le_f (by decide)) ?_
      show Steps p.tables e below (T75.setTop (mkF m 39 #[.val (.int p1), .val (.long q1), .second, .val (.long q2), .second, .val (.long q3), .second, .val (.long q4), .second, .val (.int (4 : Int32)), .val (.ref b), .val (.long ((0 : Int64) + q1)), .second, .unset] [])) _
      refine XS.aload X75.here hx rfl (hb hby at_39) rfl rfl ?_
      show Steps p.tables e below (T75.setTop (mkF m 41 #[.val (.int p1), .val (.long q1), .second, .val (.long q2), .second, .val (.long q3), .second, .val (.long q4), .second, .val (.int (4 : Int32)), .val (.ref b), .val (.long ((0 : Int64) + q1)), .second, .unset] [(.ref b)])) _
      refine XS.iconst X75.here hx rfl (hb hby at_41) ?_
      show Steps p.tables e below (T75.setTop (mkF m 42 #[.val (.int p1), .val (.long q1), .second, .val (.long q2), .second, .val (.long q3), .second, .val (.long q4), .second, .val (.int (4 : Int32)), .val (.ref b), .val (.long ((0 : Int64) + q1)), .second, .unset] [(.int (1 : Int32)), (.ref b)])) _
      refine XS.lloadN X75.here hx rfl (hb hby at_42) rfl ?_
      exact Steps.refl _
    obtain ⟨T78, h78, X78, e78, W78, V78', st78⟩ := own_stJ X75 hx hZ e75 V75 (j := (1 : Int32)) (i := 1) rfl ⟨by decide, Nat.le_of_ble_eq_true rfl⟩ (g := (mkF m 43 #[.val (.int p1), .val (.long q1), .second, .val (.long q2), .second, .val (.long q3), .second, .val (.long q4), .second, .val (.int (4 : Int32)), .val (.ref b), .val (.long ((0 : Int64) + q1)), .second, .unset] [(.long q2), (.int (1 : Int32)), (.ref b)])) rfl rfl (hb hby at_43)
    have V78 : LA Z h78 b .long [(.long q1), (.long q2), (.long (0 : Int64)), (.long (0 : Int64))] := V78'
    have S79 : Steps p.tables e below Ω (T78.setTop (mkF m 44 #[.val (.int p1), .val (.long q1), .second, .val (.long q2), .second, .val (.long q3), .second, .val (.long q4), .second, .val (.int (4 : Int32)), .val (.ref b), .val (.long ((0 : Int64) + q1)), .second, .unset] [])) := S77.trans (st78 _ (Steps.refl _))
    have N78 := Fr.snoc X78 N75 g_b
    have B101 := B100.wr W78
    have S80 : Steps p.tables e below Ω (T78.setTop (mkF m 61 #[.val (.int p1), .val (.long q1), .second, .val (.long q2), .second, .val (.long q3), .second, .val (.long q4), .second, .val (.int (4 : Int32)), .val (.ref b), .val (.long (((0 : Int64) + q1) + q2)), .second, .unset] [(.long q3), (.int (2 : Int32)), (.ref b)])) := by
      refine S79.trans ?_
      refine XS.lload X78.here hx rfl (hb hby at_44) rfl ?_
      show Steps p.tables e below (T78.setTop (mkF m 46 #[.val (.int p1), .val (.long q1), .second, .val (.long q2), .second, .val (.long q3), .second, .val (.long q4), .second, .val (.int (4 : Int32)), .val (.ref b), .val (.long ((0 : Int64) + q1)), .second, .unset] [(.long ((0 : Int64) + q1))])) _
      refine XS.lloadN X78.here hx rfl (hb hby at_46) rfl ?_
      show Steps p.tables e below (T78.setTop (mkF m 47 #[.val (.int p1), .val (.long q1), .second, .val (.long q2), .second, .val (.long q3), .second, .val (.long q4), .second, .val (.int (4 : Int32)), .val (.ref b), .val (.long ((0 : Int64) + q1)), .second, .unset] [(.long q2), (.long ((0 : Int64) + q1))])) _
      refine XS.ladd X78.here hx rfl (hb hby at_47) rfl ?_
      show Steps p.tables e below (T78.setTop (mkF m 48 #[.val (.int p1), .val (.long q1), .second, .val (.long q2), .second, .val (.long q3), .second, .val (.long q4), .second, .val (.int (4 : Int32)), .val (.ref b), .val (.long ((0 : Int64) + q1)), .second, .unset] [(.long (((0 : Int64) + q1) + q2))])) _
      refine XS.lstore X78.here hx rfl (hb hby at_48) rfl (l' := #[.val (.int p1), .val (.long q1), .second, .val (.long q2), .second, .val (.long q3), .second, .val (.long q4), .second, .val (.int (4 : Int32)), .val (.ref b), .val (.long (((0 : Int64) + q1) + q2)), .second, .unset]) rfl ?_
      show Steps p.tables e below (T78.setTop (mkF m 50 #[.val (.int p1), .val (.long q1), .second, .val (.long q2), .second, .val (.long q3), .second, .val (.long q4), .second, .val (.int (4 : Int32)), .val (.ref b), .val (.long (((0 : Int64) + q1) + q2)), .second, .unset] [])) _
      refine XS.iload X78.here hx rfl (hb hby at_50) rfl ?_
      show Steps p.tables e below (T78.setTop (mkF m 52 #[.val (.int p1), .val (.long q1), .second, .val (.long q2), .second, .val (.long q3), .second, .val (.long q4), .second, .val (.int (4 : Int32)), .val (.ref b), .val (.long (((0 : Int64) + q1) + q2)), .second, .unset] [(.int (4 : Int32))])) _
      refine XS.iconst X78.here hx rfl (hb hby at_52) ?_
      show Steps p.tables e below (T78.setTop (mkF m 53 #[.val (.int p1), .val (.long q1), .second, .val (.long q2), .second, .val (.long q3), .second, .val (.long q4), .second, .val (.int (4 : Int32)), .val (.ref b), .val (.long (((0 : Int64) + q1) + q2)), .second, .unset] [(.int (2 : Int32)), (.int (4 : Int32))])) _
      refine XS.icmpNo X78.here hx rfl (hb hby at_53) rfl (XT.ii_le_f (by decide)) ?_
      show Steps p.tables e below (T78.setTop (mkF m 56 #[.val (.int p1), .val (.long q1), .second, .val (.long q2), .second, .val (.long q3), .second, .val (.long q4), .second, .val (.int (4 : Int32)), .val (.ref b), .val (.long (((0 : Int64) + q1) + q2)), .second, .unset] [])) _
      refine XS.aload X78.here hx rfl (hb hby at_56) rfl rfl ?_
      show Steps p.tables e below (T78.setTop (mkF m 58 #[.val (.int p1), .val (.long q1), .second, .val (.long q2), .second, .val (.long q3), .second, .val (.long q4), .second, .val (.int (4 : Int32)), .val (.ref b), .val (.long (((0 : Int64) + q1) + q2)), .second, .unset] [(.ref b)])) _
      refine XS.iconst X78.here hx rfl (hb hby at_58) ?_
      show Steps p.tables e below (T78.setTop (mkF m 59 #[.val (.int p1), .val (.long q1), .second, .val (.long q2), .second, .val (.long q3), .second, .val (.long q4), .second, .val (.int (4 : Int32)), .val (.ref b), .val (.long (((0 : Int64) + q1) + q2)), .second, .unset] [(.int (2 : Int32)), (.ref b)])) _
      refine XS.lload X78.here hx rfl (hb hby at_59) rfl ?_
      exact Steps.refl _
    obtain ⟨T81, h81, X81, e81, W81, V81', st81⟩ := own_stJ X78 hx hZ e78 V78 (j := (2 : Int32)) (i := 2) rfl ⟨by decide, Nat.le_of_ble_eq_true rfl⟩ (g := (mkF m 61 #[.val (.int p1), .val (.long q1), .second, .val (.long q2), .second, .val (.long q3), .second, .val (.long q4), .second, .val (.int (4 : Int32)), .val (.ref b), .val (.long (((0 : Int64) + q1) + q2)), .second, .unset] [(.long q3), (.int (2 : Int32)), (.ref b)])) rfl rfl (hb hby at_61)
    have V81 : LA Z h81 b .long [(.long q1), (.long q2), (.long q3), (.long (0 : Int64))] := V81'
    have S82 : Steps p.tables e below Ω (T81.setTop (mkF m 62 #[.val (.int p1), .val (.long q1), .second, .val (.long q2), .second, .val (.long q3), .second, .val (.long q4), .second, .val (.int (4 : Int32)), .val (.ref b), .val (.long (((0 : Int64) + q1) + q2)), .second, .unset] [])) := S80.trans (st81 _ (Steps.refl _))
    have N81 := Fr.snoc X81 N78 g_b
    have B102 := B101.wr W81
    have S83 : Steps p.tables e below Ω (T81.setTop (mkF m 80 #[.val (.int p1), .val (.long q1), .second, .val (.long q2), .second, .val (.long q3), .second, .val (.long q4), .second, .val (.int (4 : Int32)), .val (.ref b), .val (.long ((((0 : Int64) + q1) + q2) + q3)), .second, .unset] [(.long q4), (.int (3 : Int32)), (.ref b)])) := by
      refine S82.trans ?_
      refine XS.lload X81.here hx rfl (hb hby at_62) rfl ?_
      show Steps p.tables e below (T81.setTop (mkF m 64 #[.val (.int p1), .val (.long q1), .second, .val (.long q2), .second, .val (.long q3), .second, .val (.long q4), .second, .val (.int (4 : Int32)), .val (.ref b), .val (.long (((0 : Int64) + q1) + q2)), .second, .unset] [(.long (((0 : Int64) + q1) + q2))])) _
      refine XS.lload X81.here hx rfl (hb hby at_64) rfl ?_
      show Steps p.tables e below (T81.setTop (mkF m 66 #[.val (.int p1), .val (.long q1), .second, .val (.long q2), .second, .val (.long q3), .second, .val (.long q4), .second, .val (.int (4 : Int32)), .val (.ref b), .val (.long (((0 : Int64) + q1) + q2)), .second, .unset] [(.long q3), (.long (((0 : Int64) + q1) + q2))])) _
      refine XS.ladd X81.here hx rfl (hb hby at_66) rfl ?_
      show Steps p.tables e below (T81.setTop (mkF m 67 #[.val (.int p1), .val (.long q1), .second, .val (.long q2), .second, .val (.long q3), .second, .val (.long q4), .second, .val (.int (4 : Int32)), .val (.ref b), .val (.long (((0 : Int64) + q1) + q2)), .second, .unset] [(.long ((((0 : Int64) + q1) + q2) + q3))])) _
      refine XS.lstore X81.here hx rfl (hb hby at_67) rfl (l' := #[.val (.int p1), .val (.long q1), .second, .val (.long q2), .second, .val (.long q3), .second, .val (.long q4), .second, .val (.int (4 : Int32)), .val (.ref b), .val (.long ((((0 : Int64) + q1) + q2) + q3)), .second, .unset]) rfl ?_
      show Steps p.tables e below (T81.setTop (mkF m 69 #[.val (.int p1), .val (.long q1), .second, .val (.long q2), .second, .val (.long q3), .second, .val (.long q4), .second, .val (.int (4 : Int32)), .val (.ref b), .val (.long ((((0 : Int64) + q1) + q2) + q3)), .second, .unset] [])) _
      refine XS.iload X81.here hx rfl (hb hby at_69) rfl ?_
      show Steps p.tables e below (T81.setTop (mkF m 71 #[.val (.int p1), .val (.long q1), .second, .val (.long q2), .second, .val (.long q3), .second, .val (.long q4), .second, .val (.int (4 : Int32)), .val (.ref b), .val (.long ((((0 : Int64) + q1) + q2) + q3)), .second, .unset] [(.int (4 : Int32))])) _
      refine XS.iconst X81.here hx rfl (hb hby at_71) ?_
      show Steps p.tables e below (T81.setTop (mkF m 72 #[.val (.int p1), .val (.long q1), .second, .val (.long q2), .second, .val (.long q3), .second, .val (.long q4), .second, .val (.int (4 : Int32)), .val (.ref b), .val (.long ((((0 : Int64) + q1) + q2) + q3)), .second, .unset] [(.int (3 : Int32)), (.int (4 : Int32))])) _
      refine XS.icmpNo X81.here hx rfl (hb hby at_72) rfl (XT.ii_le_f (by decide)) ?_
      show Steps p.tables e below (T81.setTop (mkF m 75 #[.val (.int p1), .val (.long q1), .second, .val (.long q2), .second, .val (.long q3), .second, .val (.long q4), .second, .val (.int (4 : Int32)), .val (.ref b), .val (.long ((((0 : Int64) + q1) + q2) + q3)), .second, .unset] [])) _
      refine XS.aload X81.here hx rfl (hb hby at_75) rfl rfl ?_
      show Steps p.tables e below (T81.setTop (mkF m 77 #[.val (.int p1), .val (.long q1), .second, .val (.long q2), .second, .val (.long q3), .second, .val (.long q4), .second, .val (.int (4 : Int32)), .val (.ref b), .val (.long ((((0 : Int64) + q1) + q2) + q3)), .second, .unset] [(.ref b)])) _
      refine XS.iconst X81.here hx rfl (hb hby at_77) ?_
      show Steps p.tables e below (T81.setTop (mkF m 78 #[.val (.int p1), .val (.long q1), .second, .val (.long q2), .second, .val (.long q3), .second, .val (.long q4), .second, .val (.int (4 : Int32)), .val (.ref b), .val (.long ((((0 : Int64) + q1) + q2) + q3)), .second, .unset] [(.int (3 : Int32)), (.ref b)])) _
      refine XS.lload X81.here hx rfl (hb hby at_78) rfl ?_
      exact Steps.refl _
    obtain ⟨T84, h84, X84, e84, W84, V84', st84⟩ := own_stJ X81 hx hZ e81 V81 (j := (3 : Int32)) (i := 3) rfl ⟨by decide, Nat.le_of_ble_eq_true rfl⟩ (g := (mkF m 80 #[.val (.int p1), .val (.long q1), .second, .val (.long q2), .second, .val (.long q3), .second, .val (.long q4), .second, .val (.int (4 : Int32)), .val (.ref b), .val (.long ((((0 : Int64) + q1) + q2) + q3)), .second, .unset] [(.long q4), (.int (3 : Int32)), (.ref b)])) rfl rfl (hb hby at_80)
    have V84 : LA Z h84 b .long [(.long q1), (.long q2), (.long q3), (.long q4)] := V84'
    have S85 : Steps p.tables e below Ω (T84.setTop (mkF m 81 #[.val (.int p1), .val (.long q1), .second, .val (.long q2), .second, .val (.long q3), .second, .val (.long q4), .second, .val (.int (4 : Int32)), .val (.ref b), .val (.long ((((0 : Int64) + q1) + q2) + q3)), .second, .unset] [])) := S83.trans (st84 _ (Steps.refl _))
    have N84 := Fr.snoc X84 N81 g_b
    have B103 := B102.wr W84
    have S86 : Steps p.tables e below Ω (T84.setTop (mkF m 88 #[.val (.int p1), .val (.long q1), .second, .val (.long q2), .second, .val (.long q3), .second, .val (.long q4), .second, .val (.int (4 : Int32)), .val (.ref b), .val (.long (((((0 : Int64) + q1) + q2) + q3) + q4)), .second, .unset] [])) := by
      refine S85.trans ?_
      refine XS.lload X84.here hx rfl (hb hby at_81) rfl ?_
      show Steps p.tables e below (T84.setTop (mkF m 83 #[.val (.int p1), .val (.long q1), .second, .val (.long q2), .second, .val (.long q3), .second, .val (.long q4), .second, .val (.int (4 : Int32)), .val (.ref b), .val (.long ((((0 : Int64) + q1) + q2) + q3)), .second, .unset] [(.long ((((0 : Int64) + q1) + q2) + q3))])) _
      refine XS.lload X84.here hx rfl (hb hby at_83) rfl ?_
      show Steps p.tables e below (T84.setTop (mkF m 85 #[.val (.int p1), .val (.long q1), .second, .val (.long q2), .second, .val (.long q3), .second, .val (.long q4), .second, .val (.int (4 : Int32)), .val (.ref b), .val (.long ((((0 : Int64) + q1) + q2) + q3)), .second, .unset] [(.long q4), (.long ((((0 : Int64) + q1) + q2) + q3))])) _
      refine XS.ladd X84.here hx rfl (hb hby at_85) rfl ?_
      show Steps p.tables e below (T84.setTop (mkF m 86 #[.val (.int p1), .val (.long q1), .second, .val (.long q2), .second, .val (.long q3), .second, .val (.long q4), .second, .val (.int (4 : Int32)), .val (.ref b), .val (.long ((((0 : Int64) + q1) + q2) + q3)), .second, .unset] [(.long (((((0 : Int64) + q1) + q2) + q3) + q4))])) _
      refine XS.lstore X84.here hx rfl (hb hby at_86) rfl (l' := #[.val (.int p1), .val (.long q1), .second, .val (.long q2), .second, .val (.long q3), .second, .val (.long q4), .second, .val (.int (4 : Int32)), .val (.ref b), .val (.long (((((0 : Int64) + q1) + q2) + q3) + q4)), .second, .unset]) rfl ?_
      exact Steps.refl _
    obtain ⟨T87, h87, X87, e87, E87, A87, D87, -, st87⟩ := newO X84 hx hZ hown (hw _ (List.mem_of_getElem? (i := 2) rfl)) (hw _ (List.mem_of_getElem? (i := 3) rfl)) (hw _ (List.mem_of_getElem? (i := 4) rfl)) e84 (g := (mkF m 88 #[.val (.int p1), .val (.long q1), .second, .val (.long q2), .second, .val (.long q3), .second, .val (.long q4), .second, .val (.int (4 : Int32)), .val (.ref b), .val (.long (((((0 : Int64) + q1) + q2) + q3) + q4)), .second, .unset] [])) rfl (hb hby at_88) (by decide) (by decide)
    obtain ⟨t, s_t⟩ : ∃ z, z = h84.size := ⟨_, rfl⟩
    rw [← s_t] at A87 D87 st87
    have g_t : n0 ≤ t := Nat.le_trans (Nat.le_trans (Nat.le_trans (Nat.le_trans (Nat.le_trans (Nat.le_trans Z0 E72.1) (Keep.of_wr W75).1) (Keep.of_wr W78).1) (Keep.of_wr W81).1) (Keep.of_wr W84).1) (Nat.le_of_eq s_t.symm)
    have F_endOffsets_t : Fld Z h87 t "com/example/ingest/ingest/common/TopicInfo" "endOffsets" "[J" .null := D87 (Or.inr (hw _ (List.mem_of_getElem? (i := 21) rfl))) (ty := (.array .long)) (by decide)
    have S88 : Steps p.tables e below Ω (T87.setTop (mkF m 91 #[.val (.int p1), .val (.long q1), .second, .val (.long q2), .second, .val (.long q3), .second, .val (.long q4), .second, .val (.int (4 : Int32)), .val (.ref b), .val (.long (((((0 : Int64) + q1) + q2) + q3) + q4)), .second, .unset] [(.ref t)])) := S86.trans (st87 _ (Steps.refl _))
    have VV : LA Z h87 b .long (List.map Value.long [q1, q2, q3, q4]) := V84.ext E87
    have BB := B103.ext E87
    have S89 : Steps p.tables e below Ω (T87.setTop (mkF m 94 #[.val (.int p1), .val (.long q1), .second, .val (.long q2), .second, .val (.long q3), .second, .val (.long q4), .second, .val (.int (4 : Int32)), .val (.ref b), .val (.long (((((0 : Int64) + q1) + q2) + q3) + q4)), .second, .unset] [(.ref b), (.ref t), (.ref t)])) := by
      refine S88.trans ?_
      refine XS.dup X87.here hx rfl (hb hby at_91) rfl rfl ?_
      show Steps p.tables e below (T87.setTop (mkF m 92 #[.val (.int p1), .val (.long q1), .second, .val (.long q2), .second, .val (.long q3), .second, .val (.long q4), .second, .val (.int (4 : Int32)), .val (.ref b), .val (.long (((((0 : Int64) + q1) + q2) + q3) + q4)), .second, .unset] [(.ref t), (.ref t)])) _
      refine XS.aload X87.here hx rfl (hb hby at_92) rfl rfl ?_
      exact Steps.refl _
    obtain ⟨_, _, ⟨T90, L90, k90, n90⟩, -, X90, ⟨Lc90, hQ90, l90, y90, z90⟩, st90⟩ := X87.specialBack hx (y := (⟨"com/example/ingest/ingest/common/TopicInfo", "<init>", "([J)V"⟩ : MethodName)) rfl hown (mvT hZ (hw _ (List.mem_of_getElem? (i := 5) rfl))) (mvT hZ (hw _ (List.mem_of_getElem? (i := 6) rfl))) (mvT hZ (hw _ (List.mem_of_getElem? (i := 7) rfl))) (by decide) (backOf (W := 1) (rm1 l Z a0 hw [] t b [q1, q2, q3, q4] h87 n0 (Nat.le_trans (Nat.le_trans (Nat.le_trans (Nat.le_trans (Nat.le_trans (Nat.le_trans Z0 E72.1) (Keep.of_wr W75).1) (Keep.of_wr W78).1) (Keep.of_wr W81).1) (Keep.of_wr W84).1) E87.1) A87 F_endOffsets_t g_t VV BB (Nat.le_of_ble_eq_true rfl)) hZ (hw _ (List.mem_of_getElem? (i := 7) rfl)) (hw _ (List.mem_of_getElem? (i := 4) rfl)) (by decide) (by decide)) (g := (mkF m 94 #[.val (.int p1), .val (.long q1), .second, .val (.long q2), .second, .val (.long q3), .second, .val (.long q4), .second, .val (.int (4 : Int32)), .val (.ref b), .val (.long (((((0 : Int64) + q1) + q2) + q3) + q4)), .second, .unset] [(.ref b), (.ref t), (.ref t)])) rfl (by rw [hml]; rfl) (Steps.refl _) (a := t) (argsL := [(.ref b)]) (rest := [(.ref t)]) (lenOf pd_0 rfl) rfl (by show 2 * 0 + _ ≤ _; exact Nat.le_of_eq rfl) (hb hby at_94) (fun _ _ => ⟨rfl, e87, (by decide : 2 + 1 ≤ _), (by decide : 5 + 4 ≤ _)⟩)
    dsimp only [Pt.U, Pt.locs, Pt.cells, Pt.slots] at X90 l90 y90 z90 st90 hQ90
    subst l90 y90 z90
    obtain ⟨cc, rfl, N90q, K90, E90, F1, LA1⟩ := hQ90
    have N90 := Fr.app N84 N90q
    have S91 : Steps p.tables e below Ω (T90.setTop (mkF m 97 #[.val (.int p1), .val (.long q1), .second, .val (.long q2), .second, .val (.long q3), .second, .val (.long q4), .second, .val (.int (4 : Int32)), .val (.ref b), .val (.long (((((0 : Int64) + q1) + q2) + q3) + q4)), .second, .unset] [(.ref t)])) := S89.trans st90
    have S92 : Steps p.tables e below Ω (T90.setTop (mkF m 101 #[.val (.int p1), .val (.long q1), .second, .val (.long q2), .second, .val (.long q3), .second, .val (.long q4), .second, .val (.int (4 : Int32)), .val (.ref b), .val (.long (((((0 : Int64) + q1) + q2) + q3) + q4)), .second, .val (.ref t)] [(.ref t)])) := by
      refine S91.trans ?_
      refine XS.astore X90.here hx rfl (hb hby at_97) rfl rfl (l' := #[.val (.int p1), .val (.long q1), .second, .val (.long q2), .second, .val (.long q3), .second, .val (.long q4), .second, .val (.int (4 : Int32)), .val (.ref b), .val (.long (((((0 : Int64) + q1) + q2) + q3) + q4)), .second, .val (.ref t)]) rfl ?_
      show Steps p.tables e below (T90.setTop (mkF m 99 #[.val (.int p1), .val (.long q1), .second, .val (.long q2), .second, .val (.long q3), .second, .val (.long q4), .second, .val (.int (4 : Int32)), .val (.ref b), .val (.long (((((0 : Int64) + q1) + q2) + q3) + q4)), .second, .val (.ref t)] [])) _
      refine XS.aload X90.here hx rfl (hb hby at_99) rfl rfl ?_
      exact Steps.refl _
    obtain ⟨cq93, kq93, q93a, q93b, q93c⟩ := isOf hZ rfl E90
    obtain ⟨_, _, ⟨T93, L93, k93, n93⟩, -, X93, ⟨Lc93, hQ93, l93, y93, z93⟩, st93⟩ := X90.virtualBack hx (y := (⟨"com/example/ingest/ingest/common/TopicInfo", "messages", "()J"⟩ : MethodName)) (z := (⟨"com/example/ingest/ingest/common/TopicInfo", "messages", "()J"⟩ : MethodName)) hown (mvT hZ (hw _ (List.mem_of_getElem? (i := 22) rfl))) (mvT hZ (hw _ (List.mem_of_getElem? (i := 23) rfl))) (notFace_of_selects (args := #[]) (mvT hZ (hw _ (List.mem_of_getElem? (i := 25) rfl)))) (mvT hZ (hw _ (List.mem_of_getElem? (i := 25) rfl))) (mvT hZ (hw _ (List.mem_of_getElem? (i := 24) rfl))) (by decide) (backOf (W := 0) (rm3 l Z a0 hw [] t cc [q1, q2, q3, q4] T90.heap n0 (Nat.le_trans (Nat.le_trans (Nat.le_trans (Nat.le_trans (Nat.le_trans (Nat.le_trans (Nat.le_trans Z0 E72.1) (Keep.of_wr W75).1) (Keep.of_wr W78).1) (Keep.of_wr W81).1) (Keep.of_wr W84).1) E87.1) K90.1) F1 LA1 (Nat.le_of_ble_eq_true rfl)) hZ (hw _ (List.mem_of_getElem? (i := 26) rfl)) (hw _ (List.mem_of_getElem? (i := 4) rfl)) (by decide) (by decide)) q93a q93c (g := (mkF m 101 #[.val (.int p1), .val (.long q1), .second, .val (.long q2), .second, .val (.long q3), .second, .val (.long q4), .second, .val (.int (4 : Int32)), .val (.ref b), .val (.long (((((0 : Int64) + q1) + q2) + q3) + q4)), .second, .val (.ref t)] [(.ref t)])) rfl (by rw [hml]; rfl) (Steps.refl _) (argsL := []) (rest := []) (lenOf pd_1 rfl) rfl (by show 2 * 0 + _ ≤ _; exact Nat.le_of_eq rfl) (hb hby at_101) (fun _ _ => ⟨rfl, rfl, (by decide : 3 + 0 ≤ _), (by decide : 9 + 0 ≤ _)⟩)
    dsimp only [Pt.U, Pt.locs, Pt.cells, Pt.slots] at X93 l93 y93 z93 st93 hQ93
    subst l93 y93 z93
    obtain ⟨rfl, N93q, e93⟩ := hQ93
    have N93 := Fr.app N90 N93q
    have S94 : Steps p.tables e below Ω (T93.setTop (mkF m 104 #[.val (.int p1), .val (.long q1), .second, .val (.long q2), .second, .val (.long q3), .second, .val (.long q4), .second, .val (.int (4 : Int32)), .val (.ref b), .val (.long (((((0 : Int64) + q1) + q2) + q3) + q4)), .second, .val (.ref t)] [(.long ([q1, q2, q3, q4].foldl (fun a x => a + x) (0 : Int64)))])) := S92.trans st93
    have S95 : Steps p.tables e below Ω (T93.setTop (mkF m 107 #[.val (.int p1), .val (.long q1), .second, .val (.long q2), .second, .val (.long q3), .second, .val (.long q4), .second, .val (.int (4 : Int32)), .val (.ref b), .val (.long (((((0 : Int64) + q1) + q2) + q3) + q4)), .second, .val (.ref t)] [(.int (lcmpW ([q1, q2, q3, q4].foldl (fun a x => a + x) (0 : Int64)) (((((0 : Int64) + q1) + q2) + q3) + q4)))])) := by
      refine S94.trans ?_
      refine XS.lload X93.here hx rfl (hb hby at_104) rfl ?_
      show Steps p.tables e below (T93.setTop (mkF m 106 #[.val (.int p1), .val (.long q1), .second, .val (.long q2), .second, .val (.long q3), .second, .val (.long q4), .second, .val (.int (4 : Int32)), .val (.ref b), .val (.long (((((0 : Int64) + q1) + q2) + q3) + q4)), .second, .val (.ref t)] [(.long (((((0 : Int64) + q1) + q2) + q3) + q4)), (.long ([q1, q2, q3, q4].foldl (fun a x => a + x) (0 : Int64)))])) _
      refine XS.lcmp X93.here hx rfl (hb hby at_106) rfl ?_
      exact Steps.refl _
    have S96 : Steps p.tables e below Ω (T93.setTop (mkF m 115 #[.val (.int p1), .val (.long q1), .second, .val (.long q2), .second, .val (.long q3), .second, .val (.long q4), .second, .val (.int (4 : Int32)), .val (.ref b), .val (.long (((((0 : Int64) + q1) + q2) + q3) + q4)), .second, .val (.ref t)] [(.int (1 : Int32))])) := by
      refine S95.trans ?_
      refine XS.ifNo X93.here hx rfl (hb hby at_107) rfl (XT.ll_ne_f rfl) ?_
      show Steps p.tables e below (T93.setTop (mkF m 110 #[.val (.int p1), .val (.long q1), .second, .val (.long q2), .second, .val (.long q3), .second, .val (.long q4), .second, .val (.int (4 : Int32)), .val (.ref b), .val (.long (((((0 : Int64) + q1) + q2) + q3) + q4)), .second, .val (.ref t)] [])) _
      refine XS.iconst X93.here hx rfl (hb hby at_110) ?_
      show Steps p.tables e below (T93.setTop (mkF m 111 #[.val (.int p1), .val (.long q1), .second, .val (.long q2), .second, .val (.long q3), .second, .val (.long q4), .second, .val (.int (4 : Int32)), .val (.ref b), .val (.long (((((0 : Int64) + q1) + q2) + q3) + q4)), .second, .val (.ref t)] [(.int (1 : Int32))])) _
      refine XS.goto X93.here hx rfl (pc0 := 111) (pc' := 115) rfl (hb hby at_111) (by decide) (by decide) ?_
      exact Steps.refl _
    obtain ⟨fs, hr, hrun, hended, hW, hsame⟩ := X93.leave (v := some (.int (1 : Int32))) (fun h => by rw [Bd.returns] at h; cases h)
    have hfin : Steps p.tables e below Ω (T93.setFrames fs) := by
      refine S96.trans ?_
      exact own_retZ X93 hx Bd.returns (by decide) (hb hby at_115) hr
    rw [hΩ] at hfin
    refine ⟨_, _, hfin, hrun, hended, _, _, rfl, ?_, ⟨_, rfl⟩, hW, hsame.mono (by decide) (by decide)⟩
    show Q0 Z p1 q1 q2 q3 q4 h0 n0 _ T93.heap _
    rw [e93]
    exact ⟨rfl, N93⟩
set_option maxRecDepth 65536 in
set_option maxHeartbeats 40000000 in
theorem comes_1 {Post : Tables → Env → Array Value → State → Outcome → State → Prop} (hpost : ∀ tb e args s v u, (limb_1_1.after args s (.returned v) u = true ∧ limb_1_2.after args s (.returned v) u = true ∧ True) → FrameEnd s (.returned v) u (Jvm.fieldLocs frame_1_writes args s ++ Jvm.arrayLocs frame_1_arrays args s ++ Jvm.staticLocs frame_1_statics s) 16 128 → Post tb e args s (.returned v) u) :
    ArmFor flags0 classFile x code maxLocals ret World_1 tables_1 room_1 Calls_1 rest_1 Pre_1 Post := by
  intro l hfl _ _ p e ha hc hk s m args below hf hA hF happ hP
  obtain ⟨hcalls, hrest, hpre⟩ := hP
  obtain ⟨-, -, -, hnamed, -, -, -, hat⟩ := (Spec.applies_iff hf).mp happ
  obtain ⟨hg, hn⟩ := and_e (Cond.before_iff.mp (show (Jvm.Cond.and given_1 narrow_1).before args s = true from hpre))
  obtain ⟨gc, g0⟩ := and_e hg
  obtain ⟨k0, g1⟩ := and_e g0
  obtain ⟨k1, g2⟩ := and_e g1
  obtain ⟨k2, g3⟩ := and_e g2
  obtain ⟨k3, g4⟩ := and_e g3
  obtain ⟨w0, w1, w2, w3, w4, rfl⟩ : ∃ w0 w1 w2 w3 w4 : Value, args = #[w0, w1, w2, w3, w4] := by
    have hs : args.size = 5 := by simpa [Cond.value, given_1] using gc
    obtain ⟨L⟩ := args
    match L, hs with
    | [w0, w1, w2, w3, w4], _ => exact ⟨w0, w1, w2, w3, w4, rfl⟩
  have hw := fun d (hd : d ∈ tables_1) => atoms_spec (ws := Jvm.Cond.code x code maxLocals ret :: tables_1) hat d (List.mem_cons_of_mem _ hd)
  have hfit : Fit s := fun {y c} hc i hi => by
    obtain ⟨ha, rfl⟩ := Array.getElem?_eq_some_iff.mp hc
    have q := List.all_eq_true.mp ((Array.all_eq_true_iff_forall_mem.mp hF) _ (Array.getElem_mem ha)) i (List.mem_range.mpr hi)
    simpa [Array.getElem?_eq_getElem hi] using q
  obtain ⟨i0, ei0⟩ := is_v k0
  obtain rfl : w0 = (.int i0) := Option.some.inj ei0
  obtain ⟨i1, ei1⟩ := isL_v k1
  obtain rfl : w1 = (.long i1) := Option.some.inj ei1
  obtain ⟨i2, ei2⟩ := isL_v k2
  obtain rfl : w2 = (.long i2) := Option.some.inj ei2
  obtain ⟨i3, ei3⟩ := isL_v k3
  obtain rfl : w3 = (.long i3) := Option.some.inj ei3
  obtain ⟨i4, ei4⟩ := isL_v g4
  obtain rfl : w4 = (.long i4) := Option.some.inj ei4
  obtain ⟨n, o, h1, h2, h3, _, L, rfl, ⟨rfl, N⟩, hq⟩ := rm0 l s _ hw tables_1 i0 i1 i2 i3 i4  s.heap s.heap.size (Nat.le_refl _)  p e ha hc hk s m _ below hf ((Spec.applies_iff_loose hf).mp happ).1 ⟨rfl, State.Warmed39.refl s, rfl⟩ trivial
  refine ⟨n, _, h1, h2, h3, hpost _ _ _ _ _ _ ⟨Cond.after_iff.mpr rfl, Cond.after_iff.mpr (eq_i res_at (Term.int_eval (1)) rfl), trivial⟩ ⟨hq.1, hq.2.1, (hq.2.2.sift fun y hy => Or.inr (N y hy)).mono (by decide) (by decide)⟩⟩
theorem main_1_1 : Claimed_1_1 := comes_1 fun _ _ _ _ _ _ h hF => ⟨h.1, hF⟩
theorem main_1_2 : Claimed_1_2 := comes_1 fun _ _ _ _ _ _ h hF => ⟨h.2.1, hF⟩
end Jvm.Pilot.@@N@@
namespace Jvm.Pilot.@@N@@
open Jvm Jvm.ClassFile Sem Op Lib Jvm.Free Jvm.Stand Jvm.Pilot.@@N@@.Jvm.D
/-! MADE BY PROGRAM (witnessworld.py) out of the Statement's table words and the real class files: 11 classes; the members and pool entries that the words name. The judged class is class 1, her method 1. -/
namespace start1
open Jvm.ClassFile
def u (s : String) : CpInfo := .utf8 (stringToUtf16 s)
/-- a pool by its gaps: so many unusable entries, then the entry; so many at the end -/
def gap : Nat → List CpInfo → List CpInfo
  | 0, r => r
  | n + 1, r => .unusable :: gap n r
def poolList (es : List (Nat × CpInfo)) (last : Nat) : List CpInfo := es.foldr (fun e r => gap e.1 (e.2 :: r)) (gap last [])
def pool (es : List (Nat × CpInfo)) (last : Nat) : Array CpInfo := ⟨poolList es last⟩
def fileOf (pool : Array CpInfo) (this : Nat) (attrs : Array Attribute := #[]) (ms : Array MethodInfo := #[]) (fl : Nat := 33) (sup : Nat := 0) (ifs : Array Nat := #[]) (fds : Array FieldInfo := #[]) : ClassFile where
  minorVersion := 0
  majorVersion := 65
  constantPool := pool
  accessFlags := fl
  thisClass := this
  superClass := sup
  interfaces := ifs
  fields := fds
  methods := ms
  attributes := attrs
def plain (name : String) (sup : Option ClassId) : Class where
  name := name
  kind := .ordinary
  loader := none
  accessFlags := 33
  super := sup
  interfaces := #[]
  cf := none
  fields := #[]
  methods := #[]
  instanceTypes := #[]
  staticTypes := #[]
  resolved := #[]
  callSites := []
  init := .initialized
  statics := none
  mirror := none

def pool0 : Array CpInfo := pool [(5, u "<init>"), (0, u "()V"), (1, .class_ 10), (1, u "java/lang/Object"), (85, u "clone"), (0, u "()Ljava/lang/Object;")] 26

def k0c0 : Code := { maxStack := 0, maxLocals := 1, code := object_method_1_code, exceptionTable := #[], attributes := #[] }
def k0m0 : Method := { name := "<init>", desc := "()V", sig := { parameters := [], returnType := none }, accessFlags := 1, code := some k0c0 }
def k0m1 : Method := { name := "clone", desc := "()Ljava/lang/Object;", sig := { parameters := [], returnType := some (.object "java/lang/Object") }, accessFlags := 260, code := none }
/-- java/lang/Object -/
def k0 : Class := { plain "java/lang/Object" none with
  accessFlags := 33
  interfaces := #[]
  cf := some (fileOf pool0 8 #[] #[{ accessFlags := 1, nameIndex := 5, descriptorIndex := 6, attributes := #[] }, { accessFlags := 260, nameIndex := 96, descriptorIndex := 97, attributes := #[] }] 33 0 #[] #[])
  fields := #[]
  methods := #[k0m0, k0m1]
  instanceTypes := #[]
  staticTypes := #[]
  resolved := Array.replicate 124 none
  statics := none }

def pool1 : Array CpInfo := pool [(2, .class_ 4), (1, u "java/lang/Object"), (0, u "<init>"), (0, u "()V"), (0, .integer 2147483647), (0, .class_ 9), (0, u "com/example/ingest/ingest/common/TopicInfo"), (0, .methodref 8 11), (0, .nameAndType 5 12), (0, u "([J)V"), (0, .methodref 8 14), (0, .nameAndType 15 16), (0, u "messages"), (0, u "()J"), (0, .class_ 18), (0, u "com/example/ingest/ingest/common/TopicInfoMessagesPinLaw"), (2, u "law"), (0, u "(IJJJJ)Z")] 5

def k1m0 : Method := { name := "<init>", desc := "()V", sig := { parameters := [], returnType := none }, accessFlags := 1, code := none }
def k1c1 : Code := { maxStack := 4, maxLocals := 14, code := code, exceptionTable := #[], attributes := #[] }
def k1m1 : Method := { name := "law", desc := "(IJJJJ)Z", sig := { parameters := [.int, .long, .long, .long, .long], returnType := some .boolean }, accessFlags := 9, code := some k1c1 }
/-- com/example/ingest/ingest/common/TopicInfoMessagesPinLaw -/
def k1 : Class := { plain "com/example/ingest/ingest/common/TopicInfoMessagesPinLaw" (some 0) with
  accessFlags := 49
  interfaces := #[]
  cf := some (fileOf pool1 17 #[] #[{ accessFlags := 1, nameIndex := 5, descriptorIndex := 6, attributes := #[] }, { accessFlags := 9, nameIndex := 21, descriptorIndex := 22, attributes := #[] }] 49 2 #[] #[])
  fields := #[]
  methods := #[k1m0, k1m1]
  instanceTypes := #[]
  staticTypes := #[]
  resolved := Array.replicate 28 none
  statics := none }

def pool2 : Array CpInfo := pool [(1, .methodref 2 3), (0, .class_ 4), (0, .nameAndType 5 6), (0, u "java/lang/Object"), (0, u "<init>"), (0, u "()V"), (0, .methodref 8 9), (0, .class_ 10), (0, .nameAndType 11 12), (0, u "[J"), (0, u "clone"), (0, u "()Ljava/lang/Object;"), (0, .fieldref 14 15), (0, .class_ 16), (0, .nameAndType 17 10), (0, u "com/example/ingest/ingest/common/TopicInfo"), (0, u "endOffsets"), (40, u "()J"), (2, u "([J)V"), (5, u "messages")] 33

def k2c0 : Code := { maxStack := 2, maxLocals := 2, code := prog_60_method_1_code, exceptionTable := #[], attributes := #[] }
def k2m0 : Method := { name := "<init>", desc := "([J)V", sig := { parameters := [(.array .long)], returnType := none }, accessFlags := 1, code := some k2c0 }
def k2c1 : Code := { maxStack := 4, maxLocals := 8, code := prog_60_method_4_code, exceptionTable := #[], attributes := #[] }
def k2m1 : Method := { name := "messages", desc := "()J", sig := { parameters := [], returnType := some .long }, accessFlags := 1, code := some k2c1 }
/-- com/example/ingest/ingest/common/TopicInfo -/
def k2 : Class := { plain "com/example/ingest/ingest/common/TopicInfo" (some 0) with
  accessFlags := 49
  interfaces := #[]
  cf := some (fileOf pool2 14 #[] #[{ accessFlags := 1, nameIndex := 5, descriptorIndex := 61, attributes := #[] }, { accessFlags := 1, nameIndex := 67, descriptorIndex := 58, attributes := #[] }] 49 2 #[] #[{ accessFlags := 18, nameIndex := 17, descriptorIndex := 10, attributes := #[] }])
  fields := #[{ name := "endOffsets", type := (.array .long), accessFlags := 18, slot := 0, constantValue := 0 }]
  methods := #[k2m0, k2m1]
  instanceTypes := #[(.array .long)]
  staticTypes := #[]
  resolved := Array.replicate 101 none
  statics := none }

def pool3 : Array CpInfo := pool [(1, .class_ 2), (0, u "java/lang/Cloneable"), (0, .class_ 4), (0, u "java/lang/Object")] 2

/-- java/lang/Cloneable -/
def k3 : Class := { plain "java/lang/Cloneable" (some 0) with
  accessFlags := 1537
  interfaces := #[]
  cf := some (fileOf pool3 1 #[] #[] 1537 3 #[] #[])
  fields := #[]
  methods := #[]
  instanceTypes := #[]
  staticTypes := #[]
  resolved := Array.replicate 7 none
  statics := none }

def pool4 : Array CpInfo := pool [(1, u "java/io/Serializable"), (0, .class_ 1), (0, u "java/lang/Object"), (0, .class_ 3)] 3

/-- java/io/Serializable -/
def k4 : Class := { plain "java/io/Serializable" (some 0) with
  accessFlags := 1537
  interfaces := #[]
  cf := some (fileOf pool4 2 #[] #[] 1537 4 #[] #[])
  fields := #[]
  methods := #[]
  instanceTypes := #[]
  staticTypes := #[]
  resolved := Array.replicate 8 none
  statics := none }

/-- the primitive byte -/
def k5 : Class := { plain "byte" none with kind := .primitive 'B', accessFlags := 0x411 }
/-- [B -/
def k6 : Class := { plain "[B" (some 0) with kind := .array 5 .byte, interfaces := #[3, 4], accessFlags := 1041 }

/-- the primitive int -/
def k7 : Class := { plain "int" none with kind := .primitive 'I', accessFlags := 0x411 }
/-- [I -/
def k8 : Class := { plain "[I" (some 0) with kind := .array 7 .int, interfaces := #[3, 4], accessFlags := 1041 }

/-- the primitive long -/
def k9 : Class := { plain "long" none with kind := .primitive 'J', accessFlags := 0x411 }
/-- [J -/
def k10 : Class := { plain "[J" (some 0) with kind := .array 9 .long, interfaces := #[3, 4], accessFlags := 1041 }

def heap : Heap := #[]
def classes : Array Class := #[k0, k1, k2, k3, k4, k5, k6, k7, k8, k9, k10]
def interned : List (Array UInt16 × Addr) := []
def slotsUsed : Nat := 0
def theMethod : MethodId := ⟨1, 1⟩
def args0 : Array Value := #[.int 5, .long 300, .long 7, .long 1, .long 5]
def aboutOver (below : List Frame) : State where
  vm := { classes := classes, interned := interned.toArray }
  heap := heap
  slotsUsed := slotsUsed
  threads := #[{ frames := .invoking theMethod args0 :: below }]
def below0 : List Frame := [.native { method := ⟨0, 0⟩, args := #[] }]
def about1 : State := aboutOver below0
def p0 : Program := .bare "" "" ""
def e0 : Env := launch0.env 0 0 0
theorem w_frames : about1.frames = Frame.invoking theMethod args0 :: below0 := rfl
set_option maxRecDepth 65536 in
theorem w_args : argsFit about1.vm theMethod args0 = true := by decide +kernel
set_option maxRecDepth 65536 in
theorem w_heap : heapFits about1 = true := by decide +kernel
set_option maxRecDepth 65536 in
theorem w_runnable : about1.curStatus? = some .runnable := by decide +kernel
set_option maxRecDepth 65536 in
theorem w_alone : about1.alone = true := by decide +kernel
set_option maxRecDepth 65536 in
theorem w_named : about1.methodNamed? x = some theMethod := by decide +kernel
set_option maxRecDepth 65536 in
theorem w_hears : about1.hears theMethod below0 = true := by decide +kernel
set_option maxRecDepth 65536 in
theorem w_ripe : about1.ripe theMethod args0 below0 = true := by decide +kernel
theorem w_running : about1.status = .running := rfl
set_option maxRecDepth 65536 in
theorem w_room : about1.hasRoom e0.platform room_1 = true :=
  launch0.hasRoom_least _ room_1 (by decide +kernel) (by decide +kernel) (by decide +kernel) (by decide +kernel) (by decide +kernel) (by decide +kernel)
theorem allAtoms_all (ts : List Jvm.Cond) (a : Array Jvm.Value) (st : Jvm.State) : (allAtoms ts).before a st = ts.all (fun c => c.before a st) := by
  induction ts with
  | nil => rfl
  | cons c t ih =>
    show (Jvm.Cond.and c (allAtoms t)).before a st = _
    rw [Jvm.Cond.before_and, ih, List.all_cons]
def words1 : List Jvm.Cond := Jvm.Cond.code x code maxLocals ret :: tables_1
/-- a 'code' word, met by the world's own term for the bytes: nothing is compared byte by byte -/
theorem code_word {y : MethodName} {bytes : ByteArray} {mx : Nat} {rt : Option FieldType} {a : Array Value} {s : State} {m : MethodId} {meth : Method} {c : Code} (h1 : s.methodNamed? y = some m) (h2 : s.vm.method? m = some meth) (h3 : meth.code = some c) (h4 : c.code = bytes)
    (h5 : (c.maxLocals == mx && c.exceptionTable.isEmpty && decide (c.maxStack ≤ mostOperands) && decide (meth.sig.returnType = rt) && !meth.locks && decide (parseMethodDescriptor y.desc = some meth.sig)) = true) : (Jvm.Cond.code y bytes mx rt).before a s = true := by
  simp only [Bool.and_eq_true, beq_iff_eq, Bool.not_eq_true', decide_eq_true_eq] at h5
  obtain ⟨⟨⟨⟨⟨g1, g2⟩, g3⟩, g4⟩, g5⟩, g6⟩ := h5
  simp [Cond.before, Cond.holds, Cond.value, h1, h2, h3, h4, g1, g2, g3, g4, g5, g6]
def isCode : Jvm.Cond → Bool
  | .code _ _ _ _ => true
  | _ => false
theorem all_split {L : List Jvm.Cond} {P : Jvm.Cond → Bool} (h1 : L.all (fun c => isCode c || P c) = true) (h2 : ∀ c ∈ L.filter isCode, P c = true) : L.all P = true := by
  refine List.all_eq_true.mpr fun c hc => ?_
  have h := List.all_eq_true.mp h1 c hc
  rcases Bool.eq_false_or_eq_true (isCode c) with hi | hi
  · exact h2 c (List.mem_filter.mpr ⟨hc, hi⟩)
  · simpa [hi] using h
set_option maxRecDepth 65536 in
theorem w_c0 : (Jvm.Cond.code x code maxLocals ret).before args0 about1 = true := code_word (m := ⟨1, 1⟩) (meth := k1m1) (c := k1c1) (by decide +kernel) rfl rfl rfl (by decide +kernel)
set_option maxRecDepth 65536 in
theorem w_c1 : (Jvm.Cond.code ({ cls := "com/example/ingest/ingest/common/TopicInfo", name := "<init>", desc := "([J)V" } : Jvm.MethodName) prog_60_method_1_code (2 : Nat) (Option.none : Option Jvm.ClassFile.FieldType)).before args0 about1 = true := code_word (m := ⟨2, 0⟩) (meth := k2m0) (c := k2c0) (by decide +kernel) rfl rfl rfl (by decide +kernel)
set_option maxRecDepth 65536 in
theorem w_c2 : (Jvm.Cond.code ({ cls := "java/lang/Object", name := "<init>", desc := "()V" } : Jvm.MethodName) object_method_1_code (1 : Nat) (Option.none : Option Jvm.ClassFile.FieldType)).before args0 about1 = true := code_word (m := ⟨0, 0⟩) (meth := k0m0) (c := k0c0) (by decide +kernel) rfl rfl rfl (by decide +kernel)
set_option maxRecDepth 65536 in
theorem w_c3 : (Jvm.Cond.code ({ cls := "com/example/ingest/ingest/common/TopicInfo", name := "messages", desc := "()J" } : Jvm.MethodName) prog_60_method_4_code (8 : Nat) (Option.some Jvm.ClassFile.FieldType.long)).before args0 about1 = true := code_word (m := ⟨2, 1⟩) (meth := k2m1) (c := k2c1) (by decide +kernel) rfl rfl rfl (by decide +kernel)
def codes1 : List Jvm.Cond := [Jvm.Cond.code x code maxLocals ret, Jvm.Cond.code ({ cls := "com/example/ingest/ingest/common/TopicInfo", name := "<init>", desc := "([J)V" } : Jvm.MethodName) prog_60_method_1_code (2 : Nat) (Option.none : Option Jvm.ClassFile.FieldType), Jvm.Cond.code ({ cls := "java/lang/Object", name := "<init>", desc := "()V" } : Jvm.MethodName) object_method_1_code (1 : Nat) (Option.none : Option Jvm.ClassFile.FieldType), Jvm.Cond.code ({ cls := "com/example/ingest/ingest/common/TopicInfo", name := "messages", desc := "()J" } : Jvm.MethodName) prog_60_method_4_code (8 : Nat) (Option.some Jvm.ClassFile.FieldType.long)]
set_option maxRecDepth 65536 in
theorem codes_eq : words1.filter isCode = codes1 := rfl
theorem w_codes : ∀ c ∈ words1.filter isCode, c.before args0 about1 = true := by
  rw [codes_eq]
  intro c hc
  simp only [codes1, List.mem_cons, List.not_mem_nil, or_false] at hc
  rcases hc with rfl | rfl | rfl | rfl
  · exact w_c0
  · exact w_c1
  · exact w_c2
  · exact w_c3
set_option maxRecDepth 65536 in
theorem w_t1 : (words1.take 24).all (fun c => isCode c || c.before args0 about1) = true := by decide +kernel
set_option maxRecDepth 65536 in
theorem w_t2 : (words1.drop 24).all (fun c => isCode c || c.before args0 about1) = true := by decide +kernel
theorem w_tables : (allAtoms (Jvm.Cond.code x code maxLocals ret :: tables_1)).before args0 about1 = true := by
  rw [allAtoms_all]
  show words1.all (fun c => c.before args0 about1) = true
  refine all_split ?_ w_codes
  rw [← List.take_append_drop 24 words1, List.all_append, w_t1, w_t2]
  rfl
set_option maxRecDepth 65536 in
theorem w_case : (Jvm.Cond.and given_1 narrow_1).before args0 about1 = true := by decide +kernel
theorem w_applies : (headSpec (Jvm.Cond.code x code maxLocals ret :: tables_1) room_1).applies x e0.platform about1 = true :=
  (Spec.applies_iff w_frames).mpr ⟨w_running, w_runnable, w_alone, w_named, w_hears, w_ripe, w_room, w_tables⟩
theorem atStart : AtStart classFile x code maxLocals ret World_1 tables_1 room_1 Calls_1 rest_1 Pre_1 launch0 p0 e0 about1 theMethod args0 below0 :=
  ⟨lists_1, trivial, launch0.admits_env _ _ _, launch0.least_env, fairChoices_fair.cas, fairChoices_fair.clock, w_frames, w_args, w_heap, w_applies, trivial, trivial, w_case⟩
end start1
theorem witness_1 : WitnessClaimed_1 := ⟨start1.p0, start1.e0, start1.about1, start1.theMethod, start1.args0, start1.below0, start1.atStart⟩
end Jvm.Pilot.@@N@@
