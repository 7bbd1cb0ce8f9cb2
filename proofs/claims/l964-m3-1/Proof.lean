import JvmDerived
import JvmDerived.Pilot.@@N@@Statement
import JvmDerived.Pilot.@@N@@Code
set_option linter.unusedVariables false
set_option linter.unusedSimpArgs false
namespace Jvm.RoadKit
open Sem ClassFile Op Lib Jvm.Stand Jvm.Free Jvm.LawKit
section New
variable {p : Program} {l : Launch} {e : Env} {R : Room} {s : State} {m : MethodId} {args : Array Value} {below : List Frame} {meth : Method} {c : Code} {T : State} {locs : List Loc} {cells slots : Nat}
theorem retI (X : Stand p l e R s m args below meth c T locs cells slots) (hx : p.tables.exec = Jvm.exec) {pc : Nat} {Ls : Array Slot} {z : Int32} {rest : List Value} (hret : meth.sig.returnType = some .int) (hd : decode c.code pc = .ok (.ireturn, 1)) {fs : List Frame}
    (hl : ∀ (f : JFrame) (acts : List Action), f.method = m → f.locked = none → f.entered = [] → (doReturn e (T.setTop f) acts (some (.int z))).1 = T.setFrames fs) : Steps p.tables e below (T.setTop (mkF m pc Ls (.int z :: rest))) (T.setFrames fs) := by
  have hm' : T.vm.method? m = some meth := X.method'
  have hn : narrow .int (.int z) = .int z := rfl
  show Steps p.tables e below (T.setTop { method := m, pc := pc, locals := Ls, stack := _ :: rest, locked := none }) _
  jvm_step X.here [X.here.top, hx, hd, hm', hret, hn]
  first | (intro acts; rw [hl _ acts rfl rfl rfl]) | rw [hl _ _ rfl rfl rfl]
  exact Steps.refl _
theorem own_retZ (X : Stand p l e R s m args below meth c T locs cells slots) (hx : p.tables.exec = Jvm.exec) {pc : Nat} {Ls : Array Slot} {z : Int32} {rest : List Value} (hret : meth.sig.returnType = some .boolean) (hz : z &&& 1 = z) (hd : decode c.code pc = .ok (.ireturn, 1)) {fs : List Frame}
    (hl : ∀ (f : JFrame) (acts : List Action), f.method = m → f.locked = none → f.entered = [] → (doReturn e (T.setTop f) acts (some (.int z))).1 = T.setFrames fs) : Steps p.tables e below (T.setTop (mkF m pc Ls (.int z :: rest))) (T.setFrames fs) :=
  retN X hx (t := .boolean) hret (Or.inl rfl) hd (by have q : nar .boolean z = z := hz; rw [q]; exact hl)
theorem own_lrem {g : JFrame} {target : State} (X : Stand p l e R s m args below meth c T locs cells slots) (hx : p.tables.exec = Jvm.exec) (hg : g.method = m) {x y : Int64} {rest : List Value} (hd : decode c.code g.pc = .ok (.lrem, 1)) (hs : g.stack = .long y :: .long x :: rest) (hy : y ≠ 0)
    (hr : Steps p.tables e below (T.setTop { g with pc := g.pc + 1, stack := .long (x % y) :: rest }) target) : Steps p.tables e below (T.setTop g) target :=
  XS.lrem X.here hx hg hd hs hy (by rw [lrem_mod x y]; exact hr)
end New
end Jvm.RoadKit
namespace Jvm.Pilot.@@N@@
open Jvm Jvm.ClassFile Sem Op Lib Jvm.Free Jvm.Stand Jvm.LawKit Jvm.RoadKit Bundle Jvm.Pilot.@@N@@.Jvm.D
section Own
variable {p : Program} {l : Launch} {e : Env} {R : Room} {s : State} {m : MethodId} {args : Array Value} {below : List Frame} {meth : Method} {c : Code} {T : State} {locs : List Loc} {cells slots : Nat} {Z : State} {h h' : Heap} {a b : Addr} {ty : FieldType} {vs : List Value}
/-- the array at a, of elements of kind ty, holds just vs -/
def LA (Z : State) (h : Heap) (a : Addr) (ty : FieldType) (vs : List Value) : Prop := ∃ c : Cell, Arr Z h a c ty ∧ c.slots.toList = vs
theorem LA.lt (F : LA Z h a ty vs) : a < h.size := by obtain ⟨c, A, -⟩ := F; exact A.lt
theorem LA.ext (F : LA Z h a ty vs) (E : Ext h h') : LA Z h' a ty vs := by obtain ⟨c, A, r⟩ := F; exact ⟨c, A.ext E, r⟩
theorem LA.other {sl : Nat} {v : Value} (F : LA Z h b ty vs) (W : Wr h h' a sl v) (q : b ≠ a) : LA Z h' b ty vs := by obtain ⟨c, A, r⟩ := F; exact ⟨c, A.other W q, r⟩
theorem LA.keep {ws : List Addr} (F : LA Z h a ty vs) (K : Keep h h' ws) (q : a ∉ ws) : LA Z h' a ty vs := by obtain ⟨c, A, r⟩ := F; exact ⟨c, ⟨K.2.1 a c A.1 q, A.2⟩, r⟩
theorem LA.new {k : ClassId} {z : Int32} (A : Arr Z h a (newA k ty z) ty) (n : Nat) (q : z.toNatClampNeg = n) : LA Z h a ty (List.replicate n (defaultValue ty)) := ⟨_, A, by subst q; simp [newA]⟩
theorem own_stI (X : Stand p l e R s m args below meth c T locs cells slots) (hx : p.tables.exec = Jvm.exec) (hZ : Z.Warmed39 s.vm) (eT : T.heap = h) (A : LA Z h a .int vs) {j x : Int32} {i : Nat} (hj : j.toNatClampNeg = i) (hi : ¬ j < 0 ∧ i < vs.length) {g : JFrame} (hg : g.method = m) {rest : List Value} (hs : g.stack = .int x :: .int j :: .ref a :: rest) (hd : decode c.code g.pc = .ok (.iastore, 1)) :
    ∃ T' h', Stand p l e R s m args below meth c T' (locs ++ [⟨a, j.toNatClampNeg⟩]) cells slots ∧ T'.heap = h' ∧ Wr h h' a j.toNatClampNeg (.int x) ∧ LA Z h' a .int (vs.set i (.int x)) ∧ ∀ target, Steps p.tables e below (T'.setTop { g with pc := g.pc + 1, stack := rest }) target → Steps p.tables e below (T.setTop g) target := by
  obtain ⟨cl, A, rfl⟩ := A
  subst hj
  have hb : ¬ (j < 0 ∨ cl.slots.size ≤ j.toNatClampNeg) := fun q => q.elim hi.1 fun r => by have := hi.2; rw [Array.length_toList] at this; omega
  obtain ⟨T', h', X', e', W, st⟩ := stI X hx hZ eT A hb hg hs hd
  exact ⟨T', h', X', e', W, ⟨_, A.same W, by simp [Cell.setSlot]⟩, st⟩
theorem own_stJ (X : Stand p l e R s m args below meth c T locs cells slots) (hx : p.tables.exec = Jvm.exec) (hZ : Z.Warmed39 s.vm) (eT : T.heap = h) (A : LA Z h a .long vs) {j : Int32} {x : Int64} {i : Nat} (hj : j.toNatClampNeg = i) (hi : ¬ j < 0 ∧ i < vs.length) {g : JFrame} (hg : g.method = m) {rest : List Value} (hs : g.stack = .long x :: .int j :: .ref a :: rest) (hd : decode c.code g.pc = .ok (.lastore, 1)) :
    ∃ T' h', Stand p l e R s m args below meth c T' (locs ++ [⟨a, j.toNatClampNeg⟩]) cells slots ∧ T'.heap = h' ∧ Wr h h' a j.toNatClampNeg (.long x) ∧ LA Z h' a .long (vs.set i (.long x)) ∧ ∀ target, Steps p.tables e below (T'.setTop { g with pc := g.pc + 1, stack := rest }) target → Steps p.tables e below (T.setTop g) target := by
  obtain ⟨cl, A, rfl⟩ := A
  subst hj
  have hb : ¬ (j < 0 ∨ cl.slots.size ≤ j.toNatClampNeg) := fun q => q.elim hi.1 fun r => by have := hi.2; rw [Array.length_toList] at this; omega
  obtain ⟨T', h', X', e', W, st⟩ := stJ X hx hZ eT A hb hg hs hd
  exact ⟨T', h', X', e', W, ⟨_, A.same W, by simp [Cell.setSlot]⟩, st⟩
theorem own_at {cl : Cell} {j : Int32} {v : Value} (hn : ¬ j < 0) (hat : cl.slots.toList[j.toNatClampNeg]? = some v) : ¬ (j < 0 ∨ cl.slots.size ≤ j.toNatClampNeg) ∧ cl.slots[j.toNatClampNeg]? = some v := by
  have q : cl.slots[j.toNatClampNeg]? = some v := by rw [← Array.getElem?_toList]; exact hat
  exact ⟨fun r => r.elim hn fun z => absurd (Array.getElem?_eq_some_iff.mp q).1 (Nat.not_lt.mpr z), q⟩
theorem own_ldI (X : Stand p l e R s m args below meth c T locs cells slots) (hx : p.tables.exec = Jvm.exec) (hZ : Z.Warmed39 s.vm) (eT : T.heap = h) (A : LA Z h a .int vs) {j x : Int32} (hn : ¬ j < 0) (hat : vs[j.toNatClampNeg]? = some (.int x)) {g : JFrame} (hg : g.method = m) {rest : List Value} (hs : g.stack = .int j :: .ref a :: rest) (hd : decode c.code g.pc = .ok (.iaload, 1)) (target : State)
    (hr : Steps p.tables e below (T.setTop { g with pc := g.pc + 1, stack := .int x :: rest }) target) : Steps p.tables e below (T.setTop g) target := by
  obtain ⟨cl, A, rfl⟩ := A
  exact X.iaload hx (by rw [eT]; exact A.1) (State.isArrayOf_alike hZ.alike A.2.1) A.2.2 (own_at hn hat).1 (own_at hn hat).2 hg hs hd target hr
theorem own_ldJ (X : Stand p l e R s m args below meth c T locs cells slots) (hx : p.tables.exec = Jvm.exec) (hZ : Z.Warmed39 s.vm) (eT : T.heap = h) (A : LA Z h a .long vs) {j : Int32} {x : Int64} (hn : ¬ j < 0) (hat : vs[j.toNatClampNeg]? = some (.long x)) {g : JFrame} (hg : g.method = m) {rest : List Value} (hs : g.stack = .int j :: .ref a :: rest) (hd : decode c.code g.pc = .ok (.laload, 1)) (target : State)
    (hr : Steps p.tables e below (T.setTop { g with pc := g.pc + 1, stack := .long x :: rest }) target) : Steps p.tables e below (T.setTop g) target := by
  obtain ⟨cl, A, rfl⟩ := A
  exact X.laload hx (by rw [eT]; exact A.1) (State.isArrayOf_alike hZ.alike A.2.1) A.2.2 (own_at hn hat).1 (own_at hn hat).2 hg hs hd target hr
theorem own_len (X : Stand p l e R s m args below meth c T locs cells slots) (hx : p.tables.exec = Jvm.exec) (hZ : Z.Warmed39 s.vm) (eT : T.heap = h) (A : LA Z h a ty vs) {n : Int32} (hn : vs.length.toInt32 = n) {g : JFrame} (hg : g.method = m) {rest : List Value} (hs : g.stack = .ref a :: rest) (hd : decode c.code g.pc = .ok (.arraylength, 1)) (target : State)
    (hr : Steps p.tables e below (T.setTop { g with pc := g.pc + 1, stack := .int n :: rest }) target) : Steps p.tables e below (T.setTop g) target := by
  obtain ⟨cl, A, rfl⟩ := A
  refine X.arraylength hx (by rw [eT]; exact A.1) (State.isArrayOf_alike hZ.alike A.2.1) hg hs hd target ?_
  have q : cl.slots.size.toInt32 = n := by rw [← hn, Array.length_toList]
  rw [q]; exact hr
theorem own_clone {a0 : Array Value} (X : Stand p l e R s m args below meth c T locs cells slots) (hx : p.tables.exec = Jvm.exec) (hZ : Z.Warmed39 s.vm) {own ad : String} {index : Nat} (hown : s.vm.findClass own = some m.cls)
    (w1 : (Cond.methodLink own index ⟨ad, "clone", "()Ljava/lang/Object;"⟩).before a0 Z = true) (w2 : (Cond.sameMethod ad "java/lang/Object" "clone" "()Ljava/lang/Object;").before a0 Z = true) (w3 : (Cond.native ⟨"java/lang/Object", "clone", "()Ljava/lang/Object;"⟩).before a0 Z = true)
    (w4 : (Cond.instanceMethod ⟨"java/lang/Object", "clone", "()Ljava/lang/Object;"⟩).before a0 Z = true) (w5 : (Cond.selects ad ⟨ad, "clone", "()Ljava/lang/Object;"⟩ ⟨"java/lang/Object", "clone", "()Ljava/lang/Object;"⟩).before a0 Z = true) (w6 : (Cond.castable ad "java/lang/Cloneable").before a0 Z = true)
    (eT : T.heap = h) (A : LA Z h a ty vs) (E : Exa Z h a ad) (F : ∀ v ∈ vs, fits ty v = true) {g : JFrame} (hg : g.method = m) (hsize : g.locals.size = c.maxLocals) {rest : List Value} (hs : g.stack = .ref a :: rest) (hd : decode c.code g.pc = .ok (.invokevirtual index, 3))
    (hf : 1 ≤ R.frames) {W cap : Nat} (hW : 2 * g.monitorRoom + (rest.map fun v => v.category).sum ≤ W) (hl : W + 14 ≤ R.locals) (hcap : vs.length ≤ cap) (hc : cells + 1 ≤ R.cells) (hsl : slots + cap ≤ R.slots) :
    ∃ T' h', Stand p l e R s m args below meth c T' locs (cells + 1) (slots + cap) ∧ T'.heap = h' ∧ Ext h h' ∧ LA Z h' h.size ty vs ∧ Exa Z h' h.size ad ∧
      ∀ target, Steps p.tables e below (T'.setTop { g with pc := g.pc + 3, stack := .ref h.size :: rest }) target → Steps p.tables e below (T.setTop g) target := by
  obtain ⟨cl, A, rfl⟩ := A
  have FC : FitC Z cl := fitC_of A fun i hi v hv => F v (Array.mem_toList_iff.mpr (Array.mem_of_getElem? hv))
  obtain ⟨T', h', X', e', ex, A', E', st⟩ := cloneA X hx hZ hown w1 w2 w3 w4 w5 w6 eT A E FC hg hsize hs hd hf hW hl (by rw [Array.length_toList] at hcap; exact hcap) hc hsl
  exact ⟨T', h', X', e', ex, ⟨cloneOf cl, A', rfl⟩, E', st⟩
theorem own_fitsJ (xs : List Int64) : ∀ v ∈ xs.map Value.long, fits .long v = true := fun v hv => by
  obtain ⟨x, -, rfl⟩ := List.mem_map.mp hv
  rfl
theorem own_readJ {xs pr rest : List Int64} {x : Int64} {k : Nat} (e : xs = pr ++ x :: rest) (hk : k = pr.length) : (xs.map Value.long)[k]? = some (.long x) := by
  subst e hk
  simp
end Own
theorem own_idx {j : Int32} {n : Nat} (h0 : 0 ≤ j.toInt) (h1 : j.toInt < n) : ¬ j < 0 ∧ j.toNatClampNeg < n := by
  have q : ¬ j < 0 := fun q => by have := Int32.lt_iff_toInt_lt.mp q; have z : (0 : Int32).toInt = 0 := (by decide); omega
  have r := nat_of q
  exact ⟨q, by omega⟩
theorem own_get {vs : List Value} (L : List Int32) (e : vs = L.map Value.int) {k : Nat} (hk : k < L.length) : ∃ x, vs[k]? = some (.int x) := by
  subst e
  exact ⟨L[k], by simp [hk]⟩

def own_ch (c : Int32) : Int32 := if (c.toInt = 9 ∨ c.toInt = 10 ∨ c.toInt = 13 ∨ (32 ≤ c.toInt ∧ c.toInt ≤ 55295) ∨ (57344 ≤ c.toInt ∧ c.toInt ≤ 65533) ∨ (65536 ≤ c.toInt ∧ c.toInt ≤ 1114111)) then 1 else 0
theorem d1_0 : decode prog_82_method_2_code 0 = .ok (.iload_n 0, 1) := by decide +kernel
theorem d1_1 : decode prog_82_method_2_code 1 = .ok (.bipush 9, 2) := by decide +kernel
theorem d1_3 : decode prog_82_method_2_code 3 = .ok (.if_icmp .eq 51, 3) := by decide +kernel
theorem d1_54 : decode prog_82_method_2_code 54 = .ok (.iconst 1, 1) := by decide +kernel
theorem d1_55 : decode prog_82_method_2_code 55 = .ok (.goto 4, 3) := by decide +kernel
theorem d1_59 : decode prog_82_method_2_code 59 = .ok (.ireturn, 1) := by decide +kernel
theorem d1_6 : decode prog_82_method_2_code 6 = .ok (.iload_n 0, 1) := by decide +kernel
theorem d1_7 : decode prog_82_method_2_code 7 = .ok (.bipush 10, 2) := by decide +kernel
theorem d1_9 : decode prog_82_method_2_code 9 = .ok (.if_icmp .eq 45, 3) := by decide +kernel
theorem d1_12 : decode prog_82_method_2_code 12 = .ok (.iload_n 0, 1) := by decide +kernel
theorem d1_13 : decode prog_82_method_2_code 13 = .ok (.bipush 13, 2) := by decide +kernel
theorem d1_15 : decode prog_82_method_2_code 15 = .ok (.if_icmp .eq 39, 3) := by decide +kernel
theorem d1_18 : decode prog_82_method_2_code 18 = .ok (.iload_n 0, 1) := by decide +kernel
theorem d1_19 : decode prog_82_method_2_code 19 = .ok (.bipush 32, 2) := by decide +kernel
theorem d1_21 : decode prog_82_method_2_code 21 = .ok (.if_icmp .lt 9, 3) := by decide +kernel
theorem d1_30 : decode prog_82_method_2_code 30 = .ok (.iload_n 0, 1) := by decide +kernel
theorem d1_31 : decode prog_82_method_2_code 31 = .ok (.ldc 8, 2) := by decide +kernel
theorem d1_33 : decode prog_82_method_2_code 33 = .ok (.if_icmp .lt 9, 3) := by decide +kernel
theorem d1_42 : decode prog_82_method_2_code 42 = .ok (.iload_n 0, 1) := by decide +kernel
theorem d1_43 : decode prog_82_method_2_code 43 = .ok (.ldc 10, 2) := by decide +kernel
theorem d1_45 : decode prog_82_method_2_code 45 = .ok (.if_icmp .lt 13, 3) := by decide +kernel
theorem d1_58 : decode prog_82_method_2_code 58 = .ok (.iconst 0, 1) := by decide +kernel
theorem d1_48 : decode prog_82_method_2_code 48 = .ok (.iload_n 0, 1) := by decide +kernel
theorem d1_49 : decode prog_82_method_2_code 49 = .ok (.ldc 11, 2) := by decide +kernel
theorem d1_51 : decode prog_82_method_2_code 51 = .ok (.if_icmp .gt 7, 3) := by decide +kernel
theorem d1_36 : decode prog_82_method_2_code 36 = .ok (.iload_n 0, 1) := by decide +kernel
theorem d1_37 : decode prog_82_method_2_code 37 = .ok (.ldc 9, 2) := by decide +kernel
theorem d1_39 : decode prog_82_method_2_code 39 = .ok (.if_icmp .le 15, 3) := by decide +kernel
theorem d1_24 : decode prog_82_method_2_code 24 = .ok (.iload_n 0, 1) := by decide +kernel
theorem d1_25 : decode prog_82_method_2_code 25 = .ok (.ldc 7, 2) := by decide +kernel
theorem d1_27 : decode prog_82_method_2_code 27 = .ok (.if_icmp .le 27, 3) := by decide +kernel
theorem pn_0 : plainName "com/example/distill_trees/distilltrees/io/XmlChars" = true := by first | (simp [plainName, overriddenIn]; done) | decide +kernel
theorem ef_rm1 (m : MethodId) (x0 : Int32) : entryFrame m #[(.int x0)] 1 = mkF m 0 #[.val (.int x0)] [] := by first | (simp [entryFrame, mkF, argsToLocals, Value.category]; done) | rfl
def Q1 (Z : State) (c1 : Int32) (h0 : Heap) (n0 : Nat) (v : Option Value) (h : Heap) (L : List Loc) : Prop := v = some (.int (own_ch c1)) ∧ Fr n0 L ∧ h = h0
set_option maxRecDepth 65536 in
set_option maxHeartbeats 40000000 in
theorem rm1 (l : Launch) (Z : State) (a0 : Array Value) (hw : ∀ d ∈ tables_1, d.before a0 Z = true) (ws : List Jvm.Cond) (c1 : Int32) (h0 : Heap) (n0 : Nat) (Z0 : n0 ≤ h0.size) :
    MetFree l (⟨"com/example/distill_trees/distilltrees/io/XmlChars", "isChar", "(I)Z"⟩ : MethodName) (head1 (Jvm.Cond.code (⟨"com/example/distill_trees/distilltrees/io/XmlChars", "isChar", "(I)Z"⟩ : MethodName) prog_82_method_2_code 1 (some .boolean) :: ws) ({ frames := 0, cells := 0, slots := 0, locals := 0 } : Room)) (fun aa U => aa = #[(.int c1)] ∧ Z.Warmed39 U.vm ∧ U.heap = h0) (fun _ _ _ _ _ => True) (fun _ U o U' => ∃ v L, o = .returned v ∧ Q1 Z c1 h0 n0 v U'.heap L ∧ FrameEnd U o U' L ({ frames := 0, cells := 0, slots := 0, locals := 0 } : Room).cells ({ frames := 0, cells := 0, slots := 0, locals := 0 } : Room).slots) := by
  refine MetFree.of_bodySF (plainFor_of_name pn_0) hisR ?_
  intro p e s m args below meth c s₁ Bd hml0 hP hK
  obtain ⟨rfl, hZ, hh⟩ := hP
  have hx := Bd.exec
  have hby := Bd.bytes
  have hml : c.maxLocals = 1 := hml0
  have hown : s.vm.findClass "com/example/distill_trees/distilltrees/io/XmlChars" = some m.cls := findClass_of_methodNamed Bd.named
  have hnm := (name_of_methodNamed Bd.named Bd.method).1
  have X0 : Stand p l e ({ frames := 0, cells := 0, slots := 0, locals := 0 } : Room) s m #[(.int c1)] below meth c s₁ [] 0 0 := Stand.of_body Bd
  have e0 : s₁.heap = h0 := by rw [← hh, Bd.state]; rfl
  have N0 := Fr.nil n0
  obtain ⟨Ω, hΩ⟩ : ∃ z, z = s₁.setTop (entryFrame m #[(.int c1)] 1) := ⟨_, rfl⟩
  have S0 : Steps p.tables e below Ω (s₁.setTop (mkF m 0 #[.val (.int c1)] [])) := by rw [hΩ]; exact castTop (ef_rm1 m c1) (Steps.refl _)
  have S1 : Steps p.tables e below Ω (s₁.setTop (mkF m 3 #[.val (.int c1)] [(.int (9 : Int32)), (.int c1)])) := by
    refine S0.trans ?_
    refine XS.iloadN X0.here hx rfl (hb hby d1_0) rfl ?_
    show Steps p.tables e below (s₁.setTop (mkF m 1 #[.val (.int c1)] [(.int c1)])) _
    refine XS.bipush X0.here hx rfl (hb hby d1_1) ?_
    exact Steps.refl _
  by_cases h2 : c1 = (9 : Int32)
  · have qh2 : c1.toInt = 9 := congrArg Int32.toInt h2
    have S3 : Steps p.tables e below Ω (s₁.setTop (mkF m 59 #[.val (.int c1)] [(.int (1 : Int32))])) := by
      refine S1.trans ?_
      refine XS.icmpYes X0.here hx rfl (pc0 := 3) (pc' := 54) rfl (hb hby d1_3) rfl (XT.ii_eq_t h2) (by decide) (by decide) ?_
      show Steps p.tables e below (s₁.setTop (mkF m 54 #[.val (.int c1)] [])) _
      refine XS.iconst X0.here hx rfl (hb hby d1_54) ?_
      show Steps p.tables e below (s₁.setTop (mkF m 55 #[.val (.int c1)] [(.int (1 : Int32))])) _
      refine XS.goto X0.here hx rfl (pc0 := 55) (pc' := 59) rfl (hb hby d1_55) (by decide) (by decide) ?_
      exact Steps.refl _
    obtain ⟨fs, hr, hrun, hended, hW, hsame⟩ := X0.leave (v := some (.int (1 : Int32))) (fun h => by rw [Bd.returns] at h; cases h)
    have hfin : Steps p.tables e below Ω (s₁.setFrames fs) := by
      refine S3.trans ?_
      exact own_retZ X0 hx Bd.returns (by decide) (hb hby d1_59) hr
    rw [hΩ] at hfin
    refine ⟨_, _, hfin, hrun, hended, _, _, rfl, ?_, ⟨_, rfl⟩, hW, hsame.mono (by decide) (by decide)⟩
    show Q1 Z c1 h0 n0 _ s₁.heap _
    rw [e0]
    exact ⟨by rw [own_ch, if_pos (by omega)], N0, rfl⟩
  · have qh2 : ¬ c1.toInt = 9 := fun q => h2 (Int32.toInt_inj.mp q)
    have S4 : Steps p.tables e below Ω (s₁.setTop (mkF m 9 #[.val (.int c1)] [(.int (10 : Int32)), (.int c1)])) := by
      refine S1.trans ?_
      refine XS.icmpNo X0.here hx rfl (hb hby d1_3) rfl (XT.ii_eq_f h2) ?_
      show Steps p.tables e below (s₁.setTop (mkF m 6 #[.val (.int c1)] [])) _
      refine XS.iloadN X0.here hx rfl (hb hby d1_6) rfl ?_
      show Steps p.tables e below (s₁.setTop (mkF m 7 #[.val (.int c1)] [(.int c1)])) _
      refine XS.bipush X0.here hx rfl (hb hby d1_7) ?_
      exact Steps.refl _
    by_cases h5 : c1 = (10 : Int32)
    · have qh5 : c1.toInt = 10 := congrArg Int32.toInt h5
      have S6 : Steps p.tables e below Ω (s₁.setTop (mkF m 59 #[.val (.int c1)] [(.int (1 : Int32))])) := by
        refine S4.trans ?_
        refine XS.icmpYes X0.here hx rfl (pc0 := 9) (pc' := 54) rfl (hb hby d1_9) rfl (XT.ii_eq_t h5) (by decide) (by decide) ?_
        show Steps p.tables e below (s₁.setTop (mkF m 54 #[.val (.int c1)] [])) _
        refine XS.iconst X0.here hx rfl (hb hby d1_54) ?_
        show Steps p.tables e below (s₁.setTop (mkF m 55 #[.val (.int c1)] [(.int (1 : Int32))])) _
        refine XS.goto X0.here hx rfl (pc0 := 55) (pc' := 59) rfl (hb hby d1_55) (by decide) (by decide) ?_
        exact Steps.refl _
      obtain ⟨fs, hr, hrun, hended, hW, hsame⟩ := X0.leave (v := some (.int (1 : Int32))) (fun h => by rw [Bd.returns] at h; cases h)
      have hfin : Steps p.tables e below Ω (s₁.setFrames fs) := by
        refine S6.trans ?_
        exact own_retZ X0 hx Bd.returns (by decide) (hb hby d1_59) hr
      rw [hΩ] at hfin
      refine ⟨_, _, hfin, hrun, hended, _, _, rfl, ?_, ⟨_, rfl⟩, hW, hsame.mono (by decide) (by decide)⟩
      show Q1 Z c1 h0 n0 _ s₁.heap _
      rw [e0]
      exact ⟨by rw [own_ch, if_pos (by omega)], N0, rfl⟩
    · have qh5 : ¬ c1.toInt = 10 := fun q => h5 (Int32.toInt_inj.mp q)
      have S7 : Steps p.tables e below Ω (s₁.setTop (mkF m 15 #[.val (.int c1)] [(.int (13 : Int32)), (.int c1)])) := by
        refine S4.trans ?_
        refine XS.icmpNo X0.here hx rfl (hb hby d1_9) rfl (XT.ii_eq_f h5) ?_
        show Steps p.tables e below (s₁.setTop (mkF m 12 #[.val (.int c1)] [])) _
        refine XS.iloadN X0.here hx rfl (hb hby d1_12) rfl ?_
        show Steps p.tables e below (s₁.setTop (mkF m 13 #[.val (.int c1)] [(.int c1)])) _
        refine XS.bipush X0.here hx rfl (hb hby d1_13) ?_
        exact Steps.refl _
      by_cases h8 : c1 = (13 : Int32)
      · have qh8 : c1.toInt = 13 := congrArg Int32.toInt h8
        have S9 : Steps p.tables e below Ω (s₁.setTop (mkF m 59 #[.val (.int c1)] [(.int (1 : Int32))])) := by
          refine S7.trans ?_
          refine XS.icmpYes X0.here hx rfl (pc0 := 15) (pc' := 54) rfl (hb hby d1_15) rfl (XT.ii_eq_t h8) (by decide) (by decide) ?_
          show Steps p.tables e below (s₁.setTop (mkF m 54 #[.val (.int c1)] [])) _
          refine XS.iconst X0.here hx rfl (hb hby d1_54) ?_
          show Steps p.tables e below (s₁.setTop (mkF m 55 #[.val (.int c1)] [(.int (1 : Int32))])) _
          refine XS.goto X0.here hx rfl (pc0 := 55) (pc' := 59) rfl (hb hby d1_55) (by decide) (by decide) ?_
          exact Steps.refl _
        obtain ⟨fs, hr, hrun, hended, hW, hsame⟩ := X0.leave (v := some (.int (1 : Int32))) (fun h => by rw [Bd.returns] at h; cases h)
        have hfin : Steps p.tables e below Ω (s₁.setFrames fs) := by
          refine S9.trans ?_
          exact own_retZ X0 hx Bd.returns (by decide) (hb hby d1_59) hr
        rw [hΩ] at hfin
        refine ⟨_, _, hfin, hrun, hended, _, _, rfl, ?_, ⟨_, rfl⟩, hW, hsame.mono (by decide) (by decide)⟩
        show Q1 Z c1 h0 n0 _ s₁.heap _
        rw [e0]
        exact ⟨by rw [own_ch, if_pos (by omega)], N0, rfl⟩
      · have qh8 : ¬ c1.toInt = 13 := fun q => h8 (Int32.toInt_inj.mp q)
        have S10 : Steps p.tables e below Ω (s₁.setTop (mkF m 21 #[.val (.int c1)] [(.int (32 : Int32)), (.int c1)])) := by
          refine S7.trans ?_
          refine XS.icmpNo X0.here hx rfl (hb hby d1_15) rfl (XT.ii_eq_f h8) ?_
          show Steps p.tables e below (s₁.setTop (mkF m 18 #[.val (.int c1)] [])) _
          refine XS.iloadN X0.here hx rfl (hb hby d1_18) rfl ?_
          show Steps p.tables e below (s₁.setTop (mkF m 19 #[.val (.int c1)] [(.int c1)])) _
          refine XS.bipush X0.here hx rfl (hb hby d1_19) ?_
          exact Steps.refl _
        by_cases h11 : c1 < (32 : Int32)
        · have qh11 : c1.toInt < 32 := Int32.lt_iff_toInt_lt.mp h11
          have S12 : Steps p.tables e below Ω (s₁.setTop (mkF m 33 #[.val (.int c1)] [(.int (57344 : Int32)), (.int c1)])) := by
            refine S10.trans ?_
            refine XS.icmpYes X0.here hx rfl (pc0 := 21) (pc' := 30) rfl (hb hby d1_21) rfl (XT.ii_lt_t h11) (by decide) (by decide) ?_
            show Steps p.tables e below (s₁.setTop (mkF m 30 #[.val (.int c1)] [])) _
            refine XS.iloadN X0.here hx rfl (hb hby d1_30) rfl ?_
            show Steps p.tables e below (s₁.setTop (mkF m 31 #[.val (.int c1)] [(.int c1)])) _
            refine X0.ldcInt hx hown (mvT hZ (hw _ (List.mem_of_getElem? (i := 16) rfl))) (g := (mkF m 31 #[.val (.int c1)] [(.int c1)])) rfl (hb hby d1_31) _ ?_
            exact Steps.refl _
          by_cases h13 : c1 < (57344 : Int32)
          · have qh13 : c1.toInt < 57344 := Int32.lt_iff_toInt_lt.mp h13
            have S14 : Steps p.tables e below Ω (s₁.setTop (mkF m 45 #[.val (.int c1)] [(.int (65536 : Int32)), (.int c1)])) := by
              refine S12.trans ?_
              refine XS.icmpYes X0.here hx rfl (pc0 := 33) (pc' := 42) rfl (hb hby d1_33) rfl (XT.ii_lt_t h13) (by decide) (by decide) ?_
              show Steps p.tables e below (s₁.setTop (mkF m 42 #[.val (.int c1)] [])) _
              refine XS.iloadN X0.here hx rfl (hb hby d1_42) rfl ?_
              show Steps p.tables e below (s₁.setTop (mkF m 43 #[.val (.int c1)] [(.int c1)])) _
              refine X0.ldcInt hx hown (mvT hZ (hw _ (List.mem_of_getElem? (i := 17) rfl))) (g := (mkF m 43 #[.val (.int c1)] [(.int c1)])) rfl (hb hby d1_43) _ ?_
              exact Steps.refl _
            by_cases h15 : c1 < (65536 : Int32)
            · have qh15 : c1.toInt < 65536 := Int32.lt_iff_toInt_lt.mp h15
              have S16 : Steps p.tables e below Ω (s₁.setTop (mkF m 59 #[.val (.int c1)] [(.int (0 : Int32))])) := by
                refine S14.trans ?_
                refine XS.icmpYes X0.here hx rfl (pc0 := 45) (pc' := 58) rfl (hb hby d1_45) rfl (XT.ii_lt_t h15) (by decide) (by decide) ?_
                show Steps p.tables e below (s₁.setTop (mkF m 58 #[.val (.int c1)] [])) _
                refine XS.iconst X0.here hx rfl (hb hby d1_58) ?_
                exact Steps.refl _
              obtain ⟨fs, hr, hrun, hended, hW, hsame⟩ := X0.leave (v := some (.int (0 : Int32))) (fun h => by rw [Bd.returns] at h; cases h)
              have hfin : Steps p.tables e below Ω (s₁.setFrames fs) := by
                refine S16.trans ?_
                exact own_retZ X0 hx Bd.returns (by decide) (hb hby d1_59) hr
              rw [hΩ] at hfin
              refine ⟨_, _, hfin, hrun, hended, _, _, rfl, ?_, ⟨_, rfl⟩, hW, hsame.mono (by decide) (by decide)⟩
              show Q1 Z c1 h0 n0 _ s₁.heap _
              rw [e0]
              exact ⟨by rw [own_ch, if_neg (by omega)], N0, rfl⟩
            · have qh15 : ¬ c1.toInt < 65536 := fun q => h15 (Int32.lt_iff_toInt_lt.mpr q)
              have S17 : Steps p.tables e below Ω (s₁.setTop (mkF m 51 #[.val (.int c1)] [(.int (1114111 : Int32)), (.int c1)])) := by
                refine S14.trans ?_
                refine XS.icmpNo X0.here hx rfl (hb hby d1_45) rfl (XT.ii_lt_f h15) ?_
                show Steps p.tables e below (s₁.setTop (mkF m 48 #[.val (.int c1)] [])) _
                refine XS.iloadN X0.here hx rfl (hb hby d1_48) rfl ?_
                show Steps p.tables e below (s₁.setTop (mkF m 49 #[.val (.int c1)] [(.int c1)])) _
                refine X0.ldcInt hx hown (mvT hZ (hw _ (List.mem_of_getElem? (i := 24) rfl))) (g := (mkF m 49 #[.val (.int c1)] [(.int c1)])) rfl (hb hby d1_49) _ ?_
                exact Steps.refl _
              by_cases h18 : (1114111 : Int32) < c1
              · have qh18 : 1114111 < c1.toInt := Int32.lt_iff_toInt_lt.mp h18
                have S19 : Steps p.tables e below Ω (s₁.setTop (mkF m 59 #[.val (.int c1)] [(.int (0 : Int32))])) := by
                  refine S17.trans ?_
                  refine XS.icmpYes X0.here hx rfl (pc0 := 51) (pc' := 58) rfl (hb hby d1_51) rfl (XT.ii_gt_t h18) (by decide) (by decide) ?_
                  show Steps p.tables e below (s₁.setTop (mkF m 58 #[.val (.int c1)] [])) _
                  refine XS.iconst X0.here hx rfl (hb hby d1_58) ?_
                  exact Steps.refl _
                obtain ⟨fs, hr, hrun, hended, hW, hsame⟩ := X0.leave (v := some (.int (0 : Int32))) (fun h => by rw [Bd.returns] at h; cases h)
                have hfin : Steps p.tables e below Ω (s₁.setFrames fs) := by
                  refine S19.trans ?_
                  exact own_retZ X0 hx Bd.returns (by decide) (hb hby d1_59) hr
                rw [hΩ] at hfin
                refine ⟨_, _, hfin, hrun, hended, _, _, rfl, ?_, ⟨_, rfl⟩, hW, hsame.mono (by decide) (by decide)⟩
                show Q1 Z c1 h0 n0 _ s₁.heap _
                rw [e0]
                exact ⟨by rw [own_ch, if_neg (by omega)], N0, rfl⟩
              · have qh18 : ¬ 1114111 < c1.toInt := fun q => h18 (Int32.lt_iff_toInt_lt.mpr q)
                have S20 : Steps p.tables e below Ω (s₁.setTop (mkF m 59 #[.val (.int c1)] [(.int (1 : Int32))])) := by
                  refine S17.trans ?_
                  refine XS.icmpNo X0.here hx rfl (hb hby d1_51) rfl (XT.ii_gt_f h18) ?_
                  show Steps p.tables e below (s₁.setTop (mkF m 54 #[.val (.int c1)] [])) _
                  refine XS.iconst X0.here hx rfl (hb hby d1_54) ?_
                  show Steps p.tables e below (s₁.setTop (mkF m 55 #[.val (.int c1)] [(.int (1 : Int32))])) _
                  refine XS.goto X0.here hx rfl (pc0 := 55) (pc' := 59) rfl (hb hby d1_55) (by decide) (by decide) ?_
                  exact Steps.refl _
                obtain ⟨fs, hr, hrun, hended, hW, hsame⟩ := X0.leave (v := some (.int (1 : Int32))) (fun h => by rw [Bd.returns] at h; cases h)
                have hfin : Steps p.tables e below Ω (s₁.setFrames fs) := by
                  refine S20.trans ?_
                  exact own_retZ X0 hx Bd.returns (by decide) (hb hby d1_59) hr
                rw [hΩ] at hfin
                refine ⟨_, _, hfin, hrun, hended, _, _, rfl, ?_, ⟨_, rfl⟩, hW, hsame.mono (by decide) (by decide)⟩
                show Q1 Z c1 h0 n0 _ s₁.heap _
                rw [e0]
                exact ⟨by rw [own_ch, if_pos (by omega)], N0, rfl⟩
          · have qh13 : ¬ c1.toInt < 57344 := fun q => h13 (Int32.lt_iff_toInt_lt.mpr q)
            have S21 : Steps p.tables e below Ω (s₁.setTop (mkF m 39 #[.val (.int c1)] [(.int (65533 : Int32)), (.int c1)])) := by
              refine S12.trans ?_
              refine XS.icmpNo X0.here hx rfl (hb hby d1_33) rfl (XT.ii_lt_f h13) ?_
              show Steps p.tables e below (s₁.setTop (mkF m 36 #[.val (.int c1)] [])) _
              refine XS.iloadN X0.here hx rfl (hb hby d1_36) rfl ?_
              show Steps p.tables e below (s₁.setTop (mkF m 37 #[.val (.int c1)] [(.int c1)])) _
              refine X0.ldcInt hx hown (mvT hZ (hw _ (List.mem_of_getElem? (i := 23) rfl))) (g := (mkF m 37 #[.val (.int c1)] [(.int c1)])) rfl (hb hby d1_37) _ ?_
              exact Steps.refl _
            by_cases h22 : (65533 : Int32) < c1
            · have qh22 : 65533 < c1.toInt := Int32.lt_iff_toInt_lt.mp h22
              have S23 : Steps p.tables e below Ω (s₁.setTop (mkF m 45 #[.val (.int c1)] [(.int (65536 : Int32)), (.int c1)])) := by
                refine S21.trans ?_
                refine XS.icmpNo X0.here hx rfl (hb hby d1_39) rfl (XT.ii_le_f h22) ?_
                show Steps p.tables e below (s₁.setTop (mkF m 42 #[.val (.int c1)] [])) _
                refine XS.iloadN X0.here hx rfl (hb hby d1_42) rfl ?_
                show Steps p.tables e below (s₁.setTop (mkF m 43 #[.val (.int c1)] [(.int c1)])) _
                refine X0.ldcInt hx hown (mvT hZ (hw _ (List.mem_of_getElem? (i := 17) rfl))) (g := (mkF m 43 #[.val (.int c1)] [(.int c1)])) rfl (hb hby d1_43) _ ?_
                exact Steps.refl _
              by_cases h24 : c1 < (65536 : Int32)
              · have qh24 : c1.toInt < 65536 := Int32.lt_iff_toInt_lt.mp h24
                have S25 : Steps p.tables e below Ω (s₁.setTop (mkF m 59 #[.val (.int c1)] [(.int (0 : Int32))])) := by
                  refine S23.trans ?_
                  refine XS.icmpYes X0.here hx rfl (pc0 := 45) (pc' := 58) rfl (hb hby d1_45) rfl (XT.ii_lt_t h24) (by decide) (by decide) ?_
                  show Steps p.tables e below (s₁.setTop (mkF m 58 #[.val (.int c1)] [])) _
                  refine XS.iconst X0.here hx rfl (hb hby d1_58) ?_
                  exact Steps.refl _
                obtain ⟨fs, hr, hrun, hended, hW, hsame⟩ := X0.leave (v := some (.int (0 : Int32))) (fun h => by rw [Bd.returns] at h; cases h)
                have hfin : Steps p.tables e below Ω (s₁.setFrames fs) := by
                  refine S25.trans ?_
                  exact own_retZ X0 hx Bd.returns (by decide) (hb hby d1_59) hr
                rw [hΩ] at hfin
                refine ⟨_, _, hfin, hrun, hended, _, _, rfl, ?_, ⟨_, rfl⟩, hW, hsame.mono (by decide) (by decide)⟩
                show Q1 Z c1 h0 n0 _ s₁.heap _
                rw [e0]
                exact ⟨by rw [own_ch, if_neg (by omega)], N0, rfl⟩
              · have qh24 : ¬ c1.toInt < 65536 := fun q => h24 (Int32.lt_iff_toInt_lt.mpr q)
                have S26 : Steps p.tables e below Ω (s₁.setTop (mkF m 51 #[.val (.int c1)] [(.int (1114111 : Int32)), (.int c1)])) := by
                  refine S23.trans ?_
                  refine XS.icmpNo X0.here hx rfl (hb hby d1_45) rfl (XT.ii_lt_f h24) ?_
                  show Steps p.tables e below (s₁.setTop (mkF m 48 #[.val (.int c1)] [])) _
                  refine XS.iloadN X0.here hx rfl (hb hby d1_48) rfl ?_
                  show Steps p.tables e below (s₁.setTop (mkF m 49 #[.val (.int c1)] [(.int c1)])) _
                  refine X0.ldcInt hx hown (mvT hZ (hw _ (List.mem_of_getElem? (i := 24) rfl))) (g := (mkF m 49 #[.val (.int c1)] [(.int c1)])) rfl (hb hby d1_49) _ ?_
                  exact Steps.refl _
                by_cases h27 : (1114111 : Int32) < c1
                · have qh27 : 1114111 < c1.toInt := Int32.lt_iff_toInt_lt.mp h27
                  have S28 : Steps p.tables e below Ω (s₁.setTop (mkF m 59 #[.val (.int c1)] [(.int (0 : Int32))])) := by
                    refine S26.trans ?_
                    refine XS.icmpYes X0.here hx rfl (pc0 := 51) (pc' := 58) rfl (hb hby d1_51) rfl (XT.ii_gt_t h27) (by decide) (by decide) ?_
                    show Steps p.tables e below (s₁.setTop (mkF m 58 #[.val (.int c1)] [])) _
                    refine XS.iconst X0.here hx rfl (hb hby d1_58) ?_
                    exact Steps.refl _
                  obtain ⟨fs, hr, hrun, hended, hW, hsame⟩ := X0.leave (v := some (.int (0 : Int32))) (fun h => by rw [Bd.returns] at h; cases h)
                  have hfin : Steps p.tables e below Ω (s₁.setFrames fs) := by
                    refine S28.trans ?_
                    exact own_retZ X0 hx Bd.returns (by decide) (hb hby d1_59) hr
                  rw [hΩ] at hfin
                  refine ⟨_, _, hfin, hrun, hended, _, _, rfl, ?_, ⟨_, rfl⟩, hW, hsame.mono (by decide) (by decide)⟩
                  show Q1 Z c1 h0 n0 _ s₁.heap _
                  rw [e0]
                  exact ⟨by rw [own_ch, if_neg (by omega)], N0, rfl⟩
                · have qh27 : ¬ 1114111 < c1.toInt := fun q => h27 (Int32.lt_iff_toInt_lt.mpr q)
                  have S29 : Steps p.tables e below Ω (s₁.setTop (mkF m 59 #[.val (.int c1)] [(.int (1 : Int32))])) := by
                    refine S26.trans ?_
                    refine XS.icmpNo X0.here hx rfl (hb hby d1_51) rfl (XT.ii_gt_f h27) ?_
                    show Steps p.tables e below (s₁.setTop (mkF m 54 #[.val (.int c1)] [])) _
                    refine XS.iconst X0.here hx rfl (hb hby d1_54) ?_
                    show Steps p.tables e below (s₁.setTop (mkF m 55 #[.val (.int c1)] [(.int (1 : Int32))])) _
                    refine XS.goto X0.here hx rfl (pc0 := 55) (pc' := 59) rfl (hb hby d1_55) (by decide) (by decide) ?_
                    exact Steps.refl _
                  obtain ⟨fs, hr, hrun, hended, hW, hsame⟩ := X0.leave (v := some (.int (1 : Int32))) (fun h => by rw [Bd.returns] at h; cases h)
                  have hfin : Steps p.tables e below Ω (s₁.setFrames fs) := by
                    refine S29.trans ?_
                    exact own_retZ X0 hx Bd.returns (by decide) (hb hby d1_59) hr
                  rw [hΩ] at hfin
                  refine ⟨_, _, hfin, hrun, hended, _, _, rfl, ?_, ⟨_, rfl⟩, hW, hsame.mono (by decide) (by decide)⟩
                  show Q1 Z c1 h0 n0 _ s₁.heap _
                  rw [e0]
                  exact ⟨by rw [own_ch, if_pos (by omega)], N0, rfl⟩
            · have qh22 : ¬ 65533 < c1.toInt := fun q => h22 (Int32.lt_iff_toInt_lt.mpr q)
              have S30 : Steps p.tables e below Ω (s₁.setTop (mkF m 59 #[.val (.int c1)] [(.int (1 : Int32))])) := by
                refine S21.trans ?_
                refine XS.icmpYes X0.here hx rfl (pc0 := 39) (pc' := 54) rfl (hb hby d1_39) rfl (XT.ii_le_t h22) (by decide) (by decide) ?_
                show Steps p.tables e below (s₁.setTop (mkF m 54 #[.val (.int c1)] [])) _
                refine XS.iconst X0.here hx rfl (hb hby d1_54) ?_
                show Steps p.tables e below (s₁.setTop (mkF m 55 #[.val (.int c1)] [(.int (1 : Int32))])) _
                refine XS.goto X0.here hx rfl (pc0 := 55) (pc' := 59) rfl (hb hby d1_55) (by decide) (by decide) ?_
                exact Steps.refl _
              obtain ⟨fs, hr, hrun, hended, hW, hsame⟩ := X0.leave (v := some (.int (1 : Int32))) (fun h => by rw [Bd.returns] at h; cases h)
              have hfin : Steps p.tables e below Ω (s₁.setFrames fs) := by
                refine S30.trans ?_
                exact own_retZ X0 hx Bd.returns (by decide) (hb hby d1_59) hr
              rw [hΩ] at hfin
              refine ⟨_, _, hfin, hrun, hended, _, _, rfl, ?_, ⟨_, rfl⟩, hW, hsame.mono (by decide) (by decide)⟩
              show Q1 Z c1 h0 n0 _ s₁.heap _
              rw [e0]
              exact ⟨by rw [own_ch, if_pos (by omega)], N0, rfl⟩
        · have qh11 : ¬ c1.toInt < 32 := fun q => h11 (Int32.lt_iff_toInt_lt.mpr q)
          have S31 : Steps p.tables e below Ω (s₁.setTop (mkF m 27 #[.val (.int c1)] [(.int (55295 : Int32)), (.int c1)])) := by
            refine S10.trans ?_
            refine XS.icmpNo X0.here hx rfl (hb hby d1_21) rfl (XT.ii_lt_f h11) ?_
            show Steps p.tables e below (s₁.setTop (mkF m 24 #[.val (.int c1)] [])) _
            refine XS.iloadN X0.here hx rfl (hb hby d1_24) rfl ?_
            show Steps p.tables e below (s₁.setTop (mkF m 25 #[.val (.int c1)] [(.int c1)])) _
            refine X0.ldcInt hx hown (mvT hZ (hw _ (List.mem_of_getElem? (i := 22) rfl))) (g := (mkF m 25 #[.val (.int c1)] [(.int c1)])) rfl (hb hby d1_25) _ ?_
            exact Steps.refl _
          by_cases h32 : (55295 : Int32) < c1
          · have qh32 : 55295 < c1.toInt := Int32.lt_iff_toInt_lt.mp h32
            have S33 : Steps p.tables e below Ω (s₁.setTop (mkF m 33 #[.val (.int c1)] [(.int (57344 : Int32)), (.int c1)])) := by
              refine S31.trans ?_
              refine XS.icmpNo X0.here hx rfl (hb hby d1_27) rfl (XT.ii_le_f h32) ?_
              show Steps p.tables e below (s₁.setTop (mkF m 30 #[.val (.int c1)] [])) _
              refine XS.iloadN X0.here hx rfl (hb hby d1_30) rfl ?_
              show Steps p.tables e below (s₁.setTop (mkF m 31 #[.val (.int c1)] [(.int c1)])) _
              refine X0.ldcInt hx hown (mvT hZ (hw _ (List.mem_of_getElem? (i := 16) rfl))) (g := (mkF m 31 #[.val (.int c1)] [(.int c1)])) rfl (hb hby d1_31) _ ?_
              exact Steps.refl _
            by_cases h34 : c1 < (57344 : Int32)
            · have qh34 : c1.toInt < 57344 := Int32.lt_iff_toInt_lt.mp h34
              have S35 : Steps p.tables e below Ω (s₁.setTop (mkF m 45 #[.val (.int c1)] [(.int (65536 : Int32)), (.int c1)])) := by
                refine S33.trans ?_
                refine XS.icmpYes X0.here hx rfl (pc0 := 33) (pc' := 42) rfl (hb hby d1_33) rfl (XT.ii_lt_t h34) (by decide) (by decide) ?_
                show Steps p.tables e below (s₁.setTop (mkF m 42 #[.val (.int c1)] [])) _
                refine XS.iloadN X0.here hx rfl (hb hby d1_42) rfl ?_
                show Steps p.tables e below (s₁.setTop (mkF m 43 #[.val (.int c1)] [(.int c1)])) _
                refine X0.ldcInt hx hown (mvT hZ (hw _ (List.mem_of_getElem? (i := 17) rfl))) (g := (mkF m 43 #[.val (.int c1)] [(.int c1)])) rfl (hb hby d1_43) _ ?_
                exact Steps.refl _
              by_cases h36 : c1 < (65536 : Int32)
              · have qh36 : c1.toInt < 65536 := Int32.lt_iff_toInt_lt.mp h36
                have S37 : Steps p.tables e below Ω (s₁.setTop (mkF m 59 #[.val (.int c1)] [(.int (0 : Int32))])) := by
                  refine S35.trans ?_
                  refine XS.icmpYes X0.here hx rfl (pc0 := 45) (pc' := 58) rfl (hb hby d1_45) rfl (XT.ii_lt_t h36) (by decide) (by decide) ?_
                  show Steps p.tables e below (s₁.setTop (mkF m 58 #[.val (.int c1)] [])) _
                  refine XS.iconst X0.here hx rfl (hb hby d1_58) ?_
                  exact Steps.refl _
                obtain ⟨fs, hr, hrun, hended, hW, hsame⟩ := X0.leave (v := some (.int (0 : Int32))) (fun h => by rw [Bd.returns] at h; cases h)
                have hfin : Steps p.tables e below Ω (s₁.setFrames fs) := by
                  refine S37.trans ?_
                  exact own_retZ X0 hx Bd.returns (by decide) (hb hby d1_59) hr
                rw [hΩ] at hfin
                refine ⟨_, _, hfin, hrun, hended, _, _, rfl, ?_, ⟨_, rfl⟩, hW, hsame.mono (by decide) (by decide)⟩
                show Q1 Z c1 h0 n0 _ s₁.heap _
                rw [e0]
                exact ⟨by rw [own_ch, if_neg (by omega)], N0, rfl⟩
              · have qh36 : ¬ c1.toInt < 65536 := fun q => h36 (Int32.lt_iff_toInt_lt.mpr q)
                have S38 : Steps p.tables e below Ω (s₁.setTop (mkF m 51 #[.val (.int c1)] [(.int (1114111 : Int32)), (.int c1)])) := by
                  refine S35.trans ?_
                  refine XS.icmpNo X0.here hx rfl (hb hby d1_45) rfl (XT.ii_lt_f h36) ?_
                  show Steps p.tables e below (s₁.setTop (mkF m 48 #[.val (.int c1)] [])) _
                  refine XS.iloadN X0.here hx rfl (hb hby d1_48) rfl ?_
                  show Steps p.tables e below (s₁.setTop (mkF m 49 #[.val (.int c1)] [(.int c1)])) _
                  refine X0.ldcInt hx hown (mvT hZ (hw _ (List.mem_of_getElem? (i := 24) rfl))) (g := (mkF m 49 #[.val (.int c1)] [(.int c1)])) rfl (hb hby d1_49) _ ?_
                  exact Steps.refl _
                by_cases h39 : (1114111 : Int32) < c1
                · have qh39 : 1114111 < c1.toInt := Int32.lt_iff_toInt_lt.mp h39
                  have S40 : Steps p.tables e below Ω (s₁.setTop (mkF m 59 #[.val (.int c1)] [(.int (0 : Int32))])) := by
                    refine S38.trans ?_
                    refine XS.icmpYes X0.here hx rfl (pc0 := 51) (pc' := 58) rfl (hb hby d1_51) rfl (XT.ii_gt_t h39) (by decide) (by decide) ?_
                    show Steps p.tables e below (s₁.setTop (mkF m 58 #[.val (.int c1)] [])) _
                    refine XS.iconst X0.here hx rfl (hb hby d1_58) ?_
                    exact Steps.refl _
                  obtain ⟨fs, hr, hrun, hended, hW, hsame⟩ := X0.leave (v := some (.int (0 : Int32))) (fun h => by rw [Bd.returns] at h; cases h)
                  have hfin : Steps p.tables e below Ω (s₁.setFrames fs) := by
                    refine S40.trans ?_
                    exact own_retZ X0 hx Bd.returns (by decide) (hb hby d1_59) hr
                  rw [hΩ] at hfin
                  refine ⟨_, _, hfin, hrun, hended, _, _, rfl, ?_, ⟨_, rfl⟩, hW, hsame.mono (by decide) (by decide)⟩
                  show Q1 Z c1 h0 n0 _ s₁.heap _
                  rw [e0]
                  exact ⟨by rw [own_ch, if_neg (by omega)], N0, rfl⟩
                · have qh39 : ¬ 1114111 < c1.toInt := fun q => h39 (Int32.lt_iff_toInt_lt.mpr q)
                  have S41 : Steps p.tables e below Ω (s₁.setTop (mkF m 59 #[.val (.int c1)] [(.int (1 : Int32))])) := by
                    refine S38.trans ?_
                    refine XS.icmpNo X0.here hx rfl (hb hby d1_51) rfl (XT.ii_gt_f h39) ?_
                    show Steps p.tables e below (s₁.setTop (mkF m 54 #[.val (.int c1)] [])) _
                    refine XS.iconst X0.here hx rfl (hb hby d1_54) ?_
                    show Steps p.tables e below (s₁.setTop (mkF m 55 #[.val (.int c1)] [(.int (1 : Int32))])) _
                    refine XS.goto X0.here hx rfl (pc0 := 55) (pc' := 59) rfl (hb hby d1_55) (by decide) (by decide) ?_
                    exact Steps.refl _
                  obtain ⟨fs, hr, hrun, hended, hW, hsame⟩ := X0.leave (v := some (.int (1 : Int32))) (fun h => by rw [Bd.returns] at h; cases h)
                  have hfin : Steps p.tables e below Ω (s₁.setFrames fs) := by
                    refine S41.trans ?_
                    exact own_retZ X0 hx Bd.returns (by decide) (hb hby d1_59) hr
                  rw [hΩ] at hfin
                  refine ⟨_, _, hfin, hrun, hended, _, _, rfl, ?_, ⟨_, rfl⟩, hW, hsame.mono (by decide) (by decide)⟩
                  show Q1 Z c1 h0 n0 _ s₁.heap _
                  rw [e0]
                  exact ⟨by rw [own_ch, if_pos (by omega)], N0, rfl⟩
            · have qh34 : ¬ c1.toInt < 57344 := fun q => h34 (Int32.lt_iff_toInt_lt.mpr q)
              have S42 : Steps p.tables e below Ω (s₁.setTop (mkF m 39 #[.val (.int c1)] [(.int (65533 : Int32)), (.int c1)])) := by
                refine S33.trans ?_
                refine XS.icmpNo X0.here hx rfl (hb hby d1_33) rfl (XT.ii_lt_f h34) ?_
                show Steps p.tables e below (s₁.setTop (mkF m 36 #[.val (.int c1)] [])) _
                refine XS.iloadN X0.here hx rfl (hb hby d1_36) rfl ?_
                show Steps p.tables e below (s₁.setTop (mkF m 37 #[.val (.int c1)] [(.int c1)])) _
                refine X0.ldcInt hx hown (mvT hZ (hw _ (List.mem_of_getElem? (i := 23) rfl))) (g := (mkF m 37 #[.val (.int c1)] [(.int c1)])) rfl (hb hby d1_37) _ ?_
                exact Steps.refl _
              by_cases h43 : (65533 : Int32) < c1
              · have qh43 : 65533 < c1.toInt := Int32.lt_iff_toInt_lt.mp h43
                have S44 : Steps p.tables e below Ω (s₁.setTop (mkF m 45 #[.val (.int c1)] [(.int (65536 : Int32)), (.int c1)])) := by
                  refine S42.trans ?_
                  refine XS.icmpNo X0.here hx rfl (hb hby d1_39) rfl (XT.ii_le_f h43) ?_
                  show Steps p.tables e below (s₁.setTop (mkF m 42 #[.val (.int c1)] [])) _
                  refine XS.iloadN X0.here hx rfl (hb hby d1_42) rfl ?_
                  show Steps p.tables e below (s₁.setTop (mkF m 43 #[.val (.int c1)] [(.int c1)])) _
                  refine X0.ldcInt hx hown (mvT hZ (hw _ (List.mem_of_getElem? (i := 17) rfl))) (g := (mkF m 43 #[.val (.int c1)] [(.int c1)])) rfl (hb hby d1_43) _ ?_
                  exact Steps.refl _
                by_cases h45 : c1 < (65536 : Int32)
                · have qh45 : c1.toInt < 65536 := Int32.lt_iff_toInt_lt.mp h45
                  have S46 : Steps p.tables e below Ω (s₁.setTop (mkF m 59 #[.val (.int c1)] [(.int (0 : Int32))])) := by
                    refine S44.trans ?_
                    refine XS.icmpYes X0.here hx rfl (pc0 := 45) (pc' := 58) rfl (hb hby d1_45) rfl (XT.ii_lt_t h45) (by decide) (by decide) ?_
                    show Steps p.tables e below (s₁.setTop (mkF m 58 #[.val (.int c1)] [])) _
                    refine XS.iconst X0.here hx rfl (hb hby d1_58) ?_
                    exact Steps.refl _
                  obtain ⟨fs, hr, hrun, hended, hW, hsame⟩ := X0.leave (v := some (.int (0 : Int32))) (fun h => by rw [Bd.returns] at h; cases h)
                  have hfin : Steps p.tables e below Ω (s₁.setFrames fs) := by
                    refine S46.trans ?_
                    exact own_retZ X0 hx Bd.returns (by decide) (hb hby d1_59) hr
                  rw [hΩ] at hfin
                  refine ⟨_, _, hfin, hrun, hended, _, _, rfl, ?_, ⟨_, rfl⟩, hW, hsame.mono (by decide) (by decide)⟩
                  show Q1 Z c1 h0 n0 _ s₁.heap _
                  rw [e0]
                  exact ⟨by rw [own_ch, if_neg (by omega)], N0, rfl⟩
                · have qh45 : ¬ c1.toInt < 65536 := fun q => h45 (Int32.lt_iff_toInt_lt.mpr q)
                  have S47 : Steps p.tables e below Ω (s₁.setTop (mkF m 51 #[.val (.int c1)] [(.int (1114111 : Int32)), (.int c1)])) := by
                    refine S44.trans ?_
                    refine XS.icmpNo X0.here hx rfl (hb hby d1_45) rfl (XT.ii_lt_f h45) ?_
                    show Steps p.tables e below (s₁.setTop (mkF m 48 #[.val (.int c1)] [])) _
                    refine XS.iloadN X0.here hx rfl (hb hby d1_48) rfl ?_
                    show Steps p.tables e below (s₁.setTop (mkF m 49 #[.val (.int c1)] [(.int c1)])) _
                    refine X0.ldcInt hx hown (mvT hZ (hw _ (List.mem_of_getElem? (i := 24) rfl))) (g := (mkF m 49 #[.val (.int c1)] [(.int c1)])) rfl (hb hby d1_49) _ ?_
                    exact Steps.refl _
                  by_cases h48 : (1114111 : Int32) < c1
                  · have qh48 : 1114111 < c1.toInt := Int32.lt_iff_toInt_lt.mp h48
                    have S49 : Steps p.tables e below Ω (s₁.setTop (mkF m 59 #[.val (.int c1)] [(.int (0 : Int32))])) := by
                      refine S47.trans ?_
                      refine XS.icmpYes X0.here hx rfl (pc0 := 51) (pc' := 58) rfl (hb hby d1_51) rfl (XT.ii_gt_t h48) (by decide) (by decide) ?_
                      show Steps p.tables e below (s₁.setTop (mkF m 58 #[.val (.int c1)] [])) _
                      refine XS.iconst X0.here hx rfl (hb hby d1_58) ?_
                      exact Steps.refl _
                    obtain ⟨fs, hr, hrun, hended, hW, hsame⟩ := X0.leave (v := some (.int (0 : Int32))) (fun h => by rw [Bd.returns] at h; cases h)
                    have hfin : Steps p.tables e below Ω (s₁.setFrames fs) := by
                      refine S49.trans ?_
                      exact own_retZ X0 hx Bd.returns (by decide) (hb hby d1_59) hr
                    rw [hΩ] at hfin
                    refine ⟨_, _, hfin, hrun, hended, _, _, rfl, ?_, ⟨_, rfl⟩, hW, hsame.mono (by decide) (by decide)⟩
                    show Q1 Z c1 h0 n0 _ s₁.heap _
                    rw [e0]
                    exact ⟨by rw [own_ch, if_neg (by omega)], N0, rfl⟩
                  · have qh48 : ¬ 1114111 < c1.toInt := fun q => h48 (Int32.lt_iff_toInt_lt.mpr q)
                    have S50 : Steps p.tables e below Ω (s₁.setTop (mkF m 59 #[.val (.int c1)] [(.int (1 : Int32))])) := by
                      refine S47.trans ?_
                      refine XS.icmpNo X0.here hx rfl (hb hby d1_51) rfl (XT.ii_gt_f h48) ?_
                      show Steps p.tables e below (s₁.setTop (mkF m 54 #[.val (.int c1)] [])) _
                      refine XS.iconst X0.here hx rfl (hb hby d1_54) ?_
                      show Steps p.tables e below (s₁.setTop (mkF m 55 #[.val (.int c1)] [(.int (1 : Int32))])) _
                      refine XS.goto X0.here hx rfl (pc0 := 55) (pc' := 59) rfl (hb hby d1_55) (by decide) (by decide) ?_
                      exact Steps.refl _
                    obtain ⟨fs, hr, hrun, hended, hW, hsame⟩ := X0.leave (v := some (.int (1 : Int32))) (fun h => by rw [Bd.returns] at h; cases h)
                    have hfin : Steps p.tables e below Ω (s₁.setFrames fs) := by
                      refine S50.trans ?_
                      exact own_retZ X0 hx Bd.returns (by decide) (hb hby d1_59) hr
                    rw [hΩ] at hfin
                    refine ⟨_, _, hfin, hrun, hended, _, _, rfl, ?_, ⟨_, rfl⟩, hW, hsame.mono (by decide) (by decide)⟩
                    show Q1 Z c1 h0 n0 _ s₁.heap _
                    rw [e0]
                    exact ⟨by rw [own_ch, if_pos (by omega)], N0, rfl⟩
              · have qh43 : ¬ 65533 < c1.toInt := fun q => h43 (Int32.lt_iff_toInt_lt.mpr q)
                have S51 : Steps p.tables e below Ω (s₁.setTop (mkF m 59 #[.val (.int c1)] [(.int (1 : Int32))])) := by
                  refine S42.trans ?_
                  refine XS.icmpYes X0.here hx rfl (pc0 := 39) (pc' := 54) rfl (hb hby d1_39) rfl (XT.ii_le_t h43) (by decide) (by decide) ?_
                  show Steps p.tables e below (s₁.setTop (mkF m 54 #[.val (.int c1)] [])) _
                  refine XS.iconst X0.here hx rfl (hb hby d1_54) ?_
                  show Steps p.tables e below (s₁.setTop (mkF m 55 #[.val (.int c1)] [(.int (1 : Int32))])) _
                  refine XS.goto X0.here hx rfl (pc0 := 55) (pc' := 59) rfl (hb hby d1_55) (by decide) (by decide) ?_
                  exact Steps.refl _
                obtain ⟨fs, hr, hrun, hended, hW, hsame⟩ := X0.leave (v := some (.int (1 : Int32))) (fun h => by rw [Bd.returns] at h; cases h)
                have hfin : Steps p.tables e below Ω (s₁.setFrames fs) := by
                  refine S51.trans ?_
                  exact own_retZ X0 hx Bd.returns (by decide) (hb hby d1_59) hr
                rw [hΩ] at hfin
                refine ⟨_, _, hfin, hrun, hended, _, _, rfl, ?_, ⟨_, rfl⟩, hW, hsame.mono (by decide) (by decide)⟩
                show Q1 Z c1 h0 n0 _ s₁.heap _
                rw [e0]
                exact ⟨by rw [own_ch, if_pos (by omega)], N0, rfl⟩
          · have qh32 : ¬ 55295 < c1.toInt := fun q => h32 (Int32.lt_iff_toInt_lt.mpr q)
            have S52 : Steps p.tables e below Ω (s₁.setTop (mkF m 59 #[.val (.int c1)] [(.int (1 : Int32))])) := by
              refine S31.trans ?_
              refine XS.icmpYes X0.here hx rfl (pc0 := 27) (pc' := 54) rfl (hb hby d1_27) rfl (XT.ii_le_t h32) (by decide) (by decide) ?_
              show Steps p.tables e below (s₁.setTop (mkF m 54 #[.val (.int c1)] [])) _
              refine XS.iconst X0.here hx rfl (hb hby d1_54) ?_
              show Steps p.tables e below (s₁.setTop (mkF m 55 #[.val (.int c1)] [(.int (1 : Int32))])) _
              refine XS.goto X0.here hx rfl (pc0 := 55) (pc' := 59) rfl (hb hby d1_55) (by decide) (by decide) ?_
              exact Steps.refl _
            obtain ⟨fs, hr, hrun, hended, hW, hsame⟩ := X0.leave (v := some (.int (1 : Int32))) (fun h => by rw [Bd.returns] at h; cases h)
            have hfin : Steps p.tables e below Ω (s₁.setFrames fs) := by
              refine S52.trans ?_
              exact own_retZ X0 hx Bd.returns (by decide) (hb hby d1_59) hr
            rw [hΩ] at hfin
            refine ⟨_, _, hfin, hrun, hended, _, _, rfl, ?_, ⟨_, rfl⟩, hW, hsame.mono (by decide) (by decide)⟩
            show Q1 Z c1 h0 n0 _ s₁.heap _
            rw [e0]
            exact ⟨by rw [own_ch, if_pos (by omega)], N0, rfl⟩
theorem d2_0 : decode method_3_code 0 = .ok (.iload_n 0, 1) := by decide +kernel
theorem d2_1 : decode method_3_code 1 = .ok (.ifCond .lt 9, 3) := by decide +kernel
theorem d2_10 : decode method_3_code 10 = .ok (.iconst 0, 1) := by decide +kernel
theorem d2_11 : decode method_3_code 11 = .ok (.ireturn, 1) := by decide +kernel
theorem d2_4 : decode method_3_code 4 = .ok (.iload_n 0, 1) := by decide +kernel
theorem d2_5 : decode method_3_code 5 = .ok (.ldc 14, 2) := by decide +kernel
theorem d2_7 : decode method_3_code 7 = .ok (.if_icmp .le 5, 3) := by decide +kernel
theorem d2_12 : decode method_3_code 12 = .ok (.iload_n 0, 1) := by decide +kernel
theorem d2_13 : decode method_3_code 13 = .ok (.bipush 32, 2) := by decide +kernel
theorem d2_15 : decode method_3_code 15 = .ok (.if_icmp .ge 27, 3) := by decide +kernel
theorem d2_18 : decode method_3_code 18 = .ok (.iload_n 0, 1) := by decide +kernel
theorem d2_19 : decode method_3_code 19 = .ok (.bipush 9, 2) := by decide +kernel
theorem d2_21 : decode method_3_code 21 = .ok (.if_icmp .eq 15, 3) := by decide +kernel
theorem d2_36 : decode method_3_code 36 = .ok (.iconst 1, 1) := by decide +kernel
theorem d2_37 : decode method_3_code 37 = .ok (.goto 4, 3) := by decide +kernel
theorem d2_41 : decode method_3_code 41 = .ok (.ireturn, 1) := by decide +kernel
theorem d2_24 : decode method_3_code 24 = .ok (.iload_n 0, 1) := by decide +kernel
theorem d2_25 : decode method_3_code 25 = .ok (.bipush 10, 2) := by decide +kernel
theorem d2_27 : decode method_3_code 27 = .ok (.if_icmp .eq 9, 3) := by decide +kernel
theorem d2_30 : decode method_3_code 30 = .ok (.iload_n 0, 1) := by decide +kernel
theorem d2_31 : decode method_3_code 31 = .ok (.bipush 13, 2) := by decide +kernel
theorem d2_33 : decode method_3_code 33 = .ok (.if_icmp .ne 7, 3) := by decide +kernel
theorem d2_40 : decode method_3_code 40 = .ok (.iconst 0, 1) := by decide +kernel
theorem d2_42 : decode method_3_code 42 = .ok (.iload_n 0, 1) := by decide +kernel
theorem d2_43 : decode method_3_code 43 = .ok (.ldc 8, 2) := by decide +kernel
theorem d2_45 : decode method_3_code 45 = .ok (.if_icmp .lt 11, 3) := by decide +kernel
theorem d2_56 : decode method_3_code 56 = .ok (.iload_n 0, 1) := by decide +kernel
theorem d2_57 : decode method_3_code 57 = .ok (.ldc 31, 2) := by decide +kernel
theorem d2_59 : decode method_3_code 59 = .ok (.if_icmp .eq 9, 3) := by decide +kernel
theorem d2_68 : decode method_3_code 68 = .ok (.iconst 0, 1) := by decide +kernel
theorem d2_69 : decode method_3_code 69 = .ok (.ireturn, 1) := by decide +kernel
theorem d2_62 : decode method_3_code 62 = .ok (.iload_n 0, 1) := by decide +kernel
theorem d2_63 : decode method_3_code 63 = .ok (.ldc 12, 2) := by decide +kernel
theorem d2_65 : decode method_3_code 65 = .ok (.if_icmp .ne 5, 3) := by decide +kernel
theorem d2_70 : decode method_3_code 70 = .ok (.iconst 1, 1) := by decide +kernel
theorem d2_71 : decode method_3_code 71 = .ok (.ireturn, 1) := by decide +kernel
theorem d2_48 : decode method_3_code 48 = .ok (.iload_n 0, 1) := by decide +kernel
theorem d2_49 : decode method_3_code 49 = .ok (.ldc 9, 2) := by decide +kernel
theorem d2_51 : decode method_3_code 51 = .ok (.if_icmp .gt 5, 3) := by decide +kernel
theorem d2_54 : decode method_3_code 54 = .ok (.iconst 0, 1) := by decide +kernel
theorem d2_55 : decode method_3_code 55 = .ok (.ireturn, 1) := by decide +kernel
theorem pn_1 : plainName "com/example/distill_trees/distilltrees/io/XmlCharsIsCharPinLaw" = true := by first | (simp [plainName, overriddenIn]; done) | decide +kernel
theorem ef_rm2 (m : MethodId) (x0 : Int32) : entryFrame m #[(.int x0)] 1 = mkF m 0 #[.val (.int x0)] [] := by first | (simp [entryFrame, mkF, argsToLocals, Value.category]; done) | rfl
def Q2 (Z : State) (c1 : Int32) (h0 : Heap) (n0 : Nat) (v : Option Value) (h : Heap) (L : List Loc) : Prop := v = some (.int (own_ch c1)) ∧ Fr n0 L ∧ h = h0
set_option maxRecDepth 65536 in
set_option maxHeartbeats 40000000 in
theorem rm2 (l : Launch) (Z : State) (a0 : Array Value) (hw : ∀ d ∈ tables_1, d.before a0 Z = true) (ws : List Jvm.Cond) (c1 : Int32) (h0 : Heap) (n0 : Nat) (Z0 : n0 ≤ h0.size) :
    MetFree l (⟨"com/example/distill_trees/distilltrees/io/XmlCharsIsCharPinLaw", "allowed", "(I)Z"⟩ : MethodName) (head1 (Jvm.Cond.code (⟨"com/example/distill_trees/distilltrees/io/XmlCharsIsCharPinLaw", "allowed", "(I)Z"⟩ : MethodName) method_3_code 1 (some .boolean) :: ws) ({ frames := 0, cells := 0, slots := 0, locals := 0 } : Room)) (fun aa U => aa = #[(.int c1)] ∧ Z.Warmed39 U.vm ∧ U.heap = h0) (fun _ _ _ _ _ => True) (fun _ U o U' => ∃ v L, o = .returned v ∧ Q2 Z c1 h0 n0 v U'.heap L ∧ FrameEnd U o U' L ({ frames := 0, cells := 0, slots := 0, locals := 0 } : Room).cells ({ frames := 0, cells := 0, slots := 0, locals := 0 } : Room).slots) := by
  refine MetFree.of_bodySF (plainFor_of_name pn_1) hisR ?_
  intro p e s m args below meth c s₁ Bd hml0 hP hK
  obtain ⟨rfl, hZ, hh⟩ := hP
  have hx := Bd.exec
  have hby := Bd.bytes
  have hml : c.maxLocals = 1 := hml0
  have hown : s.vm.findClass "com/example/distill_trees/distilltrees/io/XmlCharsIsCharPinLaw" = some m.cls := findClass_of_methodNamed Bd.named
  have hnm := (name_of_methodNamed Bd.named Bd.method).1
  have X0 : Stand p l e ({ frames := 0, cells := 0, slots := 0, locals := 0 } : Room) s m #[(.int c1)] below meth c s₁ [] 0 0 := Stand.of_body Bd
  have e0 : s₁.heap = h0 := by rw [← hh, Bd.state]; rfl
  have N0 := Fr.nil n0
  obtain ⟨Ω, hΩ⟩ : ∃ z, z = s₁.setTop (entryFrame m #[(.int c1)] 1) := ⟨_, rfl⟩
  have S0 : Steps p.tables e below Ω (s₁.setTop (mkF m 0 #[.val (.int c1)] [])) := by rw [hΩ]; exact castTop (ef_rm2 m c1) (Steps.refl _)
  have S1 : Steps p.tables e below Ω (s₁.setTop (mkF m 1 #[.val (.int c1)] [(.int c1)])) := by
    refine S0.trans ?_
    refine XS.iloadN X0.here hx rfl (hb hby d2_0) rfl ?_
    exact Steps.refl _
  by_cases h2 : c1 < (0 : Int32)
  · have qh2 : c1.toInt < 0 := Int32.lt_iff_toInt_lt.mp h2
    have S3 : Steps p.tables e below Ω (s₁.setTop (mkF m 11 #[.val (.int c1)] [(.int (0 : Int32))])) := by
      refine S1.trans ?_
      refine XS.ifYes X0.here hx rfl (pc0 := 1) (pc' := 10) rfl (hb hby d2_1) rfl (XT.i0_lt_t h2) (by decide) (by decide) ?_
      show Steps p.tables e below (s₁.setTop (mkF m 10 #[.val (.int c1)] [])) _
      refine XS.iconst X0.here hx rfl (hb hby d2_10) ?_
      exact Steps.refl _
    obtain ⟨fs, hr, hrun, hended, hW, hsame⟩ := X0.leave (v := some (.int (0 : Int32))) (fun h => by rw [Bd.returns] at h; cases h)
    have hfin : Steps p.tables e below Ω (s₁.setFrames fs) := by
      refine S3.trans ?_
      exact own_retZ X0 hx Bd.returns (by decide) (hb hby d2_11) hr
    rw [hΩ] at hfin
    refine ⟨_, _, hfin, hrun, hended, _, _, rfl, ?_, ⟨_, rfl⟩, hW, hsame.mono (by decide) (by decide)⟩
    show Q2 Z c1 h0 n0 _ s₁.heap _
    rw [e0]
    exact ⟨by rw [own_ch, if_neg (by omega)], N0, rfl⟩
  · have qh2 : ¬ c1.toInt < 0 := fun q => h2 (Int32.lt_iff_toInt_lt.mpr q)
    have S4 : Steps p.tables e below Ω (s₁.setTop (mkF m 7 #[.val (.int c1)] [(.int (1114111 : Int32)), (.int c1)])) := by
      refine S1.trans ?_
      refine XS.ifNo X0.here hx rfl (hb hby d2_1) rfl (XT.i0_lt_f h2) ?_
      show Steps p.tables e below (s₁.setTop (mkF m 4 #[.val (.int c1)] [])) _
      refine XS.iloadN X0.here hx rfl (hb hby d2_4) rfl ?_
      show Steps p.tables e below (s₁.setTop (mkF m 5 #[.val (.int c1)] [(.int c1)])) _
      refine X0.ldcInt hx hown (mvT hZ (hw _ (List.mem_of_getElem? (i := 8) rfl))) (g := (mkF m 5 #[.val (.int c1)] [(.int c1)])) rfl (hb hby d2_5) _ ?_
      exact Steps.refl _
    by_cases h5 : (1114111 : Int32) < c1
    · have qh5 : 1114111 < c1.toInt := Int32.lt_iff_toInt_lt.mp h5
      have S6 : Steps p.tables e below Ω (s₁.setTop (mkF m 11 #[.val (.int c1)] [(.int (0 : Int32))])) := by
        refine S4.trans ?_
        refine XS.icmpNo X0.here hx rfl (hb hby d2_7) rfl (XT.ii_le_f h5) ?_
        show Steps p.tables e below (s₁.setTop (mkF m 10 #[.val (.int c1)] [])) _
        refine XS.iconst X0.here hx rfl (hb hby d2_10) ?_
        exact Steps.refl _
      obtain ⟨fs, hr, hrun, hended, hW, hsame⟩ := X0.leave (v := some (.int (0 : Int32))) (fun h => by rw [Bd.returns] at h; cases h)
      have hfin : Steps p.tables e below Ω (s₁.setFrames fs) := by
        refine S6.trans ?_
        exact own_retZ X0 hx Bd.returns (by decide) (hb hby d2_11) hr
      rw [hΩ] at hfin
      refine ⟨_, _, hfin, hrun, hended, _, _, rfl, ?_, ⟨_, rfl⟩, hW, hsame.mono (by decide) (by decide)⟩
      show Q2 Z c1 h0 n0 _ s₁.heap _
      rw [e0]
      exact ⟨by rw [own_ch, if_neg (by omega)], N0, rfl⟩
    · have qh5 : ¬ 1114111 < c1.toInt := fun q => h5 (Int32.lt_iff_toInt_lt.mpr q)
      have S7 : Steps p.tables e below Ω (s₁.setTop (mkF m 15 #[.val (.int c1)] [(.int (32 : Int32)), (.int c1)])) := by
        refine S4.trans ?_
        refine XS.icmpYes X0.here hx rfl (pc0 := 7) (pc' := 12) rfl (hb hby d2_7) rfl (XT.ii_le_t h5) (by decide) (by decide) ?_
        show Steps p.tables e below (s₁.setTop (mkF m 12 #[.val (.int c1)] [])) _
        refine XS.iloadN X0.here hx rfl (hb hby d2_12) rfl ?_
        show Steps p.tables e below (s₁.setTop (mkF m 13 #[.val (.int c1)] [(.int c1)])) _
        refine XS.bipush X0.here hx rfl (hb hby d2_13) ?_
        exact Steps.refl _
      by_cases h8 : c1 < (32 : Int32)
      · have qh8 : c1.toInt < 32 := Int32.lt_iff_toInt_lt.mp h8
        have S9 : Steps p.tables e below Ω (s₁.setTop (mkF m 21 #[.val (.int c1)] [(.int (9 : Int32)), (.int c1)])) := by
          refine S7.trans ?_
          refine XS.icmpNo X0.here hx rfl (hb hby d2_15) rfl (XT.ii_ge_f h8) ?_
          show Steps p.tables e below (s₁.setTop (mkF m 18 #[.val (.int c1)] [])) _
          refine XS.iloadN X0.here hx rfl (hb hby d2_18) rfl ?_
          show Steps p.tables e below (s₁.setTop (mkF m 19 #[.val (.int c1)] [(.int c1)])) _
          refine XS.bipush X0.here hx rfl (hb hby d2_19) ?_
          exact Steps.refl _
        by_cases h10 : c1 = (9 : Int32)
        · have qh10 : c1.toInt = 9 := congrArg Int32.toInt h10
          have S11 : Steps p.tables e below Ω (s₁.setTop (mkF m 41 #[.val (.int c1)] [(.int (1 : Int32))])) := by
            refine S9.trans ?_
            refine XS.icmpYes X0.here hx rfl (pc0 := 21) (pc' := 36) rfl (hb hby d2_21) rfl (XT.ii_eq_t h10) (by decide) (by decide) ?_
            show Steps p.tables e below (s₁.setTop (mkF m 36 #[.val (.int c1)] [])) _
            refine XS.iconst X0.here hx rfl (hb hby d2_36) ?_
            show Steps p.tables e below (s₁.setTop (mkF m 37 #[.val (.int c1)] [(.int (1 : Int32))])) _
            refine XS.goto X0.here hx rfl (pc0 := 37) (pc' := 41) rfl (hb hby d2_37) (by decide) (by decide) ?_
            exact Steps.refl _
          obtain ⟨fs, hr, hrun, hended, hW, hsame⟩ := X0.leave (v := some (.int (1 : Int32))) (fun h => by rw [Bd.returns] at h; cases h)
          have hfin : Steps p.tables e below Ω (s₁.setFrames fs) := by
            refine S11.trans ?_
            exact own_retZ X0 hx Bd.returns (by decide) (hb hby d2_41) hr
          rw [hΩ] at hfin
          refine ⟨_, _, hfin, hrun, hended, _, _, rfl, ?_, ⟨_, rfl⟩, hW, hsame.mono (by decide) (by decide)⟩
          show Q2 Z c1 h0 n0 _ s₁.heap _
          rw [e0]
          exact ⟨by rw [own_ch, if_pos (by omega)], N0, rfl⟩
        · have qh10 : ¬ c1.toInt = 9 := fun q => h10 (Int32.toInt_inj.mp q)
          have S12 : Steps p.tables e below Ω (s₁.setTop (mkF m 27 #[.val (.int c1)] [(.int (10 : Int32)), (.int c1)])) := by
            refine S9.trans ?_
            refine XS.icmpNo X0.here hx rfl (hb hby d2_21) rfl (XT.ii_eq_f h10) ?_
            show Steps p.tables e below (s₁.setTop (mkF m 24 #[.val (.int c1)] [])) _
            refine XS.iloadN X0.here hx rfl (hb hby d2_24) rfl ?_
            show Steps p.tables e below (s₁.setTop (mkF m 25 #[.val (.int c1)] [(.int c1)])) _
            refine XS.bipush X0.here hx rfl (hb hby d2_25) ?_
            exact Steps.refl _
          by_cases h13 : c1 = (10 : Int32)
          · have qh13 : c1.toInt = 10 := congrArg Int32.toInt h13
            have S14 : Steps p.tables e below Ω (s₁.setTop (mkF m 41 #[.val (.int c1)] [(.int (1 : Int32))])) := by
              refine S12.trans ?_
              refine XS.icmpYes X0.here hx rfl (pc0 := 27) (pc' := 36) rfl (hb hby d2_27) rfl (XT.ii_eq_t h13) (by decide) (by decide) ?_
              show Steps p.tables e below (s₁.setTop (mkF m 36 #[.val (.int c1)] [])) _
              refine XS.iconst X0.here hx rfl (hb hby d2_36) ?_
              show Steps p.tables e below (s₁.setTop (mkF m 37 #[.val (.int c1)] [(.int (1 : Int32))])) _
              refine XS.goto X0.here hx rfl (pc0 := 37) (pc' := 41) rfl (hb hby d2_37) (by decide) (by decide) ?_
              exact Steps.refl _
            obtain ⟨fs, hr, hrun, hended, hW, hsame⟩ := X0.leave (v := some (.int (1 : Int32))) (fun h => by rw [Bd.returns] at h; cases h)
            have hfin : Steps p.tables e below Ω (s₁.setFrames fs) := by
              refine S14.trans ?_
              exact own_retZ X0 hx Bd.returns (by decide) (hb hby d2_41) hr
            rw [hΩ] at hfin
            refine ⟨_, _, hfin, hrun, hended, _, _, rfl, ?_, ⟨_, rfl⟩, hW, hsame.mono (by decide) (by decide)⟩
            show Q2 Z c1 h0 n0 _ s₁.heap _
            rw [e0]
            exact ⟨by rw [own_ch, if_pos (by omega)], N0, rfl⟩
          · have qh13 : ¬ c1.toInt = 10 := fun q => h13 (Int32.toInt_inj.mp q)
            have S15 : Steps p.tables e below Ω (s₁.setTop (mkF m 33 #[.val (.int c1)] [(.int (13 : Int32)), (.int c1)])) := by
              refine S12.trans ?_
              refine XS.icmpNo X0.here hx rfl (hb hby d2_27) rfl (XT.ii_eq_f h13) ?_
              show Steps p.tables e below (s₁.setTop (mkF m 30 #[.val (.int c1)] [])) _
              refine XS.iloadN X0.here hx rfl (hb hby d2_30) rfl ?_
              show Steps p.tables e below (s₁.setTop (mkF m 31 #[.val (.int c1)] [(.int c1)])) _
              refine XS.bipush X0.here hx rfl (hb hby d2_31) ?_
              exact Steps.refl _
            by_cases h16 : c1 = (13 : Int32)
            · have qh16 : c1.toInt = 13 := congrArg Int32.toInt h16
              have S17 : Steps p.tables e below Ω (s₁.setTop (mkF m 41 #[.val (.int c1)] [(.int (1 : Int32))])) := by
                refine S15.trans ?_
                refine XS.icmpNo X0.here hx rfl (hb hby d2_33) rfl (XT.ii_ne_f h16) ?_
                show Steps p.tables e below (s₁.setTop (mkF m 36 #[.val (.int c1)] [])) _
                refine XS.iconst X0.here hx rfl (hb hby d2_36) ?_
                show Steps p.tables e below (s₁.setTop (mkF m 37 #[.val (.int c1)] [(.int (1 : Int32))])) _
                refine XS.goto X0.here hx rfl (pc0 := 37) (pc' := 41) rfl (hb hby d2_37) (by decide) (by decide) ?_
                exact Steps.refl _
              obtain ⟨fs, hr, hrun, hended, hW, hsame⟩ := X0.leave (v := some (.int (1 : Int32))) (fun h => by rw [Bd.returns] at h; cases h)
              have hfin : Steps p.tables e below Ω (s₁.setFrames fs) := by
                refine S17.trans ?_
                exact own_retZ X0 hx Bd.returns (by decide) (hb hby d2_41) hr
              rw [hΩ] at hfin
              refine ⟨_, _, hfin, hrun, hended, _, _, rfl, ?_, ⟨_, rfl⟩, hW, hsame.mono (by decide) (by decide)⟩
              show Q2 Z c1 h0 n0 _ s₁.heap _
              rw [e0]
              exact ⟨by rw [own_ch, if_pos (by omega)], N0, rfl⟩
            · have qh16 : ¬ c1.toInt = 13 := fun q => h16 (Int32.toInt_inj.mp q)
              have S18 : Steps p.tables e below Ω (s₁.setTop (mkF m 41 #[.val (.int c1)] [(.int (0 : Int32))])) := by
                refine S15.trans ?_
                refine XS.icmpYes X0.here hx rfl (pc0 := 33) (pc' := 40) rfl (hb hby d2_33) rfl (XT.ii_ne_t h16) (by decide) (by decide) ?_
                show Steps p.tables e below (s₁.setTop (mkF m 40 #[.val (.int c1)] [])) _
                refine XS.iconst X0.here hx rfl (hb hby d2_40) ?_
                exact Steps.refl _
              obtain ⟨fs, hr, hrun, hended, hW, hsame⟩ := X0.leave (v := some (.int (0 : Int32))) (fun h => by rw [Bd.returns] at h; cases h)
              have hfin : Steps p.tables e below Ω (s₁.setFrames fs) := by
                refine S18.trans ?_
                exact own_retZ X0 hx Bd.returns (by decide) (hb hby d2_41) hr
              rw [hΩ] at hfin
              refine ⟨_, _, hfin, hrun, hended, _, _, rfl, ?_, ⟨_, rfl⟩, hW, hsame.mono (by decide) (by decide)⟩
              show Q2 Z c1 h0 n0 _ s₁.heap _
              rw [e0]
              exact ⟨by rw [own_ch, if_neg (by omega)], N0, rfl⟩
      · have qh8 : ¬ c1.toInt < 32 := fun q => h8 (Int32.lt_iff_toInt_lt.mpr q)
        have S19 : Steps p.tables e below Ω (s₁.setTop (mkF m 45 #[.val (.int c1)] [(.int (55296 : Int32)), (.int c1)])) := by
          refine S7.trans ?_
          refine XS.icmpYes X0.here hx rfl (pc0 := 15) (pc' := 42) rfl (hb hby d2_15) rfl (XT.ii_ge_t h8) (by decide) (by decide) ?_
          show Steps p.tables e below (s₁.setTop (mkF m 42 #[.val (.int c1)] [])) _
          refine XS.iloadN X0.here hx rfl (hb hby d2_42) rfl ?_
          show Steps p.tables e below (s₁.setTop (mkF m 43 #[.val (.int c1)] [(.int c1)])) _
          refine X0.ldcInt hx hown (mvT hZ (hw _ (List.mem_of_getElem? (i := 2) rfl))) (g := (mkF m 43 #[.val (.int c1)] [(.int c1)])) rfl (hb hby d2_43) _ ?_
          exact Steps.refl _
        by_cases h20 : c1 < (55296 : Int32)
        · have qh20 : c1.toInt < 55296 := Int32.lt_iff_toInt_lt.mp h20
          have S21 : Steps p.tables e below Ω (s₁.setTop (mkF m 59 #[.val (.int c1)] [(.int (65534 : Int32)), (.int c1)])) := by
            refine S19.trans ?_
            refine XS.icmpYes X0.here hx rfl (pc0 := 45) (pc' := 56) rfl (hb hby d2_45) rfl (XT.ii_lt_t h20) (by decide) (by decide) ?_
            show Steps p.tables e below (s₁.setTop (mkF m 56 #[.val (.int c1)] [])) _
            refine XS.iloadN X0.here hx rfl (hb hby d2_56) rfl ?_
            show Steps p.tables e below (s₁.setTop (mkF m 57 #[.val (.int c1)] [(.int c1)])) _
            refine X0.ldcInt hx hown (mvT hZ (hw _ (List.mem_of_getElem? (i := 25) rfl))) (g := (mkF m 57 #[.val (.int c1)] [(.int c1)])) rfl (hb hby d2_57) _ ?_
            exact Steps.refl _
          by_cases h22 : c1 = (65534 : Int32)
          · have qh22 : c1.toInt = 65534 := congrArg Int32.toInt h22
            have S23 : Steps p.tables e below Ω (s₁.setTop (mkF m 69 #[.val (.int c1)] [(.int (0 : Int32))])) := by
              refine S21.trans ?_
              refine XS.icmpYes X0.here hx rfl (pc0 := 59) (pc' := 68) rfl (hb hby d2_59) rfl (XT.ii_eq_t h22) (by decide) (by decide) ?_
              show Steps p.tables e below (s₁.setTop (mkF m 68 #[.val (.int c1)] [])) _
              refine XS.iconst X0.here hx rfl (hb hby d2_68) ?_
              exact Steps.refl _
            obtain ⟨fs, hr, hrun, hended, hW, hsame⟩ := X0.leave (v := some (.int (0 : Int32))) (fun h => by rw [Bd.returns] at h; cases h)
            have hfin : Steps p.tables e below Ω (s₁.setFrames fs) := by
              refine S23.trans ?_
              exact own_retZ X0 hx Bd.returns (by decide) (hb hby d2_69) hr
            rw [hΩ] at hfin
            refine ⟨_, _, hfin, hrun, hended, _, _, rfl, ?_, ⟨_, rfl⟩, hW, hsame.mono (by decide) (by decide)⟩
            show Q2 Z c1 h0 n0 _ s₁.heap _
            rw [e0]
            exact ⟨by rw [own_ch, if_neg (by omega)], N0, rfl⟩
          · have qh22 : ¬ c1.toInt = 65534 := fun q => h22 (Int32.toInt_inj.mp q)
            have S24 : Steps p.tables e below Ω (s₁.setTop (mkF m 65 #[.val (.int c1)] [(.int (65535 : Int32)), (.int c1)])) := by
              refine S21.trans ?_
              refine XS.icmpNo X0.here hx rfl (hb hby d2_59) rfl (XT.ii_eq_f h22) ?_
              show Steps p.tables e below (s₁.setTop (mkF m 62 #[.val (.int c1)] [])) _
              refine XS.iloadN X0.here hx rfl (hb hby d2_62) rfl ?_
              show Steps p.tables e below (s₁.setTop (mkF m 63 #[.val (.int c1)] [(.int c1)])) _
              refine X0.ldcInt hx hown (mvT hZ (hw _ (List.mem_of_getElem? (i := 6) rfl))) (g := (mkF m 63 #[.val (.int c1)] [(.int c1)])) rfl (hb hby d2_63) _ ?_
              exact Steps.refl _
            by_cases h25 : c1 = (65535 : Int32)
            · have qh25 : c1.toInt = 65535 := congrArg Int32.toInt h25
              have S26 : Steps p.tables e below Ω (s₁.setTop (mkF m 69 #[.val (.int c1)] [(.int (0 : Int32))])) := by
                refine S24.trans ?_
                refine XS.icmpNo X0.here hx rfl (hb hby d2_65) rfl (XT.ii_ne_f h25) ?_
                show Steps p.tables e below (s₁.setTop (mkF m 68 #[.val (.int c1)] [])) _
                refine XS.iconst X0.here hx rfl (hb hby d2_68) ?_
                exact Steps.refl _
              obtain ⟨fs, hr, hrun, hended, hW, hsame⟩ := X0.leave (v := some (.int (0 : Int32))) (fun h => by rw [Bd.returns] at h; cases h)
              have hfin : Steps p.tables e below Ω (s₁.setFrames fs) := by
                refine S26.trans ?_
                exact own_retZ X0 hx Bd.returns (by decide) (hb hby d2_69) hr
              rw [hΩ] at hfin
              refine ⟨_, _, hfin, hrun, hended, _, _, rfl, ?_, ⟨_, rfl⟩, hW, hsame.mono (by decide) (by decide)⟩
              show Q2 Z c1 h0 n0 _ s₁.heap _
              rw [e0]
              exact ⟨by rw [own_ch, if_neg (by omega)], N0, rfl⟩
            · have qh25 : ¬ c1.toInt = 65535 := fun q => h25 (Int32.toInt_inj.mp q)
              have S27 : Steps p.tables e below Ω (s₁.setTop (mkF m 71 #[.val (.int c1)] [(.int (1 : Int32))])) := by
                refine S24.trans ?_
                refine XS.icmpYes X0.here hx rfl (pc0 := 65) (pc' := 70) rfl (hb hby d2_65) rfl (XT.ii_ne_t h25) (by decide) (by decide) ?_
                show Steps p.tables e below (s₁.setTop (mkF m 70 #[.val (.int c1)] [])) _
                refine XS.iconst X0.here hx rfl (hb hby d2_70) ?_
                exact Steps.refl _
              obtain ⟨fs, hr, hrun, hended, hW, hsame⟩ := X0.leave (v := some (.int (1 : Int32))) (fun h => by rw [Bd.returns] at h; cases h)
              have hfin : Steps p.tables e below Ω (s₁.setFrames fs) := by
                refine S27.trans ?_
                exact own_retZ X0 hx Bd.returns (by decide) (hb hby d2_71) hr
              rw [hΩ] at hfin
              refine ⟨_, _, hfin, hrun, hended, _, _, rfl, ?_, ⟨_, rfl⟩, hW, hsame.mono (by decide) (by decide)⟩
              show Q2 Z c1 h0 n0 _ s₁.heap _
              rw [e0]
              exact ⟨by rw [own_ch, if_pos (by omega)], N0, rfl⟩
        · have qh20 : ¬ c1.toInt < 55296 := fun q => h20 (Int32.lt_iff_toInt_lt.mpr q)
          have S28 : Steps p.tables e below Ω (s₁.setTop (mkF m 51 #[.val (.int c1)] [(.int (57343 : Int32)), (.int c1)])) := by
            refine S19.trans ?_
            refine XS.icmpNo X0.here hx rfl (hb hby d2_45) rfl (XT.ii_lt_f h20) ?_
            show Steps p.tables e below (s₁.setTop (mkF m 48 #[.val (.int c1)] [])) _
            refine XS.iloadN X0.here hx rfl (hb hby d2_48) rfl ?_
            show Steps p.tables e below (s₁.setTop (mkF m 49 #[.val (.int c1)] [(.int c1)])) _
            refine X0.ldcInt hx hown (mvT hZ (hw _ (List.mem_of_getElem? (i := 3) rfl))) (g := (mkF m 49 #[.val (.int c1)] [(.int c1)])) rfl (hb hby d2_49) _ ?_
            exact Steps.refl _
          by_cases h29 : (57343 : Int32) < c1
          · have qh29 : 57343 < c1.toInt := Int32.lt_iff_toInt_lt.mp h29
            have S30 : Steps p.tables e below Ω (s₁.setTop (mkF m 59 #[.val (.int c1)] [(.int (65534 : Int32)), (.int c1)])) := by
              refine S28.trans ?_
              refine XS.icmpYes X0.here hx rfl (pc0 := 51) (pc' := 56) rfl (hb hby d2_51) rfl (XT.ii_gt_t h29) (by decide) (by decide) ?_
              show Steps p.tables e below (s₁.setTop (mkF m 56 #[.val (.int c1)] [])) _
              refine XS.iloadN X0.here hx rfl (hb hby d2_56) rfl ?_
              show Steps p.tables e below (s₁.setTop (mkF m 57 #[.val (.int c1)] [(.int c1)])) _
              refine X0.ldcInt hx hown (mvT hZ (hw _ (List.mem_of_getElem? (i := 25) rfl))) (g := (mkF m 57 #[.val (.int c1)] [(.int c1)])) rfl (hb hby d2_57) _ ?_
              exact Steps.refl _
            by_cases h31 : c1 = (65534 : Int32)
            · have qh31 : c1.toInt = 65534 := congrArg Int32.toInt h31
              have S32 : Steps p.tables e below Ω (s₁.setTop (mkF m 69 #[.val (.int c1)] [(.int (0 : Int32))])) := by
                refine S30.trans ?_
                refine XS.icmpYes X0.here hx rfl (pc0 := 59) (pc' := 68) rfl (hb hby d2_59) rfl (XT.ii_eq_t h31) (by decide) (by decide) ?_
                show Steps p.tables e below (s₁.setTop (mkF m 68 #[.val (.int c1)] [])) _
                refine XS.iconst X0.here hx rfl (hb hby d2_68) ?_
                exact Steps.refl _
              obtain ⟨fs, hr, hrun, hended, hW, hsame⟩ := X0.leave (v := some (.int (0 : Int32))) (fun h => by rw [Bd.returns] at h; cases h)
              have hfin : Steps p.tables e below Ω (s₁.setFrames fs) := by
                refine S32.trans ?_
                exact own_retZ X0 hx Bd.returns (by decide) (hb hby d2_69) hr
              rw [hΩ] at hfin
              refine ⟨_, _, hfin, hrun, hended, _, _, rfl, ?_, ⟨_, rfl⟩, hW, hsame.mono (by decide) (by decide)⟩
              show Q2 Z c1 h0 n0 _ s₁.heap _
              rw [e0]
              exact ⟨by rw [own_ch, if_neg (by omega)], N0, rfl⟩
            · have qh31 : ¬ c1.toInt = 65534 := fun q => h31 (Int32.toInt_inj.mp q)
              have S33 : Steps p.tables e below Ω (s₁.setTop (mkF m 65 #[.val (.int c1)] [(.int (65535 : Int32)), (.int c1)])) := by
                refine S30.trans ?_
                refine XS.icmpNo X0.here hx rfl (hb hby d2_59) rfl (XT.ii_eq_f h31) ?_
                show Steps p.tables e below (s₁.setTop (mkF m 62 #[.val (.int c1)] [])) _
                refine XS.iloadN X0.here hx rfl (hb hby d2_62) rfl ?_
                show Steps p.tables e below (s₁.setTop (mkF m 63 #[.val (.int c1)] [(.int c1)])) _
                refine X0.ldcInt hx hown (mvT hZ (hw _ (List.mem_of_getElem? (i := 6) rfl))) (g := (mkF m 63 #[.val (.int c1)] [(.int c1)])) rfl (hb hby d2_63) _ ?_
                exact Steps.refl _
              by_cases h34 : c1 = (65535 : Int32)
              · have qh34 : c1.toInt = 65535 := congrArg Int32.toInt h34
                have S35 : Steps p.tables e below Ω (s₁.setTop (mkF m 69 #[.val (.int c1)] [(.int (0 : Int32))])) := by
                  refine S33.trans ?_
                  refine XS.icmpNo X0.here hx rfl (hb hby d2_65) rfl (XT.ii_ne_f h34) ?_
                  show Steps p.tables e below (s₁.setTop (mkF m 68 #[.val (.int c1)] [])) _
                  refine XS.iconst X0.here hx rfl (hb hby d2_68) ?_
                  exact Steps.refl _
                obtain ⟨fs, hr, hrun, hended, hW, hsame⟩ := X0.leave (v := some (.int (0 : Int32))) (fun h => by rw [Bd.returns] at h; cases h)
                have hfin : Steps p.tables e below Ω (s₁.setFrames fs) := by
                  refine S35.trans ?_
                  exact own_retZ X0 hx Bd.returns (by decide) (hb hby d2_69) hr
                rw [hΩ] at hfin
                refine ⟨_, _, hfin, hrun, hended, _, _, rfl, ?_, ⟨_, rfl⟩, hW, hsame.mono (by decide) (by decide)⟩
                show Q2 Z c1 h0 n0 _ s₁.heap _
                rw [e0]
                exact ⟨by rw [own_ch, if_neg (by omega)], N0, rfl⟩
              · have qh34 : ¬ c1.toInt = 65535 := fun q => h34 (Int32.toInt_inj.mp q)
                have S36 : Steps p.tables e below Ω (s₁.setTop (mkF m 71 #[.val (.int c1)] [(.int (1 : Int32))])) := by
                  refine S33.trans ?_
                  refine XS.icmpYes X0.here hx rfl (pc0 := 65) (pc' := 70) rfl (hb hby d2_65) rfl (XT.ii_ne_t h34) (by decide) (by decide) ?_
                  show Steps p.tables e below (s₁.setTop (mkF m 70 #[.val (.int c1)] [])) _
                  refine XS.iconst X0.here hx rfl (hb hby d2_70) ?_
                  exact Steps.refl _
                obtain ⟨fs, hr, hrun, hended, hW, hsame⟩ := X0.leave (v := some (.int (1 : Int32))) (fun h => by rw [Bd.returns] at h; cases h)
                have hfin : Steps p.tables e below Ω (s₁.setFrames fs) := by
                  refine S36.trans ?_
                  exact own_retZ X0 hx Bd.returns (by decide) (hb hby d2_71) hr
                rw [hΩ] at hfin
                refine ⟨_, _, hfin, hrun, hended, _, _, rfl, ?_, ⟨_, rfl⟩, hW, hsame.mono (by decide) (by decide)⟩
                show Q2 Z c1 h0 n0 _ s₁.heap _
                rw [e0]
                exact ⟨by rw [own_ch, if_pos (by omega)], N0, rfl⟩
          · have qh29 : ¬ 57343 < c1.toInt := fun q => h29 (Int32.lt_iff_toInt_lt.mpr q)
            have S37 : Steps p.tables e below Ω (s₁.setTop (mkF m 55 #[.val (.int c1)] [(.int (0 : Int32))])) := by
              refine S28.trans ?_
              refine XS.icmpNo X0.here hx rfl (hb hby d2_51) rfl (XT.ii_gt_f h29) ?_
              show Steps p.tables e below (s₁.setTop (mkF m 54 #[.val (.int c1)] [])) _
              refine XS.iconst X0.here hx rfl (hb hby d2_54) ?_
              exact Steps.refl _
            obtain ⟨fs, hr, hrun, hended, hW, hsame⟩ := X0.leave (v := some (.int (0 : Int32))) (fun h => by rw [Bd.returns] at h; cases h)
            have hfin : Steps p.tables e below Ω (s₁.setFrames fs) := by
              refine S37.trans ?_
              exact own_retZ X0 hx Bd.returns (by decide) (hb hby d2_55) hr
            rw [hΩ] at hfin
            refine ⟨_, _, hfin, hrun, hended, _, _, rfl, ?_, ⟨_, rfl⟩, hW, hsame.mono (by decide) (by decide)⟩
            show Q2 Z c1 h0 n0 _ s₁.heap _
            rw [e0]
            exact ⟨by rw [own_ch, if_neg (by omega)], N0, rfl⟩
theorem pd_0 : parseMethodDescriptor "(I)Z" = some ⟨[.int], some .boolean⟩ := by decide +kernel
theorem ef_rm0 (m : MethodId) (x0 : Int32) (x1 : Int32) (x2 : Int32) : entryFrame m #[(.int x0), (.int x1), (.int x2)] maxLocals = mkF m 0 #[.val (.int x0), .val (.int x1), .val (.int x2), .unset, .unset] [] := by first | (simp [entryFrame, mkF, argsToLocals, Value.category, maxLocals]; done) | rfl
def Q0 (Z : State) (p1 : Int32) (p2 : Int32) (p3 : Int32) (h0 : Heap) (n0 : Nat) (v : Option Value) (h : Heap) (L : List Loc) : Prop := v = some (.int 1) ∧ Fr n0 L
set_option maxRecDepth 65536 in
set_option maxHeartbeats 40000000 in
theorem rm0 (l : Launch) (Z : State) (a0 : Array Value) (hw : ∀ d ∈ tables_1, d.before a0 Z = true) (ws : List Jvm.Cond) (p1 : Int32) (p2 : Int32) (p3 : Int32) (h0 : Heap) (n0 : Nat) (Z0 : n0 ≤ h0.size) :
    MetFree l x (head1 (Jvm.Cond.code x code maxLocals ret :: ws) room_1) (fun aa U => aa = #[(.int p1), (.int p2), (.int p3)] ∧ Z.Warmed39 U.vm ∧ U.heap = h0) (fun _ _ _ _ _ => True) (fun _ U o U' => ∃ v L, o = .returned v ∧ Q0 Z p1 p2 p3 h0 n0 v U'.heap L ∧ FrameEnd U o U' L room_1.cells room_1.slots) := by
  refine MetFree.of_bodySF (plainFor_of_name pn_1) hisR ?_
  intro p e s m args below meth c s₁ Bd hml0 hP hK
  obtain ⟨rfl, hZ, hh⟩ := hP
  have hx := Bd.exec
  have hby := Bd.bytes
  have hml : c.maxLocals = 5 := hml0
  have hown : s.vm.findClass "com/example/distill_trees/distilltrees/io/XmlCharsIsCharPinLaw" = some m.cls := findClass_of_methodNamed Bd.named
  have hnm := (name_of_methodNamed Bd.named Bd.method).1
  have X0 : Stand p l e room_1 s m #[(.int p1), (.int p2), (.int p3)] below meth c s₁ [] 0 0 := Stand.of_body Bd
  have e0 : s₁.heap = h0 := by rw [← hh, Bd.state]; rfl
  have N0 := Fr.nil n0
  obtain ⟨Ω, hΩ⟩ : ∃ z, z = s₁.setTop (entryFrame m #[(.int p1), (.int p2), (.int p3)] maxLocals) := ⟨_, rfl⟩
  have S0 : Steps p.tables e below Ω (s₁.setTop (mkF m 0 #[.val (.int p1), .val (.int p2), .val (.int p3), .unset, .unset] [])) := by rw [hΩ]; exact castTop (ef_rm0 m p1 p2 p3) (Steps.refl _)
  have S1 : Steps p.tables e below Ω (s₁.setTop (mkF m 2 #[.val (.int p1), .val (.int p2), .val (.int p3), .unset, .unset] [(.int (16 : Int32))])) := by
    refine S0.trans ?_
    refine XS.bipush X0.here hx rfl (hb hby at_0) ?_
    exact Steps.refl _
  obtain ⟨T2, h2, k2, X2, e2, E2, A2, st2⟩ := newP X0 hx hZ (hw _ (List.mem_of_getElem? (i := 0) rfl)) e0 (g := (mkF m 2 #[.val (.int p1), .val (.int p2), .val (.int p3), .unset, .unset] [(.int (16 : Int32))])) rfl (hb hby at_2) rfl (by decide) (cap := 16) (by decide) (by decide) (by decide) (by decide)
  obtain ⟨b, s_b⟩ : ∃ z, z = h0.size := ⟨_, rfl⟩
  rw [← s_b] at A2 st2
  have g_b : n0 ≤ b := Nat.le_trans Z0 (Nat.le_of_eq s_b.symm)
  have S3 : Steps p.tables e below Ω (T2.setTop (mkF m 4 #[.val (.int p1), .val (.int p2), .val (.int p3), .unset, .unset] [(.ref b)])) := S1.trans (st2 _ (Steps.refl _))
  have V0 : LA Z h2 b .int [(.int (0 : Int32)), (.int (0 : Int32)), (.int (0 : Int32)), (.int (0 : Int32)), (.int (0 : Int32)), (.int (0 : Int32)), (.int (0 : Int32)), (.int (0 : Int32)), (.int (0 : Int32)), (.int (0 : Int32)), (.int (0 : Int32)), (.int (0 : Int32)), (.int (0 : Int32)), (.int (0 : Int32)), (.int (0 : Int32)), (.int (0 : Int32))] := LA.new A2 16 rfl
  have S4 : Steps p.tables e below Ω (T2.setTop (mkF m 7 #[.val (.int p1), .val (.int p2), .val (.int p3), .unset, .unset] [(.int (0 : Int32)), (.int (0 : Int32)), (.ref b), (.ref b)])) := by
    refine S3.trans ?_
    refine XS.dup X2.here hx rfl (hb hby at_4) rfl rfl ?_
    show Steps p.tables e below (T2.setTop (mkF m 5 #[.val (.int p1), .val (.int p2), .val (.int p3), .unset, .unset] [(.ref b), (.ref b)])) _
    refine XS.iconst X2.here hx rfl (hb hby at_5) ?_
    show Steps p.tables e below (T2.setTop (mkF m 6 #[.val (.int p1), .val (.int p2), .val (.int p3), .unset, .unset] [(.int (0 : Int32)), (.ref b), (.ref b)])) _
    refine XS.iconst X2.here hx rfl (hb hby at_6) ?_
    exact Steps.refl _
  obtain ⟨T5, h5, X5, e5, W5, V5', st5⟩ := own_stI X2 hx hZ e2 V0 (j := (0 : Int32)) (i := 0) rfl ⟨by decide, Nat.le_of_ble_eq_true rfl⟩ (g := (mkF m 7 #[.val (.int p1), .val (.int p2), .val (.int p3), .unset, .unset] [(.int (0 : Int32)), (.int (0 : Int32)), (.ref b), (.ref b)])) rfl rfl (hb hby at_7)
  have V5 : LA Z h5 b .int [(.int (0 : Int32)), (.int (0 : Int32)), (.int (0 : Int32)), (.int (0 : Int32)), (.int (0 : Int32)), (.int (0 : Int32)), (.int (0 : Int32)), (.int (0 : Int32)), (.int (0 : Int32)), (.int (0 : Int32)), (.int (0 : Int32)), (.int (0 : Int32)), (.int (0 : Int32)), (.int (0 : Int32)), (.int (0 : Int32)), (.int (0 : Int32))] := V5'
  have S6 : Steps p.tables e below Ω (T5.setTop (mkF m 8 #[.val (.int p1), .val (.int p2), .val (.int p3), .unset, .unset] [(.ref b)])) := S4.trans (st5 _ (Steps.refl _))
  have N5 := Fr.snoc X5 N0 g_b
  have S7 : Steps p.tables e below Ω (T5.setTop (mkF m 12 #[.val (.int p1), .val (.int p2), .val (.int p3), .unset, .unset] [(.int (9 : Int32)), (.int (1 : Int32)), (.ref b), (.ref b)])) := by
    refine S6.trans ?_
    refine XS.dup X5.here hx rfl (hb hby at_8) rfl rfl ?_
    show Steps p.tables e below (T5.setTop (mkF m 9 #[.val (.int p1), .val (.int p2), .val (.int p3), .unset, .unset] [(.ref b), (.ref b)])) _
    refine XS.iconst X5.here hx rfl (hb hby at_9) ?_
    show Steps p.tables e below (T5.setTop (mkF m 10 #[.val (.int p1), .val (.int p2), .val (.int p3), .unset, .unset] [(.int (1 : Int32)), (.ref b), (.ref b)])) _
    refine XS.bipush X5.here hx rfl (hb hby at_10) ?_
    exact Steps.refl _
  obtain ⟨T8, h8, X8, e8, W8, V8', st8⟩ := own_stI X5 hx hZ e5 V5 (j := (1 : Int32)) (i := 1) rfl ⟨by decide, Nat.le_of_ble_eq_true rfl⟩ (g := (mkF m 12 #[.val (.int p1), .val (.int p2), .val (.int p3), .unset, .unset] [(.int (9 : Int32)), (.int (1 : Int32)), (.ref b), (.ref b)])) rfl rfl (hb hby at_12)
  have V8 : LA Z h8 b .int [(.int (0 : Int32)), (.int (9 : Int32)), (.int (0 : Int32)), (.int (0 : Int32)), (.int (0 : Int32)), (.int (0 : Int32)), (.int (0 : Int32)), (.int (0 : Int32)), (.int (0 : Int32)), (.int (0 : Int32)), (.int (0 : Int32)), (.int (0 : Int32)), (.int (0 : Int32)), (.int (0 : Int32)), (.int (0 : Int32)), (.int (0 : Int32))] := V8'
  have S9 : Steps p.tables e below Ω (T8.setTop (mkF m 13 #[.val (.int p1), .val (.int p2), .val (.int p3), .unset, .unset] [(.ref b)])) := S7.trans (st8 _ (Steps.refl _))
  have N8 := Fr.snoc X8 N5 g_b
  have S10 : Steps p.tables e below Ω (T8.setTop (mkF m 17 #[.val (.int p1), .val (.int p2), .val (.int p3), .unset, .unset] [(.int (10 : Int32)), (.int (2 : Int32)), (.ref b), (.ref b)])) := by
    refine S9.trans ?_
    refine XS.dup X8.here hx rfl (hb hby at_13) rfl rfl ?_
    show Steps p.tables e below (T8.setTop (mkF m 14 #[.val (.int p1), .val (.int p2), .val (.int p3), .unset, .unset] [(.ref b), (.ref b)])) _
    refine XS.iconst X8.here hx rfl (hb hby at_14) ?_
    show Steps p.tables e below (T8.setTop (mkF m 15 #[.val (.int p1), .val (.int p2), .val (.int p3), .unset, .unset] [(.int (2 : Int32)), (.ref b), (.ref b)])) _
    refine XS.bipush X8.here hx rfl (hb hby at_15) ?_
    exact Steps.refl _
  obtain ⟨T11, h11, X11, e11, W11, V11', st11⟩ := own_stI X8 hx hZ e8 V8 (j := (2 : Int32)) (i := 2) rfl ⟨by decide, Nat.le_of_ble_eq_true rfl⟩ (g := (mkF m 17 #[.val (.int p1), .val (.int p2), .val (.int p3), .unset, .unset] [(.int (10 : Int32)), (.int (2 : Int32)), (.ref b), (.ref b)])) rfl rfl (hb hby at_17)
  have V11 : LA Z h11 b .int [(.int (0 : Int32)), (.int (9 : Int32)), (.int (10 : Int32)), (.int (0 : Int32)), (.int (0 : Int32)), (.int (0 : Int32)), (.int (0 : Int32)), (.int (0 : Int32)), (.int (0 : Int32)), (.int (0 : Int32)), (.int (0 : Int32)), (.int (0 : Int32)), (.int (0 : Int32)), (.int (0 : Int32)), (.int (0 : Int32)), (.int (0 : Int32))] := V11'
  have S12 : Steps p.tables e below Ω (T11.setTop (mkF m 18 #[.val (.int p1), .val (.int p2), .val (.int p3), .unset, .unset] [(.ref b)])) := S10.trans (st11 _ (Steps.refl _))
  have N11 := Fr.snoc X11 N8 g_b
  have S13 : Steps p.tables e below Ω (T11.setTop (mkF m 22 #[.val (.int p1), .val (.int p2), .val (.int p3), .unset, .unset] [(.int (13 : Int32)), (.int (3 : Int32)), (.ref b), (.ref b)])) := by
    refine S12.trans ?_
    refine XS.dup X11.here hx rfl (hb hby at_18) rfl rfl ?_
    show Steps p.tables e below (T11.setTop (mkF m 19 #[.val (.int p1), .val (.int p2), .val (.int p3), .unset, .unset] [(.ref b), (.ref b)])) _
    refine XS.iconst X11.here hx rfl (hb hby at_19) ?_
    show Steps p.tables e below (T11.setTop (mkF m 20 #[.val (.int p1), .val (.int p2), .val (.int p3), .unset, .unset] [(.int (3 : Int32)), (.ref b), (.ref b)])) _
    refine XS.bipush X11.here hx rfl (hb hby at_20) ?_
    exact Steps.refl _
  obtain ⟨T14, h14, X14, e14, W14, V14', st14⟩ := own_stI X11 hx hZ e11 V11 (j := (3 : Int32)) (i := 3) rfl ⟨by decide, Nat.le_of_ble_eq_true rfl⟩ (g := (mkF m 22 #[.val (.int p1), .val (.int p2), .val (.int p3), .unset, .unset] [(.int (13 : Int32)), (.int (3 : Int32)), (.ref b), (.ref b)])) rfl rfl (hb hby at_22)
  have V14 : LA Z h14 b .int [(.int (0 : Int32)), (.int (9 : Int32)), (.int (10 : Int32)), (.int (13 : Int32)), (.int (0 : Int32)), (.int (0 : Int32)), (.int (0 : Int32)), (.int (0 : Int32)), (.int (0 : Int32)), (.int (0 : Int32)), (.int (0 : Int32)), (.int (0 : Int32)), (.int (0 : Int32)), (.int (0 : Int32)), (.int (0 : Int32)), (.int (0 : Int32))] := V14'
  have S15 : Steps p.tables e below Ω (T14.setTop (mkF m 23 #[.val (.int p1), .val (.int p2), .val (.int p3), .unset, .unset] [(.ref b)])) := S13.trans (st14 _ (Steps.refl _))
  have N14 := Fr.snoc X14 N11 g_b
  have S16 : Steps p.tables e below Ω (T14.setTop (mkF m 27 #[.val (.int p1), .val (.int p2), .val (.int p3), .unset, .unset] [(.int (32 : Int32)), (.int (4 : Int32)), (.ref b), (.ref b)])) := by
    refine S15.trans ?_
    refine XS.dup X14.here hx rfl (hb hby at_23) rfl rfl ?_
    show Steps p.tables e below (T14.setTop (mkF m 24 #[.val (.int p1), .val (.int p2), .val (.int p3), .unset, .unset] [(.ref b), (.ref b)])) _
    refine XS.iconst X14.here hx rfl (hb hby at_24) ?_
    show Steps p.tables e below (T14.setTop (mkF m 25 #[.val (.int p1), .val (.int p2), .val (.int p3), .unset, .unset] [(.int (4 : Int32)), (.ref b), (.ref b)])) _
    refine XS.bipush X14.here hx rfl (hb hby at_25) ?_
    exact Steps.refl _
  obtain ⟨T17, h17, X17, e17, W17, V17', st17⟩ := own_stI X14 hx hZ e14 V14 (j := (4 : Int32)) (i := 4) rfl ⟨by decide, Nat.le_of_ble_eq_true rfl⟩ (g := (mkF m 27 #[.val (.int p1), .val (.int p2), .val (.int p3), .unset, .unset] [(.int (32 : Int32)), (.int (4 : Int32)), (.ref b), (.ref b)])) rfl rfl (hb hby at_27)
  have V17 : LA Z h17 b .int [(.int (0 : Int32)), (.int (9 : Int32)), (.int (10 : Int32)), (.int (13 : Int32)), (.int (32 : Int32)), (.int (0 : Int32)), (.int (0 : Int32)), (.int (0 : Int32)), (.int (0 : Int32)), (.int (0 : Int32)), (.int (0 : Int32)), (.int (0 : Int32)), (.int (0 : Int32)), (.int (0 : Int32)), (.int (0 : Int32)), (.int (0 : Int32))] := V17'
  have S18 : Steps p.tables e below Ω (T17.setTop (mkF m 28 #[.val (.int p1), .val (.int p2), .val (.int p3), .unset, .unset] [(.ref b)])) := S16.trans (st17 _ (Steps.refl _))
  have N17 := Fr.snoc X17 N14 g_b
  have S19 : Steps p.tables e below Ω (T17.setTop (mkF m 32 #[.val (.int p1), .val (.int p2), .val (.int p3), .unset, .unset] [(.int (55295 : Int32)), (.int (5 : Int32)), (.ref b), (.ref b)])) := by
    refine S18.trans ?_
    refine XS.dup X17.here hx rfl (hb hby at_28) rfl rfl ?_
    show Steps p.tables e below (T17.setTop (mkF m 29 #[.val (.int p1), .val (.int p2), .val (.int p3), .unset, .unset] [(.ref b), (.ref b)])) _
    refine XS.iconst X17.here hx rfl (hb hby at_29) ?_
    show Steps p.tables e below (T17.setTop (mkF m 30 #[.val (.int p1), .val (.int p2), .val (.int p3), .unset, .unset] [(.int (5 : Int32)), (.ref b), (.ref b)])) _
    refine X17.ldcInt hx hown (mvT hZ (hw _ (List.mem_of_getElem? (i := 1) rfl))) (g := (mkF m 30 #[.val (.int p1), .val (.int p2), .val (.int p3), .unset, .unset] [(.int (5 : Int32)), (.ref b), (.ref b)])) rfl (hb hby at_30) _ ?_
    exact Steps.refl _
  obtain ⟨T20, h20, X20, e20, W20, V20', st20⟩ := own_stI X17 hx hZ e17 V17 (j := (5 : Int32)) (i := 5) rfl ⟨by decide, Nat.le_of_ble_eq_true rfl⟩ (g := (mkF m 32 #[.val (.int p1), .val (.int p2), .val (.int p3), .unset, .unset] [(.int (55295 : Int32)), (.int (5 : Int32)), (.ref b), (.ref b)])) rfl rfl (hb hby at_32)
  have V20 : LA Z h20 b .int [(.int (0 : Int32)), (.int (9 : Int32)), (.int (10 : Int32)), (.int (13 : Int32)), (.int (32 : Int32)), (.int (55295 : Int32)), (.int (0 : Int32)), (.int (0 : Int32)), (.int (0 : Int32)), (.int (0 : Int32)), (.int (0 : Int32)), (.int (0 : Int32)), (.int (0 : Int32)), (.int (0 : Int32)), (.int (0 : Int32)), (.int (0 : Int32))] := V20'
  have S21 : Steps p.tables e below Ω (T20.setTop (mkF m 33 #[.val (.int p1), .val (.int p2), .val (.int p3), .unset, .unset] [(.ref b)])) := S19.trans (st20 _ (Steps.refl _))
  have N20 := Fr.snoc X20 N17 g_b
  have S22 : Steps p.tables e below Ω (T20.setTop (mkF m 38 #[.val (.int p1), .val (.int p2), .val (.int p3), .unset, .unset] [(.int (55296 : Int32)), (.int (6 : Int32)), (.ref b), (.ref b)])) := by
    refine S21.trans ?_
    refine XS.dup X20.here hx rfl (hb hby at_33) rfl rfl ?_
    show Steps p.tables e below (T20.setTop (mkF m 34 #[.val (.int p1), .val (.int p2), .val (.int p3), .unset, .unset] [(.ref b), (.ref b)])) _
    refine XS.bipush X20.here hx rfl (hb hby at_34) ?_
    show Steps p.tables e below (T20.setTop (mkF m 36 #[.val (.int p1), .val (.int p2), .val (.int p3), .unset, .unset] [(.int (6 : Int32)), (.ref b), (.ref b)])) _
    refine X20.ldcInt hx hown (mvT hZ (hw _ (List.mem_of_getElem? (i := 2) rfl))) (g := (mkF m 36 #[.val (.int p1), .val (.int p2), .val (.int p3), .unset, .unset] [(.int (6 : Int32)), (.ref b), (.ref b)])) rfl (hb hby at_36) _ ?_
    exact Steps.refl _
  obtain ⟨T23, h23, X23, e23, W23, V23', st23⟩ := own_stI X20 hx hZ e20 V20 (j := (6 : Int32)) (i := 6) rfl ⟨by decide, Nat.le_of_ble_eq_true rfl⟩ (g := (mkF m 38 #[.val (.int p1), .val (.int p2), .val (.int p3), .unset, .unset] [(.int (55296 : Int32)), (.int (6 : Int32)), (.ref b), (.ref b)])) rfl rfl (hb hby at_38)
  have V23 : LA Z h23 b .int [(.int (0 : Int32)), (.int (9 : Int32)), (.int (10 : Int32)), (.int (13 : Int32)), (.int (32 : Int32)), (.int (55295 : Int32)), (.int (55296 : Int32)), (.int (0 : Int32)), (.int (0 : Int32)), (.int (0 : Int32)), (.int (0 : Int32)), (.int (0 : Int32)), (.int (0 : Int32)), (.int (0 : Int32)), (.int (0 : Int32)), (.int (0 : Int32))] := V23'
  have S24 : Steps p.tables e below Ω (T23.setTop (mkF m 39 #[.val (.int p1), .val (.int p2), .val (.int p3), .unset, .unset] [(.ref b)])) := S22.trans (st23 _ (Steps.refl _))
  have N23 := Fr.snoc X23 N20 g_b
  have S25 : Steps p.tables e below Ω (T23.setTop (mkF m 44 #[.val (.int p1), .val (.int p2), .val (.int p3), .unset, .unset] [(.int (57343 : Int32)), (.int (7 : Int32)), (.ref b), (.ref b)])) := by
    refine S24.trans ?_
    refine XS.dup X23.here hx rfl (hb hby at_39) rfl rfl ?_
    show Steps p.tables e below (T23.setTop (mkF m 40 #[.val (.int p1), .val (.int p2), .val (.int p3), .unset, .unset] [(.ref b), (.ref b)])) _
    refine XS.bipush X23.here hx rfl (hb hby at_40) ?_
    show Steps p.tables e below (T23.setTop (mkF m 42 #[.val (.int p1), .val (.int p2), .val (.int p3), .unset, .unset] [(.int (7 : Int32)), (.ref b), (.ref b)])) _
    refine X23.ldcInt hx hown (mvT hZ (hw _ (List.mem_of_getElem? (i := 3) rfl))) (g := (mkF m 42 #[.val (.int p1), .val (.int p2), .val (.int p3), .unset, .unset] [(.int (7 : Int32)), (.ref b), (.ref b)])) rfl (hb hby at_42) _ ?_
    exact Steps.refl _
  obtain ⟨T26, h26, X26, e26, W26, V26', st26⟩ := own_stI X23 hx hZ e23 V23 (j := (7 : Int32)) (i := 7) rfl ⟨by decide, Nat.le_of_ble_eq_true rfl⟩ (g := (mkF m 44 #[.val (.int p1), .val (.int p2), .val (.int p3), .unset, .unset] [(.int (57343 : Int32)), (.int (7 : Int32)), (.ref b), (.ref b)])) rfl rfl (hb hby at_44)
  have V26 : LA Z h26 b .int [(.int (0 : Int32)), (.int (9 : Int32)), (.int (10 : Int32)), (.int (13 : Int32)), (.int (32 : Int32)), (.int (55295 : Int32)), (.int (55296 : Int32)), (.int (57343 : Int32)), (.int (0 : Int32)), (.int (0 : Int32)), (.int (0 : Int32)), (.int (0 : Int32)), (.int (0 : Int32)), (.int (0 : Int32)), (.int (0 : Int32)), (.int (0 : Int32))] := V26'
  have S27 : Steps p.tables e below Ω (T26.setTop (mkF m 45 #[.val (.int p1), .val (.int p2), .val (.int p3), .unset, .unset] [(.ref b)])) := S25.trans (st26 _ (Steps.refl _))
  have N26 := Fr.snoc X26 N23 g_b
  have S28 : Steps p.tables e below Ω (T26.setTop (mkF m 50 #[.val (.int p1), .val (.int p2), .val (.int p3), .unset, .unset] [(.int (57344 : Int32)), (.int (8 : Int32)), (.ref b), (.ref b)])) := by
    refine S27.trans ?_
    refine XS.dup X26.here hx rfl (hb hby at_45) rfl rfl ?_
    show Steps p.tables e below (T26.setTop (mkF m 46 #[.val (.int p1), .val (.int p2), .val (.int p3), .unset, .unset] [(.ref b), (.ref b)])) _
    refine XS.bipush X26.here hx rfl (hb hby at_46) ?_
    show Steps p.tables e below (T26.setTop (mkF m 48 #[.val (.int p1), .val (.int p2), .val (.int p3), .unset, .unset] [(.int (8 : Int32)), (.ref b), (.ref b)])) _
    refine X26.ldcInt hx hown (mvT hZ (hw _ (List.mem_of_getElem? (i := 4) rfl))) (g := (mkF m 48 #[.val (.int p1), .val (.int p2), .val (.int p3), .unset, .unset] [(.int (8 : Int32)), (.ref b), (.ref b)])) rfl (hb hby at_48) _ ?_
    exact Steps.refl _
  obtain ⟨T29, h29, X29, e29, W29, V29', st29⟩ := own_stI X26 hx hZ e26 V26 (j := (8 : Int32)) (i := 8) rfl ⟨by decide, Nat.le_of_ble_eq_true rfl⟩ (g := (mkF m 50 #[.val (.int p1), .val (.int p2), .val (.int p3), .unset, .unset] [(.int (57344 : Int32)), (.int (8 : Int32)), (.ref b), (.ref b)])) rfl rfl (hb hby at_50)
  have V29 : LA Z h29 b .int [(.int (0 : Int32)), (.int (9 : Int32)), (.int (10 : Int32)), (.int (13 : Int32)), (.int (32 : Int32)), (.int (55295 : Int32)), (.int (55296 : Int32)), (.int (57343 : Int32)), (.int (57344 : Int32)), (.int (0 : Int32)), (.int (0 : Int32)), (.int (0 : Int32)), (.int (0 : Int32)), (.int (0 : Int32)), (.int (0 : Int32)), (.int (0 : Int32))] := V29'
  have S30 : Steps p.tables e below Ω (T29.setTop (mkF m 51 #[.val (.int p1), .val (.int p2), .val (.int p3), .unset, .unset] [(.ref b)])) := S28.trans (st29 _ (Steps.refl _))
  have N29 := Fr.snoc X29 N26 g_b
  have S31 : Steps p.tables e below Ω (T29.setTop (mkF m 56 #[.val (.int p1), .val (.int p2), .val (.int p3), .unset, .unset] [(.int (65533 : Int32)), (.int (9 : Int32)), (.ref b), (.ref b)])) := by
    refine S30.trans ?_
    refine XS.dup X29.here hx rfl (hb hby at_51) rfl rfl ?_
    show Steps p.tables e below (T29.setTop (mkF m 52 #[.val (.int p1), .val (.int p2), .val (.int p3), .unset, .unset] [(.ref b), (.ref b)])) _
    refine XS.bipush X29.here hx rfl (hb hby at_52) ?_
    show Steps p.tables e below (T29.setTop (mkF m 54 #[.val (.int p1), .val (.int p2), .val (.int p3), .unset, .unset] [(.int (9 : Int32)), (.ref b), (.ref b)])) _
    refine X29.ldcInt hx hown (mvT hZ (hw _ (List.mem_of_getElem? (i := 5) rfl))) (g := (mkF m 54 #[.val (.int p1), .val (.int p2), .val (.int p3), .unset, .unset] [(.int (9 : Int32)), (.ref b), (.ref b)])) rfl (hb hby at_54) _ ?_
    exact Steps.refl _
  obtain ⟨T32, h32, X32, e32, W32, V32', st32⟩ := own_stI X29 hx hZ e29 V29 (j := (9 : Int32)) (i := 9) rfl ⟨by decide, Nat.le_of_ble_eq_true rfl⟩ (g := (mkF m 56 #[.val (.int p1), .val (.int p2), .val (.int p3), .unset, .unset] [(.int (65533 : Int32)), (.int (9 : Int32)), (.ref b), (.ref b)])) rfl rfl (hb hby at_56)
  have V32 : LA Z h32 b .int [(.int (0 : Int32)), (.int (9 : Int32)), (.int (10 : Int32)), (.int (13 : Int32)), (.int (32 : Int32)), (.int (55295 : Int32)), (.int (55296 : Int32)), (.int (57343 : Int32)), (.int (57344 : Int32)), (.int (65533 : Int32)), (.int (0 : Int32)), (.int (0 : Int32)), (.int (0 : Int32)), (.int (0 : Int32)), (.int (0 : Int32)), (.int (0 : Int32))] := V32'
  have S33 : Steps p.tables e below Ω (T32.setTop (mkF m 57 #[.val (.int p1), .val (.int p2), .val (.int p3), .unset, .unset] [(.ref b)])) := S31.trans (st32 _ (Steps.refl _))
  have N32 := Fr.snoc X32 N29 g_b
  have S34 : Steps p.tables e below Ω (T32.setTop (mkF m 62 #[.val (.int p1), .val (.int p2), .val (.int p3), .unset, .unset] [(.int (65535 : Int32)), (.int (10 : Int32)), (.ref b), (.ref b)])) := by
    refine S33.trans ?_
    refine XS.dup X32.here hx rfl (hb hby at_57) rfl rfl ?_
    show Steps p.tables e below (T32.setTop (mkF m 58 #[.val (.int p1), .val (.int p2), .val (.int p3), .unset, .unset] [(.ref b), (.ref b)])) _
    refine XS.bipush X32.here hx rfl (hb hby at_58) ?_
    show Steps p.tables e below (T32.setTop (mkF m 60 #[.val (.int p1), .val (.int p2), .val (.int p3), .unset, .unset] [(.int (10 : Int32)), (.ref b), (.ref b)])) _
    refine X32.ldcInt hx hown (mvT hZ (hw _ (List.mem_of_getElem? (i := 6) rfl))) (g := (mkF m 60 #[.val (.int p1), .val (.int p2), .val (.int p3), .unset, .unset] [(.int (10 : Int32)), (.ref b), (.ref b)])) rfl (hb hby at_60) _ ?_
    exact Steps.refl _
  obtain ⟨T35, h35, X35, e35, W35, V35', st35⟩ := own_stI X32 hx hZ e32 V32 (j := (10 : Int32)) (i := 10) rfl ⟨by decide, Nat.le_of_ble_eq_true rfl⟩ (g := (mkF m 62 #[.val (.int p1), .val (.int p2), .val (.int p3), .unset, .unset] [(.int (65535 : Int32)), (.int (10 : Int32)), (.ref b), (.ref b)])) rfl rfl (hb hby at_62)
  have V35 : LA Z h35 b .int [(.int (0 : Int32)), (.int (9 : Int32)), (.int (10 : Int32)), (.int (13 : Int32)), (.int (32 : Int32)), (.int (55295 : Int32)), (.int (55296 : Int32)), (.int (57343 : Int32)), (.int (57344 : Int32)), (.int (65533 : Int32)), (.int (65535 : Int32)), (.int (0 : Int32)), (.int (0 : Int32)), (.int (0 : Int32)), (.int (0 : Int32)), (.int (0 : Int32))] := V35'
  have S36 : Steps p.tables e below Ω (T35.setTop (mkF m 63 #[.val (.int p1), .val (.int p2), .val (.int p3), .unset, .unset] [(.ref b)])) := S34.trans (st35 _ (Steps.refl _))
  have N35 := Fr.snoc X35 N32 g_b
  have S37 : Steps p.tables e below Ω (T35.setTop (mkF m 68 #[.val (.int p1), .val (.int p2), .val (.int p3), .unset, .unset] [(.int (65536 : Int32)), (.int (11 : Int32)), (.ref b), (.ref b)])) := by
    refine S36.trans ?_
    refine XS.dup X35.here hx rfl (hb hby at_63) rfl rfl ?_
    show Steps p.tables e below (T35.setTop (mkF m 64 #[.val (.int p1), .val (.int p2), .val (.int p3), .unset, .unset] [(.ref b), (.ref b)])) _
    refine XS.bipush X35.here hx rfl (hb hby at_64) ?_
    show Steps p.tables e below (T35.setTop (mkF m 66 #[.val (.int p1), .val (.int p2), .val (.int p3), .unset, .unset] [(.int (11 : Int32)), (.ref b), (.ref b)])) _
    refine X35.ldcInt hx hown (mvT hZ (hw _ (List.mem_of_getElem? (i := 7) rfl))) (g := (mkF m 66 #[.val (.int p1), .val (.int p2), .val (.int p3), .unset, .unset] [(.int (11 : Int32)), (.ref b), (.ref b)])) rfl (hb hby at_66) _ ?_
    exact Steps.refl _
  obtain ⟨T38, h38, X38, e38, W38, V38', st38⟩ := own_stI X35 hx hZ e35 V35 (j := (11 : Int32)) (i := 11) rfl ⟨by decide, Nat.le_of_ble_eq_true rfl⟩ (g := (mkF m 68 #[.val (.int p1), .val (.int p2), .val (.int p3), .unset, .unset] [(.int (65536 : Int32)), (.int (11 : Int32)), (.ref b), (.ref b)])) rfl rfl (hb hby at_68)
  have V38 : LA Z h38 b .int [(.int (0 : Int32)), (.int (9 : Int32)), (.int (10 : Int32)), (.int (13 : Int32)), (.int (32 : Int32)), (.int (55295 : Int32)), (.int (55296 : Int32)), (.int (57343 : Int32)), (.int (57344 : Int32)), (.int (65533 : Int32)), (.int (65535 : Int32)), (.int (65536 : Int32)), (.int (0 : Int32)), (.int (0 : Int32)), (.int (0 : Int32)), (.int (0 : Int32))] := V38'
  have S39 : Steps p.tables e below Ω (T38.setTop (mkF m 69 #[.val (.int p1), .val (.int p2), .val (.int p3), .unset, .unset] [(.ref b)])) := S37.trans (st38 _ (Steps.refl _))
  have N38 := Fr.snoc X38 N35 g_b
  have S40 : Steps p.tables e below Ω (T38.setTop (mkF m 74 #[.val (.int p1), .val (.int p2), .val (.int p3), .unset, .unset] [(.int (1114111 : Int32)), (.int (12 : Int32)), (.ref b), (.ref b)])) := by
    refine S39.trans ?_
    refine XS.dup X38.here hx rfl (hb hby at_69) rfl rfl ?_
    show Steps p.tables e below (T38.setTop (mkF m 70 #[.val (.int p1), .val (.int p2), .val (.int p3), .unset, .unset] [(.ref b), (.ref b)])) _
    refine XS.bipush X38.here hx rfl (hb hby at_70) ?_
    show Steps p.tables e below (T38.setTop (mkF m 72 #[.val (.int p1), .val (.int p2), .val (.int p3), .unset, .unset] [(.int (12 : Int32)), (.ref b), (.ref b)])) _
    refine X38.ldcInt hx hown (mvT hZ (hw _ (List.mem_of_getElem? (i := 8) rfl))) (g := (mkF m 72 #[.val (.int p1), .val (.int p2), .val (.int p3), .unset, .unset] [(.int (12 : Int32)), (.ref b), (.ref b)])) rfl (hb hby at_72) _ ?_
    exact Steps.refl _
  obtain ⟨T41, h41, X41, e41, W41, V41', st41⟩ := own_stI X38 hx hZ e38 V38 (j := (12 : Int32)) (i := 12) rfl ⟨by decide, Nat.le_of_ble_eq_true rfl⟩ (g := (mkF m 74 #[.val (.int p1), .val (.int p2), .val (.int p3), .unset, .unset] [(.int (1114111 : Int32)), (.int (12 : Int32)), (.ref b), (.ref b)])) rfl rfl (hb hby at_74)
  have V41 : LA Z h41 b .int [(.int (0 : Int32)), (.int (9 : Int32)), (.int (10 : Int32)), (.int (13 : Int32)), (.int (32 : Int32)), (.int (55295 : Int32)), (.int (55296 : Int32)), (.int (57343 : Int32)), (.int (57344 : Int32)), (.int (65533 : Int32)), (.int (65535 : Int32)), (.int (65536 : Int32)), (.int (1114111 : Int32)), (.int (0 : Int32)), (.int (0 : Int32)), (.int (0 : Int32))] := V41'
  have S42 : Steps p.tables e below Ω (T41.setTop (mkF m 75 #[.val (.int p1), .val (.int p2), .val (.int p3), .unset, .unset] [(.ref b)])) := S40.trans (st41 _ (Steps.refl _))
  have N41 := Fr.snoc X41 N38 g_b
  have S43 : Steps p.tables e below Ω (T41.setTop (mkF m 80 #[.val (.int p1), .val (.int p2), .val (.int p3), .unset, .unset] [(.int (1114112 : Int32)), (.int (13 : Int32)), (.ref b), (.ref b)])) := by
    refine S42.trans ?_
    refine XS.dup X41.here hx rfl (hb hby at_75) rfl rfl ?_
    show Steps p.tables e below (T41.setTop (mkF m 76 #[.val (.int p1), .val (.int p2), .val (.int p3), .unset, .unset] [(.ref b), (.ref b)])) _
    refine XS.bipush X41.here hx rfl (hb hby at_76) ?_
    show Steps p.tables e below (T41.setTop (mkF m 78 #[.val (.int p1), .val (.int p2), .val (.int p3), .unset, .unset] [(.int (13 : Int32)), (.ref b), (.ref b)])) _
    refine X41.ldcInt hx hown (mvT hZ (hw _ (List.mem_of_getElem? (i := 9) rfl))) (g := (mkF m 78 #[.val (.int p1), .val (.int p2), .val (.int p3), .unset, .unset] [(.int (13 : Int32)), (.ref b), (.ref b)])) rfl (hb hby at_78) _ ?_
    exact Steps.refl _
  obtain ⟨T44, h44, X44, e44, W44, V44', st44⟩ := own_stI X41 hx hZ e41 V41 (j := (13 : Int32)) (i := 13) rfl ⟨by decide, Nat.le_of_ble_eq_true rfl⟩ (g := (mkF m 80 #[.val (.int p1), .val (.int p2), .val (.int p3), .unset, .unset] [(.int (1114112 : Int32)), (.int (13 : Int32)), (.ref b), (.ref b)])) rfl rfl (hb hby at_80)
  have V44 : LA Z h44 b .int [(.int (0 : Int32)), (.int (9 : Int32)), (.int (10 : Int32)), (.int (13 : Int32)), (.int (32 : Int32)), (.int (55295 : Int32)), (.int (55296 : Int32)), (.int (57343 : Int32)), (.int (57344 : Int32)), (.int (65533 : Int32)), (.int (65535 : Int32)), (.int (65536 : Int32)), (.int (1114111 : Int32)), (.int (1114112 : Int32)), (.int (0 : Int32)), (.int (0 : Int32))] := V44'
  have S45 : Steps p.tables e below Ω (T44.setTop (mkF m 81 #[.val (.int p1), .val (.int p2), .val (.int p3), .unset, .unset] [(.ref b)])) := S43.trans (st44 _ (Steps.refl _))
  have N44 := Fr.snoc X44 N41 g_b
  have S46 : Steps p.tables e below Ω (T44.setTop (mkF m 86 #[.val (.int p1), .val (.int p2), .val (.int p3), .unset, .unset] [(.int (-2147483648 : Int32)), (.int (14 : Int32)), (.ref b), (.ref b)])) := by
    refine S45.trans ?_
    refine XS.dup X44.here hx rfl (hb hby at_81) rfl rfl ?_
    show Steps p.tables e below (T44.setTop (mkF m 82 #[.val (.int p1), .val (.int p2), .val (.int p3), .unset, .unset] [(.ref b), (.ref b)])) _
    refine XS.bipush X44.here hx rfl (hb hby at_82) ?_
    show Steps p.tables e below (T44.setTop (mkF m 84 #[.val (.int p1), .val (.int p2), .val (.int p3), .unset, .unset] [(.int (14 : Int32)), (.ref b), (.ref b)])) _
    refine X44.ldcInt hx hown (mvT hZ (hw _ (List.mem_of_getElem? (i := 10) rfl))) (g := (mkF m 84 #[.val (.int p1), .val (.int p2), .val (.int p3), .unset, .unset] [(.int (14 : Int32)), (.ref b), (.ref b)])) rfl (hb hby at_84) _ ?_
    exact Steps.refl _
  obtain ⟨T47, h47, X47, e47, W47, V47', st47⟩ := own_stI X44 hx hZ e44 V44 (j := (14 : Int32)) (i := 14) rfl ⟨by decide, Nat.le_of_ble_eq_true rfl⟩ (g := (mkF m 86 #[.val (.int p1), .val (.int p2), .val (.int p3), .unset, .unset] [(.int (-2147483648 : Int32)), (.int (14 : Int32)), (.ref b), (.ref b)])) rfl rfl (hb hby at_86)
  have V47 : LA Z h47 b .int [(.int (0 : Int32)), (.int (9 : Int32)), (.int (10 : Int32)), (.int (13 : Int32)), (.int (32 : Int32)), (.int (55295 : Int32)), (.int (55296 : Int32)), (.int (57343 : Int32)), (.int (57344 : Int32)), (.int (65533 : Int32)), (.int (65535 : Int32)), (.int (65536 : Int32)), (.int (1114111 : Int32)), (.int (1114112 : Int32)), (.int (-2147483648 : Int32)), (.int (0 : Int32))] := V47'
  have S48 : Steps p.tables e below Ω (T47.setTop (mkF m 87 #[.val (.int p1), .val (.int p2), .val (.int p3), .unset, .unset] [(.ref b)])) := S46.trans (st47 _ (Steps.refl _))
  have N47 := Fr.snoc X47 N44 g_b
  have S49 : Steps p.tables e below Ω (T47.setTop (mkF m 92 #[.val (.int p1), .val (.int p2), .val (.int p3), .unset, .unset] [(.int (2147483647 : Int32)), (.int (15 : Int32)), (.ref b), (.ref b)])) := by
    refine S48.trans ?_
    refine XS.dup X47.here hx rfl (hb hby at_87) rfl rfl ?_
    show Steps p.tables e below (T47.setTop (mkF m 88 #[.val (.int p1), .val (.int p2), .val (.int p3), .unset, .unset] [(.ref b), (.ref b)])) _
    refine XS.bipush X47.here hx rfl (hb hby at_88) ?_
    show Steps p.tables e below (T47.setTop (mkF m 90 #[.val (.int p1), .val (.int p2), .val (.int p3), .unset, .unset] [(.int (15 : Int32)), (.ref b), (.ref b)])) _
    refine X47.ldcInt hx hown (mvT hZ (hw _ (List.mem_of_getElem? (i := 11) rfl))) (g := (mkF m 90 #[.val (.int p1), .val (.int p2), .val (.int p3), .unset, .unset] [(.int (15 : Int32)), (.ref b), (.ref b)])) rfl (hb hby at_90) _ ?_
    exact Steps.refl _
  obtain ⟨T50, h50, X50, e50, W50, V50', st50⟩ := own_stI X47 hx hZ e47 V47 (j := (15 : Int32)) (i := 15) rfl ⟨by decide, Nat.le_of_ble_eq_true rfl⟩ (g := (mkF m 92 #[.val (.int p1), .val (.int p2), .val (.int p3), .unset, .unset] [(.int (2147483647 : Int32)), (.int (15 : Int32)), (.ref b), (.ref b)])) rfl rfl (hb hby at_92)
  have V50 : LA Z h50 b .int [(.int (0 : Int32)), (.int (9 : Int32)), (.int (10 : Int32)), (.int (13 : Int32)), (.int (32 : Int32)), (.int (55295 : Int32)), (.int (55296 : Int32)), (.int (57343 : Int32)), (.int (57344 : Int32)), (.int (65533 : Int32)), (.int (65535 : Int32)), (.int (65536 : Int32)), (.int (1114111 : Int32)), (.int (1114112 : Int32)), (.int (-2147483648 : Int32)), (.int (2147483647 : Int32))] := V50'
  have S51 : Steps p.tables e below Ω (T50.setTop (mkF m 93 #[.val (.int p1), .val (.int p2), .val (.int p3), .unset, .unset] [(.ref b)])) := S49.trans (st50 _ (Steps.refl _))
  have N50 := Fr.snoc X50 N47 g_b
  have S52 : Steps p.tables e below Ω (T50.setTop (mkF m 99 #[.val (.int p1), .val (.int p2), .val (.int p3), .val (.ref b), .unset] [(.int (p2 &&& (15 : Int32))), (.ref b)])) := by
    refine S51.trans ?_
    refine XS.astoreN X50.here hx rfl (hb hby at_93) rfl rfl (l' := #[.val (.int p1), .val (.int p2), .val (.int p3), .val (.ref b), .unset]) rfl ?_
    show Steps p.tables e below (T50.setTop (mkF m 94 #[.val (.int p1), .val (.int p2), .val (.int p3), .val (.ref b), .unset] [])) _
    refine XS.aloadN X50.here hx rfl (hb hby at_94) rfl rfl ?_
    show Steps p.tables e below (T50.setTop (mkF m 95 #[.val (.int p1), .val (.int p2), .val (.int p3), .val (.ref b), .unset] [(.ref b)])) _
    refine XS.iloadN X50.here hx rfl (hb hby at_95) rfl ?_
    show Steps p.tables e below (T50.setTop (mkF m 96 #[.val (.int p1), .val (.int p2), .val (.int p3), .val (.ref b), .unset] [(.int p2), (.ref b)])) _
    refine XS.bipush X50.here hx rfl (hb hby at_96) ?_
    show Steps p.tables e below (T50.setTop (mkF m 98 #[.val (.int p1), .val (.int p2), .val (.int p3), .val (.ref b), .unset] [(.int (15 : Int32)), (.int p2), (.ref b)])) _
    refine XS.iand X50.here hx rfl (hb hby at_98) rfl ?_
    exact Steps.refl _
  have hj := c_and p2 (15 : Int32) (by decide)
  have hk : (15 : Int32).toInt = 15 := by decide
  obtain ⟨hi1, hi2⟩ := own_idx (j := (p2 &&& (15 : Int32))) (n := 16) hj.1 (by omega)
  obtain ⟨x, hxx⟩ : ∃ x, ([(.int (0 : Int32)), (.int (9 : Int32)), (.int (10 : Int32)), (.int (13 : Int32)), (.int (32 : Int32)), (.int (55295 : Int32)), (.int (55296 : Int32)), (.int (57343 : Int32)), (.int (57344 : Int32)), (.int (65533 : Int32)), (.int (65535 : Int32)), (.int (65536 : Int32)), (.int (1114111 : Int32)), (.int (1114112 : Int32)), (.int (-2147483648 : Int32)), (.int (2147483647 : Int32))] : List Value)[(p2 &&& (15 : Int32)).toNatClampNeg]? = some (.int x) := own_get [(0 : Int32), (9 : Int32), (10 : Int32), (13 : Int32), (32 : Int32), (55295 : Int32), (55296 : Int32), (57343 : Int32), (57344 : Int32), (65533 : Int32), (65535 : Int32), (65536 : Int32), (1114111 : Int32), (1114112 : Int32), (-2147483648 : Int32), (2147483647 : Int32)] rfl hi2
  have S53 : Steps p.tables e below Ω (T50.setTop (mkF m 100 #[.val (.int p1), .val (.int p2), .val (.int p3), .val (.ref b), .unset] [(.int x)])) := S52.trans (own_ldI X50 hx hZ e50 V50 (j := (p2 &&& (15 : Int32))) (x := x) hi1 hxx (g := (mkF m 99 #[.val (.int p1), .val (.int p2), .val (.int p3), .val (.ref b), .unset] [(.int (p2 &&& (15 : Int32))), (.ref b)])) rfl rfl (hb hby at_99) _ (Steps.refl _))
  have S54 : Steps p.tables e below Ω (T50.setTop (mkF m 112 #[.val (.int p1), .val (.int p2), .val (.int p3), .val (.ref b), .val (.int ((x + ((p3 &&& (2147483647 : Int32)) % (3 : Int32))) - (1 : Int32)))] [(.int p1)])) := by
    refine S53.trans ?_
    refine XS.iloadN X50.here hx rfl (hb hby at_100) rfl ?_
    show Steps p.tables e below (T50.setTop (mkF m 101 #[.val (.int p1), .val (.int p2), .val (.int p3), .val (.ref b), .unset] [(.int p3), (.int x)])) _
    refine X50.ldcInt hx hown (mvT hZ (hw _ (List.mem_of_getElem? (i := 11) rfl))) (g := (mkF m 101 #[.val (.int p1), .val (.int p2), .val (.int p3), .val (.ref b), .unset] [(.int p3), (.int x)])) rfl (hb hby at_101) _ ?_
    show Steps p.tables e below (T50.setTop (mkF m 103 #[.val (.int p1), .val (.int p2), .val (.int p3), .val (.ref b), .unset] [(.int (2147483647 : Int32)), (.int p3), (.int x)])) _
    refine XS.iand X50.here hx rfl (hb hby at_103) rfl ?_
    show Steps p.tables e below (T50.setTop (mkF m 104 #[.val (.int p1), .val (.int p2), .val (.int p3), .val (.ref b), .unset] [(.int (p3 &&& (2147483647 : Int32))), (.int x)])) _
    refine XS.iconst X50.here hx rfl (hb hby at_104) ?_
    show Steps p.tables e below (T50.setTop (mkF m 105 #[.val (.int p1), .val (.int p2), .val (.int p3), .val (.ref b), .unset] [(.int (3 : Int32)), (.int (p3 &&& (2147483647 : Int32))), (.int x)])) _
    refine iremM X50 hx rfl (hb hby at_105) rfl (by decide) ?_
    show Steps p.tables e below (T50.setTop (mkF m 106 #[.val (.int p1), .val (.int p2), .val (.int p3), .val (.ref b), .unset] [(.int ((p3 &&& (2147483647 : Int32)) % (3 : Int32))), (.int x)])) _
    refine XS.iadd X50.here hx rfl (hb hby at_106) rfl ?_
    show Steps p.tables e below (T50.setTop (mkF m 107 #[.val (.int p1), .val (.int p2), .val (.int p3), .val (.ref b), .unset] [(.int (x + ((p3 &&& (2147483647 : Int32)) % (3 : Int32))))])) _
    refine XS.iconst X50.here hx rfl (hb hby at_107) ?_
    show Steps p.tables e below (T50.setTop (mkF m 108 #[.val (.int p1), .val (.int p2), .val (.int p3), .val (.ref b), .unset] [(.int (1 : Int32)), (.int (x + ((p3 &&& (2147483647 : Int32)) % (3 : Int32))))])) _
    refine XS.isub X50.here hx rfl (hb hby at_108) rfl ?_
    show Steps p.tables e below (T50.setTop (mkF m 109 #[.val (.int p1), .val (.int p2), .val (.int p3), .val (.ref b), .unset] [(.int ((x + ((p3 &&& (2147483647 : Int32)) % (3 : Int32))) - (1 : Int32)))])) _
    refine XS.istore X50.here hx rfl (hb hby at_109) rfl (l' := #[.val (.int p1), .val (.int p2), .val (.int p3), .val (.ref b), .val (.int ((x + ((p3 &&& (2147483647 : Int32)) % (3 : Int32))) - (1 : Int32)))]) rfl ?_
    show Steps p.tables e below (T50.setTop (mkF m 111 #[.val (.int p1), .val (.int p2), .val (.int p3), .val (.ref b), .val (.int ((x + ((p3 &&& (2147483647 : Int32)) % (3 : Int32))) - (1 : Int32)))] [])) _
    refine XS.iloadN X50.here hx rfl (hb hby at_111) rfl ?_
    exact Steps.refl _
  obtain ⟨y, h_y⟩ : ∃ z : Int32, z = ((x + ((p3 &&& (2147483647 : Int32)) % (3 : Int32))) - (1 : Int32)) := ⟨_, rfl⟩
  rw [← h_y] at S54
  obtain ⟨_, _, ⟨T55, L55, k55, n55⟩, -, X55, ⟨Lc55, hQ55, l55, y55, z55⟩, st55⟩ := Jvm.LawKit.callS X50 hx (y := (⟨"com/example/distill_trees/distilltrees/io/XmlChars", "isChar", "(I)Z"⟩ : MethodName)) hown (mvT hZ (hw _ (List.mem_of_getElem? (i := 12) rfl))) (mvT hZ (hw _ (List.mem_of_getElem? (i := 13) rfl))) (mvT hZ (hw _ (List.mem_of_getElem? (i := 14) rfl))) (mvT hZ (hw _ (List.mem_of_getElem? (i := 15) rfl))) (by decide) (backOf (W := 0) (rm1 l Z a0 hw [] p1  h50 n0 (Nat.le_trans (Nat.le_trans (Nat.le_trans (Nat.le_trans (Nat.le_trans (Nat.le_trans (Nat.le_trans (Nat.le_trans (Nat.le_trans (Nat.le_trans (Nat.le_trans (Nat.le_trans (Nat.le_trans (Nat.le_trans (Nat.le_trans (Nat.le_trans (Nat.le_trans Z0 E2.1) (Keep.of_wr W5).1) (Keep.of_wr W8).1) (Keep.of_wr W11).1) (Keep.of_wr W14).1) (Keep.of_wr W17).1) (Keep.of_wr W20).1) (Keep.of_wr W23).1) (Keep.of_wr W26).1) (Keep.of_wr W29).1) (Keep.of_wr W32).1) (Keep.of_wr W35).1) (Keep.of_wr W38).1) (Keep.of_wr W41).1) (Keep.of_wr W44).1) (Keep.of_wr W47).1) (Keep.of_wr W50).1) ) hZ (hw _ (List.mem_of_getElem? (i := 15) rfl)) (hw _ (List.mem_of_getElem? (i := 14) rfl)) (by decide) (by decide)) (g := (mkF m 112 #[.val (.int p1), .val (.int p2), .val (.int p3), .val (.ref b), .val (.int y)] [(.int p1)])) rfl (by rw [hml]; rfl) (argsL := [(.int p1)]) (rest := []) (lenOf pd_0 rfl) rfl (by show 2 * 0 + _ ≤ _; exact Nat.le_of_eq rfl) (hb hby at_112) (fun _ _ => ⟨rfl, e50, (by decide : 1 + 0 ≤ _), (by decide : 16 + 0 ≤ _)⟩)
  dsimp only [Pt.U, Pt.locs, Pt.cells, Pt.slots] at X55 l55 y55 z55 st55 hQ55
  subst l55 y55 z55
  obtain ⟨rfl, N55q, e55⟩ := hQ55
  have N55 := Fr.app N50 N55q
  have S56 : Steps p.tables e below Ω (T55.setTop (mkF m 115 #[.val (.int p1), .val (.int p2), .val (.int p3), .val (.ref b), .val (.int y)] [(.int (own_ch p1))])) := S54.trans (st55 _ (Steps.refl _))
  have S57 : Steps p.tables e below Ω (T55.setTop (mkF m 116 #[.val (.int p1), .val (.int p2), .val (.int p3), .val (.ref b), .val (.int y)] [(.int p1), (.int (own_ch p1))])) := by
    refine S56.trans ?_
    refine XS.iloadN X55.here hx rfl (hb hby at_115) rfl ?_
    exact Steps.refl _
  obtain ⟨_, _, ⟨T58, L58, k58, n58⟩, -, X58, ⟨Lc58, hQ58, l58, y58, z58⟩, st58⟩ := Jvm.LawKit.callS X55 hx (y := (⟨"com/example/distill_trees/distilltrees/io/XmlCharsIsCharPinLaw", "allowed", "(I)Z"⟩ : MethodName)) hown (mvT hZ (hw _ (List.mem_of_getElem? (i := 18) rfl))) (mvT hZ (hw _ (List.mem_of_getElem? (i := 19) rfl))) (mvT hZ (hw _ (List.mem_of_getElem? (i := 20) rfl))) (mvT hZ (hw _ (List.mem_of_getElem? (i := 21) rfl))) (by decide) (backOf (W := 1) (rm2 l Z a0 hw [] p1  h50 n0 (Nat.le_trans (Nat.le_trans (Nat.le_trans (Nat.le_trans (Nat.le_trans (Nat.le_trans (Nat.le_trans (Nat.le_trans (Nat.le_trans (Nat.le_trans (Nat.le_trans (Nat.le_trans (Nat.le_trans (Nat.le_trans (Nat.le_trans (Nat.le_trans (Nat.le_trans Z0 E2.1) (Keep.of_wr W5).1) (Keep.of_wr W8).1) (Keep.of_wr W11).1) (Keep.of_wr W14).1) (Keep.of_wr W17).1) (Keep.of_wr W20).1) (Keep.of_wr W23).1) (Keep.of_wr W26).1) (Keep.of_wr W29).1) (Keep.of_wr W32).1) (Keep.of_wr W35).1) (Keep.of_wr W38).1) (Keep.of_wr W41).1) (Keep.of_wr W44).1) (Keep.of_wr W47).1) (Keep.of_wr W50).1) ) hZ (hw _ (List.mem_of_getElem? (i := 21) rfl)) (hw _ (List.mem_of_getElem? (i := 20) rfl)) (by decide) (by decide)) (g := (mkF m 116 #[.val (.int p1), .val (.int p2), .val (.int p3), .val (.ref b), .val (.int y)] [(.int p1), (.int (own_ch p1))])) rfl (by rw [hml]; rfl) (argsL := [(.int p1)]) (rest := [(.int (own_ch p1))]) (lenOf pd_0 rfl) rfl (by show 2 * 0 + _ ≤ _; exact Nat.le_of_eq rfl) (hb hby at_116) (fun _ _ => ⟨rfl, e55, (by decide : 1 + 0 ≤ _), (by decide : 16 + 0 ≤ _)⟩)
  dsimp only [Pt.U, Pt.locs, Pt.cells, Pt.slots] at X58 l58 y58 z58 st58 hQ58
  subst l58 y58 z58
  obtain ⟨rfl, N58q, e58⟩ := hQ58
  have N58 := Fr.app N55 N58q
  have S59 : Steps p.tables e below Ω (T58.setTop (mkF m 119 #[.val (.int p1), .val (.int p2), .val (.int p3), .val (.ref b), .val (.int y)] [(.int (own_ch p1)), (.int (own_ch p1))])) := S57.trans (st58 _ (Steps.refl _))
  have S60 : Steps p.tables e below Ω (T58.setTop (mkF m 124 #[.val (.int p1), .val (.int p2), .val (.int p3), .val (.ref b), .val (.int y)] [(.int y)])) := by
    refine S59.trans ?_
    refine XS.icmpNo X58.here hx rfl (hb hby at_119) rfl (XT.ii_ne_f rfl) ?_
    show Steps p.tables e below (T58.setTop (mkF m 122 #[.val (.int p1), .val (.int p2), .val (.int p3), .val (.ref b), .val (.int y)] [])) _
    refine XS.iload X58.here hx rfl (hb hby at_122) rfl ?_
    exact Steps.refl _
  obtain ⟨_, _, ⟨T61, L61, k61, n61⟩, -, X61, ⟨Lc61, hQ61, l61, y61, z61⟩, st61⟩ := Jvm.LawKit.callS X58 hx (y := (⟨"com/example/distill_trees/distilltrees/io/XmlChars", "isChar", "(I)Z"⟩ : MethodName)) hown (mvT hZ (hw _ (List.mem_of_getElem? (i := 12) rfl))) (mvT hZ (hw _ (List.mem_of_getElem? (i := 13) rfl))) (mvT hZ (hw _ (List.mem_of_getElem? (i := 14) rfl))) (mvT hZ (hw _ (List.mem_of_getElem? (i := 15) rfl))) (by decide) (backOf (W := 0) (rm1 l Z a0 hw [] y  h50 n0 (Nat.le_trans (Nat.le_trans (Nat.le_trans (Nat.le_trans (Nat.le_trans (Nat.le_trans (Nat.le_trans (Nat.le_trans (Nat.le_trans (Nat.le_trans (Nat.le_trans (Nat.le_trans (Nat.le_trans (Nat.le_trans (Nat.le_trans (Nat.le_trans (Nat.le_trans Z0 E2.1) (Keep.of_wr W5).1) (Keep.of_wr W8).1) (Keep.of_wr W11).1) (Keep.of_wr W14).1) (Keep.of_wr W17).1) (Keep.of_wr W20).1) (Keep.of_wr W23).1) (Keep.of_wr W26).1) (Keep.of_wr W29).1) (Keep.of_wr W32).1) (Keep.of_wr W35).1) (Keep.of_wr W38).1) (Keep.of_wr W41).1) (Keep.of_wr W44).1) (Keep.of_wr W47).1) (Keep.of_wr W50).1) ) hZ (hw _ (List.mem_of_getElem? (i := 15) rfl)) (hw _ (List.mem_of_getElem? (i := 14) rfl)) (by decide) (by decide)) (g := (mkF m 124 #[.val (.int p1), .val (.int p2), .val (.int p3), .val (.ref b), .val (.int y)] [(.int y)])) rfl (by rw [hml]; rfl) (argsL := [(.int y)]) (rest := []) (lenOf pd_0 rfl) rfl (by show 2 * 0 + _ ≤ _; exact Nat.le_of_eq rfl) (hb hby at_124) (fun _ _ => ⟨rfl, e58, (by decide : 1 + 0 ≤ _), (by decide : 16 + 0 ≤ _)⟩)
  dsimp only [Pt.U, Pt.locs, Pt.cells, Pt.slots] at X61 l61 y61 z61 st61 hQ61
  subst l61 y61 z61
  obtain ⟨rfl, N61q, e61⟩ := hQ61
  have N61 := Fr.app N58 N61q
  have S62 : Steps p.tables e below Ω (T61.setTop (mkF m 127 #[.val (.int p1), .val (.int p2), .val (.int p3), .val (.ref b), .val (.int y)] [(.int (own_ch y))])) := S60.trans (st61 _ (Steps.refl _))
  have S63 : Steps p.tables e below Ω (T61.setTop (mkF m 129 #[.val (.int p1), .val (.int p2), .val (.int p3), .val (.ref b), .val (.int y)] [(.int y), (.int (own_ch y))])) := by
    refine S62.trans ?_
    refine XS.iload X61.here hx rfl (hb hby at_127) rfl ?_
    exact Steps.refl _
  obtain ⟨_, _, ⟨T64, L64, k64, n64⟩, -, X64, ⟨Lc64, hQ64, l64, y64, z64⟩, st64⟩ := Jvm.LawKit.callS X61 hx (y := (⟨"com/example/distill_trees/distilltrees/io/XmlCharsIsCharPinLaw", "allowed", "(I)Z"⟩ : MethodName)) hown (mvT hZ (hw _ (List.mem_of_getElem? (i := 18) rfl))) (mvT hZ (hw _ (List.mem_of_getElem? (i := 19) rfl))) (mvT hZ (hw _ (List.mem_of_getElem? (i := 20) rfl))) (mvT hZ (hw _ (List.mem_of_getElem? (i := 21) rfl))) (by decide) (backOf (W := 1) (rm2 l Z a0 hw [] y  h50 n0 (Nat.le_trans (Nat.le_trans (Nat.le_trans (Nat.le_trans (Nat.le_trans (Nat.le_trans (Nat.le_trans (Nat.le_trans (Nat.le_trans (Nat.le_trans (Nat.le_trans (Nat.le_trans (Nat.le_trans (Nat.le_trans (Nat.le_trans (Nat.le_trans (Nat.le_trans Z0 E2.1) (Keep.of_wr W5).1) (Keep.of_wr W8).1) (Keep.of_wr W11).1) (Keep.of_wr W14).1) (Keep.of_wr W17).1) (Keep.of_wr W20).1) (Keep.of_wr W23).1) (Keep.of_wr W26).1) (Keep.of_wr W29).1) (Keep.of_wr W32).1) (Keep.of_wr W35).1) (Keep.of_wr W38).1) (Keep.of_wr W41).1) (Keep.of_wr W44).1) (Keep.of_wr W47).1) (Keep.of_wr W50).1) ) hZ (hw _ (List.mem_of_getElem? (i := 21) rfl)) (hw _ (List.mem_of_getElem? (i := 20) rfl)) (by decide) (by decide)) (g := (mkF m 129 #[.val (.int p1), .val (.int p2), .val (.int p3), .val (.ref b), .val (.int y)] [(.int y), (.int (own_ch y))])) rfl (by rw [hml]; rfl) (argsL := [(.int y)]) (rest := [(.int (own_ch y))]) (lenOf pd_0 rfl) rfl (by show 2 * 0 + _ ≤ _; exact Nat.le_of_eq rfl) (hb hby at_129) (fun _ _ => ⟨rfl, e61, (by decide : 1 + 0 ≤ _), (by decide : 16 + 0 ≤ _)⟩)
  dsimp only [Pt.U, Pt.locs, Pt.cells, Pt.slots] at X64 l64 y64 z64 st64 hQ64
  subst l64 y64 z64
  obtain ⟨rfl, N64q, e64⟩ := hQ64
  have N64 := Fr.app N61 N64q
  have S65 : Steps p.tables e below Ω (T64.setTop (mkF m 132 #[.val (.int p1), .val (.int p2), .val (.int p3), .val (.ref b), .val (.int y)] [(.int (own_ch y)), (.int (own_ch y))])) := S63.trans (st64 _ (Steps.refl _))
  have S66 : Steps p.tables e below Ω (T64.setTop (mkF m 140 #[.val (.int p1), .val (.int p2), .val (.int p3), .val (.ref b), .val (.int y)] [(.int (1 : Int32))])) := by
    refine S65.trans ?_
    refine XS.icmpNo X64.here hx rfl (hb hby at_132) rfl (XT.ii_ne_f rfl) ?_
    show Steps p.tables e below (T64.setTop (mkF m 135 #[.val (.int p1), .val (.int p2), .val (.int p3), .val (.ref b), .val (.int y)] [])) _
    refine XS.iconst X64.here hx rfl (hb hby at_135) ?_
    show Steps p.tables e below (T64.setTop (mkF m 136 #[.val (.int p1), .val (.int p2), .val (.int p3), .val (.ref b), .val (.int y)] [(.int (1 : Int32))])) _
    refine XS.goto X64.here hx rfl (pc0 := 136) (pc' := 140) rfl (hb hby at_136) (by decide) (by decide) ?_
    exact Steps.refl _
  obtain ⟨fs, hr, hrun, hended, hW, hsame⟩ := X64.leave (v := some (.int (1 : Int32))) (fun h => by rw [Bd.returns] at h; cases h)
  have hfin : Steps p.tables e below Ω (T64.setFrames fs) := by
    refine S66.trans ?_
    exact own_retZ X64 hx Bd.returns (by decide) (hb hby at_140) hr
  rw [hΩ] at hfin
  refine ⟨_, _, hfin, hrun, hended, _, _, rfl, ?_, ⟨_, rfl⟩, hW, hsame.mono (by decide) (by decide)⟩
  show Q0 Z p1 p2 p3 h0 n0 _ T64.heap _
  rw [e64]
  exact ⟨rfl, N64⟩
set_option maxRecDepth 65536 in
set_option maxHeartbeats 40000000 in
theorem comes_1 {Post : Tables → Env → Array Value → State → Outcome → State → Prop} (hpost : ∀ tb e args s v u, (limb_1_1.after args s (.returned v) u = true ∧ limb_1_2.after args s (.returned v) u = true ∧ True) → FrameEnd s (.returned v) u (Jvm.fieldLocs frame_1_writes args s ++ Jvm.arrayLocs frame_1_arrays args s ++ Jvm.staticLocs frame_1_statics s) 16 128 → Post tb e args s (.returned v) u) :
    ArmFor flags0 classFile x code maxLocals ret World_1 tables_1 room_1 Calls_1 rest_1 Pre_1 Post := by
  intro l hfl _ _ p e ha hc hk s m args below hf hA hF happ hP
  obtain ⟨hcalls, hrest, hpre⟩ := hP
  obtain ⟨-, -, -, hnamed, -, -, -, hat⟩ := (Spec.applies_iff hf).mp happ
  obtain ⟨hg, hn⟩ := and_e (Cond.before_iff.mp (show (Jvm.Cond.and given_1 narrow_1).before args s = true from hpre))
  obtain ⟨gc, g0⟩ := and_e hg
  obtain ⟨k0, g1⟩ := and_e g0
  obtain ⟨k1, g2⟩ := and_e g1
  obtain ⟨w0, w1, w2, rfl⟩ : ∃ w0 w1 w2 : Value, args = #[w0, w1, w2] := by
    have hs : args.size = 3 := by simpa [Cond.value, given_1] using gc
    obtain ⟨L⟩ := args
    match L, hs with
    | [w0, w1, w2], _ => exact ⟨w0, w1, w2, rfl⟩
  have hw := fun d (hd : d ∈ tables_1) => atoms_spec (ws := Jvm.Cond.code x code maxLocals ret :: tables_1) hat d (List.mem_cons_of_mem _ hd)
  have hfit : Fit s := fun {y c} hc i hi => by
    obtain ⟨ha, rfl⟩ := Array.getElem?_eq_some_iff.mp hc
    have q := List.all_eq_true.mp ((Array.all_eq_true_iff_forall_mem.mp hF) _ (Array.getElem_mem ha)) i (List.mem_range.mpr hi)
    simpa [Array.getElem?_eq_getElem hi] using q
  obtain ⟨i0, ei0⟩ := is_v k0
  obtain rfl : w0 = (.int i0) := Option.some.inj ei0
  obtain ⟨i1, ei1⟩ := is_v k1
  obtain rfl : w1 = (.int i1) := Option.some.inj ei1
  obtain ⟨i2, ei2⟩ := is_v g2
  obtain rfl : w2 = (.int i2) := Option.some.inj ei2
  obtain ⟨n, o, h1, h2, h3, _, L, rfl, ⟨rfl, N⟩, hq⟩ := rm0 l s _ hw tables_1 i0 i1 i2  s.heap s.heap.size (Nat.le_refl _)  p e ha hc hk s m _ below hf ((Spec.applies_iff_loose hf).mp happ).1 ⟨rfl, State.Warmed39.refl s, rfl⟩ trivial
  refine ⟨n, _, h1, h2, h3, hpost _ _ _ _ _ _ ⟨Cond.after_iff.mpr rfl, Cond.after_iff.mpr (eq_i res_at (Term.int_eval (1)) rfl), trivial⟩ ⟨hq.1, hq.2.1, (hq.2.2.sift fun y hy => Or.inr (N y hy)).mono (by decide) (by decide)⟩⟩
theorem main_1_1 : Claimed_1_1 := comes_1 fun _ _ _ _ _ _ h hF => ⟨h.1, hF⟩
theorem main_1_2 : Claimed_1_2 := comes_1 fun _ _ _ _ _ _ h hF => ⟨h.2.1, hF⟩
end Jvm.Pilot.@@N@@
namespace Jvm.Pilot.@@N@@
open Jvm Jvm.ClassFile Sem Op Lib Jvm.Free Jvm.Stand Jvm.Pilot.@@N@@.Jvm.D
/-! MADE BY PROGRAM (witnessworld.py) out of the Statement's table words and the real class files: 9 classes; the members and pool entries that the words name. The judged class is class 1, her method 1. -/
namespace start1
open Jvm.ClassFile
def u (s : String) : CpInfo := .utf8 (stringToUtf16 s)
/-- a pool by its gaps: so many unusable entries, then the entry; so many at the end -/
def gap : Nat → List CpInfo → List CpInfo
  | 0, r => r
  | n + 1, r => .unusable :: gap n r
def poolList (es : List (Nat × CpInfo)) (last : Nat) : List CpInfo := es.foldr (fun e r => gap e.1 (e.2 :: r)) (gap last [])
def pool (es : List (Nat × CpInfo)) (last : Nat) : Array CpInfo := ⟨poolList es last⟩
def fileOf (pool : Array CpInfo) (this : Nat) (attrs : Array Attribute := #[]) (ms : Array MethodInfo := #[]) (fl : Nat := 33) (sup : Nat := 0) (ifs : Array Nat := #[]) (fds : Array FieldInfo := #[]) : ClassFile where
  minorVersion := 0
  majorVersion := 65
  constantPool := pool
  accessFlags := fl
  thisClass := this
  superClass := sup
  interfaces := ifs
  fields := fds
  methods := ms
  attributes := attrs
def plain (name : String) (sup : Option ClassId) : Class where
  name := name
  kind := .ordinary
  loader := none
  accessFlags := 33
  super := sup
  interfaces := #[]
  cf := none
  fields := #[]
  methods := #[]
  instanceTypes := #[]
  staticTypes := #[]
  resolved := #[]
  callSites := []
  init := .initialized
  statics := none
  mirror := none

def pool0 : Array CpInfo := pool [(5, u "<init>"), (0, u "()V"), (1, .class_ 10), (1, u "java/lang/Object")] 113

def k0m0 : Method := { name := "<init>", desc := "()V", sig := { parameters := [], returnType := none }, accessFlags := 1, code := none }
/-- java/lang/Object -/
def k0 : Class := { plain "java/lang/Object" none with
  accessFlags := 33
  interfaces := #[]
  cf := some (fileOf pool0 8 #[] #[{ accessFlags := 1, nameIndex := 5, descriptorIndex := 6, attributes := #[] }] 33 0 #[] #[])
  fields := #[]
  methods := #[k0m0]
  instanceTypes := #[]
  staticTypes := #[]
  resolved := Array.replicate 124 none
  statics := none }

def pool1 : Array CpInfo := pool [(2, .class_ 4), (1, u "java/lang/Object"), (0, u "<init>"), (0, u "()V"), (0, .integer 55295), (0, .integer 55296), (0, .integer 57343), (0, .integer 57344), (0, .integer 65533), (0, .integer 65535), (0, .integer 65536), (0, .integer 1114111), (0, .integer 1114112), (2, .integer 2147483648), (0, .integer 2147483647), (0, .methodref 21 22), (0, .class_ 23), (0, .nameAndType 24 25), (0, u "com/example/distill_trees/distilltrees/io/XmlChars"), (0, u "isChar"), (0, u "(I)Z"), (0, .methodref 27 28), (0, .class_ 29), (0, .nameAndType 30 25), (0, u "com/example/distill_trees/distilltrees/io/XmlCharsIsCharPinLaw"), (0, u "allowed"), (0, .integer 65534), (2, u "law"), (0, u "(III)Z")] 5

def k1m0 : Method := { name := "<init>", desc := "()V", sig := { parameters := [], returnType := none }, accessFlags := 1, code := none }
def k1c1 : Code := { maxStack := 4, maxLocals := 5, code := code, exceptionTable := #[], attributes := #[] }
def k1m1 : Method := { name := "law", desc := "(III)Z", sig := { parameters := [.int, .int, .int], returnType := some .boolean }, accessFlags := 9, code := some k1c1 }
def k1c2 : Code := { maxStack := 2, maxLocals := 1, code := method_3_code, exceptionTable := #[], attributes := #[] }
def k1m2 : Method := { name := "allowed", desc := "(I)Z", sig := { parameters := [.int], returnType := some .boolean }, accessFlags := 10, code := some k1c2 }
/-- com/example/distill_trees/distilltrees/io/XmlCharsIsCharPinLaw -/
def k1 : Class := { plain "com/example/distill_trees/distilltrees/io/XmlCharsIsCharPinLaw" (some 0) with
  accessFlags := 49
  interfaces := #[]
  cf := some (fileOf pool1 27 #[] #[{ accessFlags := 1, nameIndex := 5, descriptorIndex := 6, attributes := #[] }, { accessFlags := 9, nameIndex := 34, descriptorIndex := 35, attributes := #[] }, { accessFlags := 10, nameIndex := 30, descriptorIndex := 25, attributes := #[] }] 49 2 #[] #[])
  fields := #[]
  methods := #[k1m0, k1m1, k1m2]
  instanceTypes := #[]
  staticTypes := #[]
  resolved := Array.replicate 41 none
  statics := none }

def pool2 : Array CpInfo := pool [(2, .class_ 4), (1, u "java/lang/Object"), (0, u "<init>"), (0, u "()V"), (0, .integer 55295), (0, .integer 57344), (0, .integer 65533), (0, .integer 65536), (0, .integer 1114111), (5, .class_ 19), (1, u "com/example/distill_trees/distilltrees/io/XmlChars"), (1, u "(I)Z"), (26, u "isChar")] 26

def k2m0 : Method := { name := "<init>", desc := "()V", sig := { parameters := [], returnType := none }, accessFlags := 2, code := none }
def k2c1 : Code := { maxStack := 2, maxLocals := 1, code := prog_82_method_2_code, exceptionTable := #[], attributes := #[] }
def k2m1 : Method := { name := "isChar", desc := "(I)Z", sig := { parameters := [.int], returnType := some .boolean }, accessFlags := 9, code := some k2c1 }
/-- com/example/distill_trees/distilltrees/io/XmlChars -/
def k2 : Class := { plain "com/example/distill_trees/distilltrees/io/XmlChars" (some 0) with
  accessFlags := 49
  interfaces := #[]
  cf := some (fileOf pool2 17 #[] #[{ accessFlags := 2, nameIndex := 5, descriptorIndex := 6, attributes := #[] }, { accessFlags := 9, nameIndex := 48, descriptorIndex := 21, attributes := #[] }] 49 2 #[] #[])
  fields := #[]
  methods := #[k2m0, k2m1]
  instanceTypes := #[]
  staticTypes := #[]
  resolved := Array.replicate 75 none
  statics := none }

def pool3 : Array CpInfo := pool [(1, u "java/lang/Cloneable"), (0, .class_ 1), (0, u "java/lang/Object"), (0, .class_ 3)] 3

/-- java/lang/Cloneable -/
def k3 : Class := { plain "java/lang/Cloneable" (some 0) with
  accessFlags := 1537
  interfaces := #[]
  cf := some (fileOf pool3 2 #[] #[] 1537 4 #[] #[])
  fields := #[]
  methods := #[]
  instanceTypes := #[]
  staticTypes := #[]
  resolved := Array.replicate 8 none
  statics := none }

def pool4 : Array CpInfo := pool [(1, u "java/io/Serializable"), (0, .class_ 1), (0, u "java/lang/Object"), (0, .class_ 3)] 3

/-- java/io/Serializable -/
def k4 : Class := { plain "java/io/Serializable" (some 0) with
  accessFlags := 1537
  interfaces := #[]
  cf := some (fileOf pool4 2 #[] #[] 1537 4 #[] #[])
  fields := #[]
  methods := #[]
  instanceTypes := #[]
  staticTypes := #[]
  resolved := Array.replicate 8 none
  statics := none }

/-- the primitive byte -/
def k5 : Class := { plain "byte" none with kind := .primitive 'B', accessFlags := 0x411 }
/-- [B -/
def k6 : Class := { plain "[B" (some 0) with kind := .array 5 .byte, interfaces := #[3, 4], accessFlags := 1041 }

/-- the primitive int -/
def k7 : Class := { plain "int" none with kind := .primitive 'I', accessFlags := 0x411 }
/-- [I -/
def k8 : Class := { plain "[I" (some 0) with kind := .array 7 .int, interfaces := #[3, 4], accessFlags := 1041 }

def heap : Heap := #[]
def classes : Array Class := #[k0, k1, k2, k3, k4, k5, k6, k7, k8]
def interned : List (Array UInt16 × Addr) := []
def slotsUsed : Nat := 0
def theMethod : MethodId := ⟨1, 1⟩
def args0 : Array Value := #[.int 5, .int 300, .int 7]
def aboutOver (below : List Frame) : State where
  vm := { classes := classes, interned := interned.toArray }
  heap := heap
  slotsUsed := slotsUsed
  threads := #[{ frames := .invoking theMethod args0 :: below }]
def below0 : List Frame := [.native { method := ⟨0, 0⟩, args := #[] }]
def about1 : State := aboutOver below0
def p0 : Program := .bare "" "" ""
def e0 : Env := launch0.env 0 0 0
theorem w_frames : about1.frames = Frame.invoking theMethod args0 :: below0 := rfl
set_option maxRecDepth 65536 in
theorem w_args : argsFit about1.vm theMethod args0 = true := by decide +kernel
set_option maxRecDepth 65536 in
theorem w_heap : heapFits about1 = true := by decide +kernel
set_option maxRecDepth 65536 in
theorem w_runnable : about1.curStatus? = some .runnable := by decide +kernel
set_option maxRecDepth 65536 in
theorem w_alone : about1.alone = true := by decide +kernel
set_option maxRecDepth 65536 in
theorem w_named : about1.methodNamed? x = some theMethod := by decide +kernel
set_option maxRecDepth 65536 in
theorem w_hears : about1.hears theMethod below0 = true := by decide +kernel
set_option maxRecDepth 65536 in
theorem w_ripe : about1.ripe theMethod args0 below0 = true := by decide +kernel
theorem w_running : about1.status = .running := rfl
set_option maxRecDepth 65536 in
theorem w_room : about1.hasRoom e0.platform room_1 = true :=
  launch0.hasRoom_least _ room_1 (by decide +kernel) (by decide +kernel) (by decide +kernel) (by decide +kernel) (by decide +kernel) (by decide +kernel)
theorem allAtoms_all (ts : List Jvm.Cond) (a : Array Jvm.Value) (st : Jvm.State) : (allAtoms ts).before a st = ts.all (fun c => c.before a st) := by
  induction ts with
  | nil => rfl
  | cons c t ih =>
    show (Jvm.Cond.and c (allAtoms t)).before a st = _
    rw [Jvm.Cond.before_and, ih, List.all_cons]
def words1 : List Jvm.Cond := Jvm.Cond.code x code maxLocals ret :: tables_1
/-- a 'code' word, met by the world's own term for the bytes: nothing is compared byte by byte -/
theorem code_word {y : MethodName} {bytes : ByteArray} {mx : Nat} {rt : Option FieldType} {a : Array Value} {s : State} {m : MethodId} {meth : Method} {c : Code} (h1 : s.methodNamed? y = some m) (h2 : s.vm.method? m = some meth) (h3 : meth.code = some c) (h4 : c.code = bytes)
    (h5 : (c.maxLocals == mx && c.exceptionTable.isEmpty && decide (c.maxStack ≤ mostOperands) && decide (meth.sig.returnType = rt) && !meth.locks && decide (parseMethodDescriptor y.desc = some meth.sig)) = true) : (Jvm.Cond.code y bytes mx rt).before a s = true := by
  simp only [Bool.and_eq_true, beq_iff_eq, Bool.not_eq_true', decide_eq_true_eq] at h5
  obtain ⟨⟨⟨⟨⟨g1, g2⟩, g3⟩, g4⟩, g5⟩, g6⟩ := h5
  simp [Cond.before, Cond.holds, Cond.value, h1, h2, h3, h4, g1, g2, g3, g4, g5, g6]
def isCode : Jvm.Cond → Bool
  | .code _ _ _ _ => true
  | _ => false
theorem all_split {L : List Jvm.Cond} {P : Jvm.Cond → Bool} (h1 : L.all (fun c => isCode c || P c) = true) (h2 : ∀ c ∈ L.filter isCode, P c = true) : L.all P = true := by
  refine List.all_eq_true.mpr fun c hc => ?_
  have h := List.all_eq_true.mp h1 c hc
  rcases Bool.eq_false_or_eq_true (isCode c) with hi | hi
  · exact h2 c (List.mem_filter.mpr ⟨hc, hi⟩)
  · simpa [hi] using h
set_option maxRecDepth 65536 in
theorem w_c0 : (Jvm.Cond.code x code maxLocals ret).before args0 about1 = true := code_word (m := ⟨1, 1⟩) (meth := k1m1) (c := k1c1) (by decide +kernel) rfl rfl rfl (by decide +kernel)
set_option maxRecDepth 65536 in
theorem w_c1 : (Jvm.Cond.code ({ cls := "com/example/distill_trees/distilltrees/io/XmlChars", name := "isChar", desc := "(I)Z" } : Jvm.MethodName) prog_82_method_2_code (1 : Nat) (Option.some Jvm.ClassFile.FieldType.boolean)).before args0 about1 = true := code_word (m := ⟨2, 1⟩) (meth := k2m1) (c := k2c1) (by decide +kernel) rfl rfl rfl (by decide +kernel)
set_option maxRecDepth 65536 in
theorem w_c2 : (Jvm.Cond.code ({ cls := "com/example/distill_trees/distilltrees/io/XmlCharsIsCharPinLaw", name := "allowed", desc := "(I)Z" } : Jvm.MethodName) method_3_code (1 : Nat) (Option.some Jvm.ClassFile.FieldType.boolean)).before args0 about1 = true := code_word (m := ⟨1, 2⟩) (meth := k1m2) (c := k1c2) (by decide +kernel) rfl rfl rfl (by decide +kernel)
def codes1 : List Jvm.Cond := [Jvm.Cond.code x code maxLocals ret, Jvm.Cond.code ({ cls := "com/example/distill_trees/distilltrees/io/XmlChars", name := "isChar", desc := "(I)Z" } : Jvm.MethodName) prog_82_method_2_code (1 : Nat) (Option.some Jvm.ClassFile.FieldType.boolean), Jvm.Cond.code ({ cls := "com/example/distill_trees/distilltrees/io/XmlCharsIsCharPinLaw", name := "allowed", desc := "(I)Z" } : Jvm.MethodName) method_3_code (1 : Nat) (Option.some Jvm.ClassFile.FieldType.boolean)]
set_option maxRecDepth 65536 in
theorem codes_eq : words1.filter isCode = codes1 := rfl
theorem w_codes : ∀ c ∈ words1.filter isCode, c.before args0 about1 = true := by
  rw [codes_eq]
  intro c hc
  simp only [codes1, List.mem_cons, List.not_mem_nil, or_false] at hc
  rcases hc with rfl | rfl | rfl
  · exact w_c0
  · exact w_c1
  · exact w_c2
set_option maxRecDepth 65536 in
theorem w_t1 : (words1.take 24).all (fun c => isCode c || c.before args0 about1) = true := by decide +kernel
set_option maxRecDepth 65536 in
theorem w_t2 : (words1.drop 24).all (fun c => isCode c || c.before args0 about1) = true := by decide +kernel
theorem w_tables : (allAtoms (Jvm.Cond.code x code maxLocals ret :: tables_1)).before args0 about1 = true := by
  rw [allAtoms_all]
  show words1.all (fun c => c.before args0 about1) = true
  refine all_split ?_ w_codes
  rw [← List.take_append_drop 24 words1, List.all_append, w_t1, w_t2]
  rfl
set_option maxRecDepth 65536 in
theorem w_case : (Jvm.Cond.and given_1 narrow_1).before args0 about1 = true := by decide +kernel
theorem w_applies : (headSpec (Jvm.Cond.code x code maxLocals ret :: tables_1) room_1).applies x e0.platform about1 = true :=
  (Spec.applies_iff w_frames).mpr ⟨w_running, w_runnable, w_alone, w_named, w_hears, w_ripe, w_room, w_tables⟩
theorem atStart : AtStart classFile x code maxLocals ret World_1 tables_1 room_1 Calls_1 rest_1 Pre_1 launch0 p0 e0 about1 theMethod args0 below0 :=
  ⟨lists_1, trivial, launch0.admits_env _ _ _, launch0.least_env, fairChoices_fair.cas, fairChoices_fair.clock, w_frames, w_args, w_heap, w_applies, trivial, trivial, w_case⟩
end start1
theorem witness_1 : WitnessClaimed_1 := ⟨start1.p0, start1.e0, start1.about1, start1.theMethod, start1.args0, start1.below0, start1.atStart⟩
end Jvm.Pilot.@@N@@
