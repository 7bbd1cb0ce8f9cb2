import JvmDerived
import JvmDerived.Pilot.@@N@@Statement
import JvmDerived.Pilot.@@N@@Code
set_option linter.unusedVariables false
set_option linter.unusedSimpArgs false
namespace Jvm.RoadKit
open Sem ClassFile Op Lib Jvm.Stand Jvm.Free Jvm.LawKit
section New
variable {p : Program} {l : Launch} {e : Env} {R : Room} {s : State} {m : MethodId} {args : Array Value} {below : List Frame} {meth : Method} {c : Code} {T : State} {locs : List Loc} {cells slots : Nat}
theorem retI (X : Stand p l e R s m args below meth c T locs cells slots) (hx : p.tables.exec = Jvm.exec) {pc : Nat} {Ls : Array Slot} {z : Int32} {rest : List Value} (hret : meth.sig.returnType = some .int) (hd : decode c.code pc = .ok (.ireturn, 1)) {fs : List Frame}
    (hl : ∀ (f : JFrame) (acts : List Action), f.method = m → f.locked = none → f.entered = [] → (doReturn e (T.setTop f) acts (some (.int z))).1 = T.setFrames fs) : Steps p.tables e below (T.setTop (mkF m pc Ls (.int z :: rest))) (T.setFrames fs) := by
  have hm' : T.vm.method? m = some meth := X.method'
  have hn : narrow .int (.int z) = .int z := rfl
  show Steps p.tables e below (T.setTop { method := m, pc := pc, locals := Ls, stack := _ :: rest, locked := none }) _
  jvm_step X.here [X.here.top, hx, hd, hm', hret, hn]
  first | (intro acts; rw [hl _ acts rfl rfl rfl]) | rw [hl _ _ rfl rfl rfl]
  exact Steps.refl _
theorem own_retZ (X : Stand p l e R s m args below meth c T locs cells slots) (hx : p.tables.exec = Jvm.exec) {pc : Nat} {Ls : Array Slot} {z : Int32} {rest : List Value} (hret : meth.sig.returnType = some .boolean) (hz : z &&& 1 = z) (hd : decode c.code pc = .ok (.ireturn, 1)) {fs : List Frame}
    (hl : ∀ (f : JFrame) (acts : List Action), f.method = m → f.locked = none → f.entered = [] → (doReturn e (T.setTop f) acts (some (.int z))).1 = T.setFrames fs) : Steps p.tables e below (T.setTop (mkF m pc Ls (.int z :: rest))) (T.setFrames fs) :=
  retN X hx (t := .boolean) hret (Or.inl rfl) hd (by have q : nar .boolean z = z := hz; rw [q]; exact hl)
theorem own_lrem {g : JFrame} {target : State} (X : Stand p l e R s m args below meth c T locs cells slots) (hx : p.tables.exec = Jvm.exec) (hg : g.method = m) {x y : Int64} {rest : List Value} (hd : decode c.code g.pc = .ok (.lrem, 1)) (hs : g.stack = .long y :: .long x :: rest) (hy : y ≠ 0)
    (hr : Steps p.tables e below (T.setTop { g with pc := g.pc + 1, stack := .long (x % y) :: rest }) target) : Steps p.tables e below (T.setTop g) target :=
  XS.lrem X.here hx hg hd hs hy (by rw [lrem_mod x y]; exact hr)
end New
end Jvm.RoadKit
namespace Jvm.Pilot.@@N@@
open Jvm Jvm.ClassFile Sem Op Lib Jvm.Free Jvm.Stand Jvm.LawKit Jvm.RoadKit Bundle Jvm.Pilot.@@N@@.Jvm.D
section Own
variable {p : Program} {l : Launch} {e : Env} {R : Room} {s : State} {m : MethodId} {args : Array Value} {below : List Frame} {meth : Method} {c : Code} {T : State} {locs : List Loc} {cells slots : Nat} {Z : State} {h h' : Heap} {a b : Addr} {ty : FieldType} {vs : List Value}
/-- the array at a, of elements of kind ty, holds just vs -/
def LA (Z : State) (h : Heap) (a : Addr) (ty : FieldType) (vs : List Value) : Prop := ∃ c : Cell, Arr Z h a c ty ∧ c.slots.toList = vs
theorem LA.lt (F : LA Z h a ty vs) : a < h.size := by obtain ⟨c, A, -⟩ := F; exact A.lt
theorem LA.ext (F : LA Z h a ty vs) (E : Ext h h') : LA Z h' a ty vs := by obtain ⟨c, A, r⟩ := F; exact ⟨c, A.ext E, r⟩
theorem LA.other {sl : Nat} {v : Value} (F : LA Z h b ty vs) (W : Wr h h' a sl v) (q : b ≠ a) : LA Z h' b ty vs := by obtain ⟨c, A, r⟩ := F; exact ⟨c, A.other W q, r⟩
theorem LA.keep {ws : List Addr} (F : LA Z h a ty vs) (K : Keep h h' ws) (q : a ∉ ws) : LA Z h' a ty vs := by obtain ⟨c, A, r⟩ := F; exact ⟨c, ⟨K.2.1 a c A.1 q, A.2⟩, r⟩
theorem LA.new {k : ClassId} {z : Int32} (A : Arr Z h a (newA k ty z) ty) (n : Nat) (q : z.toNatClampNeg = n) : LA Z h a ty (List.replicate n (defaultValue ty)) := ⟨_, A, by subst q; simp [newA]⟩
theorem own_stI (X : Stand p l e R s m args below meth c T locs cells slots) (hx : p.tables.exec = Jvm.exec) (hZ : Z.Warmed39 s.vm) (eT : T.heap = h) (A : LA Z h a .int vs) {j x : Int32} {i : Nat} (hj : j.toNatClampNeg = i) (hi : ¬ j < 0 ∧ i < vs.length) {g : JFrame} (hg : g.method = m) {rest : List Value} (hs : g.stack = .int x :: .int j :: .ref a :: rest) (hd : decode c.code g.pc = .ok (.iastore, 1)) :
    ∃ T' h', Stand p l e R s m args below meth c T' (locs ++ [⟨a, j.toNatClampNeg⟩]) cells slots ∧ T'.heap = h' ∧ Wr h h' a j.toNatClampNeg (.int x) ∧ LA Z h' a .int (vs.set i (.int x)) ∧ ∀ target, Steps p.tables e below (T'.setTop { g with pc := g.pc + 1, stack := rest }) target → Steps p.tables e below (T.setTop g) target := by
  obtain ⟨cl, A, rfl⟩ := A
  subst hj
  have hb : ¬ (j < 0 ∨ cl.slots.size ≤ j.toNatClampNeg) := fun q => q.elim hi.1 fun r => by have := hi.2; rw [Array.length_toList] at this; omega
  obtain ⟨T', h', X', e', W, st⟩ := stI X hx hZ eT A hb hg hs hd
  exact ⟨T', h', X', e', W, ⟨_, A.same W, by simp [Cell.setSlot]⟩, st⟩
theorem own_stJ (X : Stand p l e R s m args below meth c T locs cells slots) (hx : p.tables.exec = Jvm.exec) (hZ : Z.Warmed39 s.vm) (eT : T.heap = h) (A : LA Z h a .long vs) {j : Int32} {x : Int64} {i : Nat} (hj : j.toNatClampNeg = i) (hi : ¬ j < 0 ∧ i < vs.length) {g : JFrame} (hg : g.method = m) {rest : List Value} (hs : g.stack = .long x :: .int j :: .ref a :: rest) (hd : decode c.code g.pc = .ok (.lastore, 1)) :
    ∃ T' h', Stand p l e R s m args below meth c T' (locs ++ [⟨a, j.toNatClampNeg⟩]) cells slots ∧ T'.heap = h' ∧ Wr h h' a j.toNatClampNeg (.long x) ∧ LA Z h' a .long (vs.set i (.long x)) ∧ ∀ target, Steps p.tables e below (T'.setTop { g with pc := g.pc + 1, stack := rest }) target → Steps p.tables e below (T.setTop g) target := by
  obtain ⟨cl, A, rfl⟩ := A
  subst hj
  have hb : ¬ (j < 0 ∨ cl.slots.size ≤ j.toNatClampNeg) := fun q => q.elim hi.1 fun r => by have := hi.2; rw [Array.length_toList] at this; omega
  obtain ⟨T', h', X', e', W, st⟩ := stJ X hx hZ eT A hb hg hs hd
  exact ⟨T', h', X', e', W, ⟨_, A.same W, by simp [Cell.setSlot]⟩, st⟩
theorem own_at {cl : Cell} {j : Int32} {v : Value} (hn : ¬ j < 0) (hat : cl.slots.toList[j.toNatClampNeg]? = some v) : ¬ (j < 0 ∨ cl.slots.size ≤ j.toNatClampNeg) ∧ cl.slots[j.toNatClampNeg]? = some v := by
  have q : cl.slots[j.toNatClampNeg]? = some v := by rw [← Array.getElem?_toList]; exact hat
  exact ⟨fun r => r.elim hn fun z => absurd (Array.getElem?_eq_some_iff.mp q).1 (Nat.not_lt.mpr z), q⟩
theorem own_ldI (X : Stand p l e R s m args below meth c T locs cells slots) (hx : p.tables.exec = Jvm.exec) (hZ : Z.Warmed39 s.vm) (eT : T.heap = h) (A : LA Z h a .int vs) {j x : Int32} (hn : ¬ j < 0) (hat : vs[j.toNatClampNeg]? = some (.int x)) {g : JFrame} (hg : g.method = m) {rest : List Value} (hs : g.stack = .int j :: .ref a :: rest) (hd : decode c.code g.pc = .ok (.iaload, 1)) (target : State)
    (hr : Steps p.tables e below (T.setTop { g with pc := g.pc + 1, stack := .int x :: rest }) target) : Steps p.tables e below (T.setTop g) target := by
  obtain ⟨cl, A, rfl⟩ := A
  exact X.iaload hx (by rw [eT]; exact A.1) (State.isArrayOf_alike hZ.alike A.2.1) A.2.2 (own_at hn hat).1 (own_at hn hat).2 hg hs hd target hr
theorem own_ldJ (X : Stand p l e R s m args below meth c T locs cells slots) (hx : p.tables.exec = Jvm.exec) (hZ : Z.Warmed39 s.vm) (eT : T.heap = h) (A : LA Z h a .long vs) {j : Int32} {x : Int64} (hn : ¬ j < 0) (hat : vs[j.toNatClampNeg]? = some (.long x)) {g : JFrame} (hg : g.method = m) {rest : List Value} (hs : g.stack = .int j :: .ref a :: rest) (hd : decode c.code g.pc = .ok (.laload, 1)) (target : State)
    (hr : Steps p.tables e below (T.setTop { g with pc := g.pc + 1, stack := .long x :: rest }) target) : Steps p.tables e below (T.setTop g) target := by
  obtain ⟨cl, A, rfl⟩ := A
  exact X.laload hx (by rw [eT]; exact A.1) (State.isArrayOf_alike hZ.alike A.2.1) A.2.2 (own_at hn hat).1 (own_at hn hat).2 hg hs hd target hr
theorem own_len (X : Stand p l e R s m args below meth c T locs cells slots) (hx : p.tables.exec = Jvm.exec) (hZ : Z.Warmed39 s.vm) (eT : T.heap = h) (A : LA Z h a ty vs) {n : Int32} (hn : vs.length.toInt32 = n) {g : JFrame} (hg : g.method = m) {rest : List Value} (hs : g.stack = .ref a :: rest) (hd : decode c.code g.pc = .ok (.arraylength, 1)) (target : State)
    (hr : Steps p.tables e below (T.setTop { g with pc := g.pc + 1, stack := .int n :: rest }) target) : Steps p.tables e below (T.setTop g) target := by
  obtain ⟨cl, A, rfl⟩ := A
  refine X.arraylength hx (by rw [eT]; exact A.1) (State.isArrayOf_alike hZ.alike A.2.1) hg hs hd target ?_
  have q : cl.slots.size.toInt32 = n := by rw [← hn, Array.length_toList]
  rw [q]; exact hr
theorem own_clone {a0 : Array Value} (X : Stand p l e R s m args below meth c T locs cells slots) (hx : p.tables.exec = Jvm.exec) (hZ : Z.Warmed39 s.vm) {own ad : String} {index : Nat} (hown : s.vm.findClass own = some m.cls)
    (w1 : (Cond.methodLink own index ⟨ad, "clone", "()Ljava/lang/Object;"⟩).before a0 Z = true) (w2 : (Cond.sameMethod ad "java/lang/Object" "clone" "()Ljava/lang/Object;").before a0 Z = true) (w3 : (Cond.native ⟨"java/lang/Object", "clone", "()Ljava/lang/Object;"⟩).before a0 Z = true)
    (w4 : (Cond.instanceMethod ⟨"java/lang/Object", "clone", "()Ljava/lang/Object;"⟩).before a0 Z = true) (w5 : (Cond.selects ad ⟨ad, "clone", "()Ljava/lang/Object;"⟩ ⟨"java/lang/Object", "clone", "()Ljava/lang/Object;"⟩).before a0 Z = true) (w6 : (Cond.castable ad "java/lang/Cloneable").before a0 Z = true)
    (eT : T.heap = h) (A : LA Z h a ty vs) (E : Exa Z h a ad) (F : ∀ v ∈ vs, fits ty v = true) {g : JFrame} (hg : g.method = m) (hsize : g.locals.size = c.maxLocals) {rest : List Value} (hs : g.stack = .ref a :: rest) (hd : decode c.code g.pc = .ok (.invokevirtual index, 3))
    (hf : 1 ≤ R.frames) {W cap : Nat} (hW : 2 * g.monitorRoom + (rest.map fun v => v.category).sum ≤ W) (hl : W + 14 ≤ R.locals) (hcap : vs.length ≤ cap) (hc : cells + 1 ≤ R.cells) (hsl : slots + cap ≤ R.slots) :
    ∃ T' h', Stand p l e R s m args below meth c T' locs (cells + 1) (slots + cap) ∧ T'.heap = h' ∧ Ext h h' ∧ LA Z h' h.size ty vs ∧ Exa Z h' h.size ad ∧
      ∀ target, Steps p.tables e below (T'.setTop { g with pc := g.pc + 3, stack := .ref h.size :: rest }) target → Steps p.tables e below (T.setTop g) target := by
  obtain ⟨cl, A, rfl⟩ := A
  have FC : FitC Z cl := fitC_of A fun i hi v hv => F v (Array.mem_toList_iff.mpr (Array.mem_of_getElem? hv))
  obtain ⟨T', h', X', e', ex, A', E', st⟩ := cloneA X hx hZ hown w1 w2 w3 w4 w5 w6 eT A E FC hg hsize hs hd hf hW hl (by rw [Array.length_toList] at hcap; exact hcap) hc hsl
  exact ⟨T', h', X', e', ex, ⟨cloneOf cl, A', rfl⟩, E', st⟩
theorem own_fitsJ (xs : List Int64) : ∀ v ∈ xs.map Value.long, fits .long v = true := fun v hv => by
  obtain ⟨x, -, rfl⟩ := List.mem_map.mp hv
  rfl
theorem own_readJ {xs pr rest : List Int64} {x : Int64} {k : Nat} (e : xs = pr ++ x :: rest) (hk : k = pr.length) : (xs.map Value.long)[k]? = some (.long x) := by
  subst e hk
  simp
end Own
theorem own_idx {j : Int32} {n : Nat} (h0 : 0 ≤ j.toInt) (h1 : j.toInt < n) : ¬ j < 0 ∧ j.toNatClampNeg < n := by
  have q : ¬ j < 0 := fun q => by have := Int32.lt_iff_toInt_lt.mp q; have z : (0 : Int32).toInt = 0 := (by decide); omega
  have r := nat_of q
  exact ⟨q, by omega⟩
theorem own_get {vs : List Value} (L : List Int32) (e : vs = L.map Value.int) {k : Nat} (hk : k < L.length) : ∃ x, vs[k]? = some (.int x) := by
  subst e
  exact ⟨L[k], by simp [hk]⟩
theorem own_inj {s t : Int32} {k : Int} (h : s.toInt = k) (e : t.toInt = k) : s = t := Int32.toInt_inj.mp (h.trans e.symm)
theorem own_inc (x : Int32) (h : x.toInt < 2147483647) : (x + (1 : Int32)).toInt = x.toInt + 1 := by
  have c := c_iadd x (1 : Int32)
  have r := rng32 (x + (1 : Int32))
  have q := rng32 x
  have o : (1 : Int32).toInt = 1 := by decide
  omega

theorem own_wS {Z : State} {a0 : Array Value} (hw : ∀ d ∈ tables_1, d.before a0 Z = true) : ∀ a ∈ Bundle.stringAtoms, a.before a0 Z = true := fun a ha => hw a ((by decide +kernel : ∀ a ∈ Bundle.stringAtoms, a ∈ tables_1) a ha)
theorem own_neA {Z : State} {h : Heap} {a b : Addr} {C : String} {a0 : Array Value} {k : Nat} {ty : FieldType} {vs : List Value} (E : Exa Z h a C) (wi : (Cond.instantiable C k).before a0 Z = true) (A : LA Z h b ty vs) : b ≠ a := by
  obtain ⟨c, A, -⟩ := A
  exact Ne.symm (ne_arr E wi A)
def own_lag (x e : Int64) : Int64 := if x = (-1 : Int64) then (-1 : Int64) else (e - x)
theorem own_lm1 {x : Int64} (h : -1 ≤ x.toInt) : ¬ x < (-1 : Int64) := fun q => by have := Int64.lt_iff_toInt_lt.mp q; have o : (-1 : Int64).toInt = -1 := (by decide); omega

def own_off (x : Int64) : Int64 := if x < (0 : Int64) then (-1 : Int64) else x
def own_term (o e : Int64) : Int64 := if o < (0 : Int64) then (0 : Int64) else (e - o)
def own_s (s o e : Int64) : Int64 := if o = (-1 : Int64) then s else (s + (own_lag o e))
def own_f (f : Int32) (o : Int64) : Int32 := if o = (-1 : Int64) then f else (1 : Int32)
def own_tot (o0 o1 o2 e0 e1 e2 : Int64) : Int64 := if (own_f (own_f (own_f (0 : Int32) o0) o1) o2) = (0 : Int32) then (-1 : Int64) else (own_s (own_s (own_s (0 : Int64) o0 e0) o1 e1) o2 e2)
theorem own_offI (x : Int64) : own_off x = (-1 : Int64) ∨ ¬ (own_off x) < (0 : Int64) := by
  unfold own_off
  by_cases h : x < (0 : Int64)
  · rw [if_pos h]; exact Or.inl rfl
  · rw [if_neg h]; exact Or.inr h
theorem own_three (a b c : Int64) (ha : a = (-1 : Int64) ∨ ¬ a < (0 : Int64)) (hb : b = (-1 : Int64) ∨ ¬ b < (0 : Int64)) (hc : c = (-1 : Int64) ∨ ¬ c < (0 : Int64)) : ∀ x ∈ [a, b, c], -1 ≤ x.toInt := fun x hx => by
  have k : ∀ z : Int64, (z = (-1 : Int64) ∨ ¬ z < (0 : Int64)) → -1 ≤ z.toInt := fun z hz => by
    rcases hz with rfl | hz
    · decide
    · have z0 : (0 : Int64).toInt = 0 := by decide
      have : ¬ z.toInt < 0 := fun q => hz (Int64.lt_iff_toInt_lt.mpr (by rw [z0]; exact q))
      omega
  rcases List.mem_cons.mp hx with rfl | hx
  · exact k _ ha
  · rcases List.mem_cons.mp hx with rfl | hx
    · exact k _ hb
    · rcases List.mem_cons.mp hx with rfl | hx
      · exact k _ hc
      · exact absurd hx (by simp)
theorem own_m0 : (-1 : Int64) < (0 : Int64) := by decide
theorem own_fin (o0 o1 o2 e0 e1 e2 : Int64) (h0 : o0 = (-1 : Int64) ∨ ¬ o0 < (0 : Int64)) (h1 : o1 = (-1 : Int64) ∨ ¬ o1 < (0 : Int64)) (h2 : o2 = (-1 : Int64) ∨ ¬ o2 < (0 : Int64)) (st : Int32) (hst : st = (if o0 < (0 : Int64) then (if o1 < (0 : Int64) then (if o2 < (0 : Int64) then (0 : Int32) else (1 : Int32)) else (1 : Int32)) else (1 : Int32))) :
    own_tot o0 o1 o2 e0 e1 e2 = (if st = (0 : Int32) then (-1 : Int64) else (((own_term o0 e0) + (own_term o1 e1)) + (own_term o2 e2))) := by
  have n1 : ∀ {x : Int64}, ¬ x < (0 : Int64) → ¬ x = (-1 : Int64) := fun h q => h (q ▸ own_m0)
  have z10 : ¬ (1 : Int32) = (0 : Int32) := by decide
  subst hst
  unfold own_tot own_s own_f own_lag own_term
  rcases h0 with rfl | h0 <;> rcases h1 with rfl | h1 <;> rcases h2 with rfl | h2
  · simp only [if_pos own_m0, if_true]
  · simp only [if_pos own_m0, if_true, if_neg h2, if_neg (n1 h2), if_neg z10, Int64.zero_add]
  · simp only [if_pos own_m0, if_true, if_neg h1, if_neg (n1 h1), if_neg z10, Int64.zero_add, Int64.add_zero]
  · simp only [if_pos own_m0, if_true, if_neg h1, if_neg (n1 h1), if_neg h2, if_neg (n1 h2), if_neg z10, Int64.zero_add, Int64.add_zero]
  · simp only [if_pos own_m0, if_true, if_neg h0, if_neg (n1 h0), if_neg z10, Int64.zero_add, Int64.add_zero]
  · simp only [if_pos own_m0, if_true, if_neg h0, if_neg (n1 h0), if_neg h2, if_neg (n1 h2), if_neg z10, Int64.zero_add, Int64.add_zero]
  · simp only [if_pos own_m0, if_true, if_neg h0, if_neg (n1 h0), if_neg h1, if_neg (n1 h1), if_neg z10, Int64.zero_add, Int64.add_zero]
  · simp only [if_neg h0, if_neg (n1 h0), if_neg h1, if_neg (n1 h1), if_neg h2, if_neg (n1 h2), if_neg z10, Int64.zero_add]
theorem d1_0 : decode method_2_code 0 = .ok (.lload_n 0, 1) := by decide +kernel
theorem d1_1 : decode method_2_code 1 = .ok (.lconst 0, 1) := by decide +kernel
theorem d1_2 : decode method_2_code 2 = .ok (.lcmp, 1) := by decide +kernel
theorem d1_3 : decode method_2_code 3 = .ok (.ifCond .ge 9, 3) := by decide +kernel
theorem d1_6 : decode method_2_code 6 = .ok (.ldc2_w 9, 3) := by decide +kernel
theorem d1_9 : decode method_2_code 9 = .ok (.goto 4, 3) := by decide +kernel
theorem d1_13 : decode method_2_code 13 = .ok (.lreturn, 1) := by decide +kernel
theorem d1_12 : decode method_2_code 12 = .ok (.lload_n 0, 1) := by decide +kernel
theorem pn_0 : plainName "com/example/ingest/ingest/common/GroupProgressLag275PinLaw" = true := by first | (simp [plainName, overriddenIn]; done) | decide +kernel
theorem ef_rm1 (m : MethodId) (x0 : Int64) : entryFrame m #[(.long x0)] 2 = mkF m 0 #[.val (.long x0), .second] [] := by first | (simp [entryFrame, mkF, argsToLocals, Value.category]; done) | rfl
def Q1 (Z : State) (x : Int64) (h0 : Heap) (n0 : Nat) (v : Option Value) (h : Heap) (L : List Loc) : Prop := v = some (.long (own_off x)) ∧ Fr n0 L ∧ h = h0
set_option maxRecDepth 65536 in
set_option maxHeartbeats 40000000 in
theorem rm1 (l : Launch) (Z : State) (a0 : Array Value) (hw : ∀ d ∈ tables_1, d.before a0 Z = true) (ws : List Jvm.Cond) (x : Int64) (h0 : Heap) (n0 : Nat) (Z0 : n0 ≤ h0.size) :
    MetFree l (⟨"com/example/ingest/ingest/common/GroupProgressLag275PinLaw", "off", "(J)J"⟩ : MethodName) (head1 (Jvm.Cond.code (⟨"com/example/ingest/ingest/common/GroupProgressLag275PinLaw", "off", "(J)J"⟩ : MethodName) method_2_code 2 (some .long) :: ws) ({ frames := 0, cells := 0, slots := 0, locals := 0 } : Room)) (fun aa U => aa = #[(.long x)] ∧ Z.Warmed39 U.vm ∧ U.heap = h0) (fun _ _ _ _ _ => True) (fun _ U o U' => ∃ v L, o = .returned v ∧ Q1 Z x h0 n0 v U'.heap L ∧ FrameEnd U o U' L ({ frames := 0, cells := 0, slots := 0, locals := 0 } : Room).cells ({ frames := 0, cells := 0, slots := 0, locals := 0 } : Room).slots) := by
  refine MetFree.of_bodySF (plainFor_of_name pn_0) hisR ?_
  intro p e s m args below meth c s₁ Bd hml0 hP hK
  obtain ⟨rfl, hZ, hh⟩ := hP
  have hx := Bd.exec
  have hby := Bd.bytes
  have hml : c.maxLocals = 2 := hml0
  have hown : s.vm.findClass "com/example/ingest/ingest/common/GroupProgressLag275PinLaw" = some m.cls := findClass_of_methodNamed Bd.named
  have hnm := (name_of_methodNamed Bd.named Bd.method).1
  have X0 : Stand p l e ({ frames := 0, cells := 0, slots := 0, locals := 0 } : Room) s m #[(.long x)] below meth c s₁ [] 0 0 := Stand.of_body Bd
  have e0 : s₁.heap = h0 := by rw [← hh, Bd.state]; rfl
  have N0 := Fr.nil n0
  obtain ⟨Ω, hΩ⟩ : ∃ z, z = s₁.setTop (entryFrame m #[(.long x)] 2) := ⟨_, rfl⟩
  have S0 : Steps p.tables e below Ω (s₁.setTop (mkF m 0 #[.val (.long x), .second] [])) := by rw [hΩ]; exact castTop (ef_rm1 m x) (Steps.refl _)
  have S1 : Steps p.tables e below Ω (s₁.setTop (mkF m 3 #[.val (.long x), .second] [(.int (lcmpW x (0 : Int64)))])) := by
    refine S0.trans ?_
    refine XS.lloadN X0.here hx rfl (hb hby d1_0) rfl ?_
    show Steps p.tables e below (s₁.setTop (mkF m 1 #[.val (.long x), .second] [(.long x)])) _
    refine XS.lconst X0.here hx rfl (hb hby d1_1) ?_
    show Steps p.tables e below (s₁.setTop (mkF m 2 #[.val (.long x), .second] [(.long (0 : Int64)), (.long x)])) _
    refine XS.lcmp X0.here hx rfl (hb hby d1_2) rfl ?_
    exact Steps.refl _
  by_cases hc : x < (0 : Int64)
  · have qhc : x.toInt < 0 := Int64.lt_iff_toInt_lt.mp hc
    have S2 : Steps p.tables e below Ω (s₁.setTop (mkF m 13 #[.val (.long x), .second] [(.long (-1 : Int64))])) := by
      refine S1.trans ?_
      refine XS.ifNo X0.here hx rfl (hb hby d1_3) rfl (XT.ll_ge_f hc) ?_
      show Steps p.tables e below (s₁.setTop (mkF m 6 #[.val (.long x), .second] [])) _
      refine X0.ldc2Long hx hown (mvT hZ (hw _ (List.mem_of_getElem? (i := 4) rfl))) (g := (mkF m 6 #[.val (.long x), .second] [])) rfl (hb hby d1_6) _ ?_
      show Steps p.tables e below (s₁.setTop (mkF m 9 #[.val (.long x), .second] [(.long (-1 : Int64))])) _
      refine XS.goto X0.here hx rfl (pc0 := 9) (pc' := 13) rfl (hb hby d1_9) (by decide) (by decide) ?_
      exact Steps.refl _
    obtain ⟨fs, hr, hrun, hended, hW, hsame⟩ := X0.leave (v := some (.long (-1 : Int64))) (fun h => by rw [Bd.returns] at h; cases h)
    have hfin : Steps p.tables e below Ω (s₁.setFrames fs) := by
      refine S2.trans ?_
      exact X0.lreturnOut hx Bd.returns (hb hby d1_13) hr
    rw [hΩ] at hfin
    refine ⟨_, _, hfin, hrun, hended, _, _, rfl, ?_, ⟨_, rfl⟩, hW, hsame.mono (by decide) (by decide)⟩
    show Q1 Z x h0 n0 _ s₁.heap _
    rw [e0]
    exact ⟨by rw [own_off, if_pos hc], N0, rfl⟩
  · have qhc : ¬ x.toInt < 0 := fun q => hc (Int64.lt_iff_toInt_lt.mpr q)
    have S3 : Steps p.tables e below Ω (s₁.setTop (mkF m 13 #[.val (.long x), .second] [(.long x)])) := by
      refine S1.trans ?_
      refine XS.ifYes X0.here hx rfl (pc0 := 3) (pc' := 12) rfl (hb hby d1_3) rfl (XT.ll_ge_t hc) (by decide) (by decide) ?_
      show Steps p.tables e below (s₁.setTop (mkF m 12 #[.val (.long x), .second] [])) _
      refine XS.lloadN X0.here hx rfl (hb hby d1_12) rfl ?_
      exact Steps.refl _
    obtain ⟨fs, hr, hrun, hended, hW, hsame⟩ := X0.leave (v := some (.long x)) (fun h => by rw [Bd.returns] at h; cases h)
    have hfin : Steps p.tables e below Ω (s₁.setFrames fs) := by
      refine S3.trans ?_
      exact X0.lreturnOut hx Bd.returns (hb hby d1_13) hr
    rw [hΩ] at hfin
    refine ⟨_, _, hfin, hrun, hended, _, _, rfl, ?_, ⟨_, rfl⟩, hW, hsame.mono (by decide) (by decide)⟩
    show Q1 Z x h0 n0 _ s₁.heap _
    rw [e0]
    exact ⟨by rw [own_off, if_neg hc], N0, rfl⟩
theorem d10_0 : decode method_3_code 0 = .ok (.lload_n 0, 1) := by decide +kernel
theorem d10_1 : decode method_3_code 1 = .ok (.lconst 0, 1) := by decide +kernel
theorem d10_2 : decode method_3_code 2 = .ok (.lcmp, 1) := by decide +kernel
theorem d10_3 : decode method_3_code 3 = .ok (.ifCond .ge 7, 3) := by decide +kernel
theorem d10_6 : decode method_3_code 6 = .ok (.lconst 0, 1) := by decide +kernel
theorem d10_7 : decode method_3_code 7 = .ok (.goto 6, 3) := by decide +kernel
theorem d10_13 : decode method_3_code 13 = .ok (.lreturn, 1) := by decide +kernel
theorem d10_10 : decode method_3_code 10 = .ok (.lload_n 2, 1) := by decide +kernel
theorem d10_11 : decode method_3_code 11 = .ok (.lload_n 0, 1) := by decide +kernel
theorem d10_12 : decode method_3_code 12 = .ok (.lsub, 1) := by decide +kernel
theorem ef_rm10 (m : MethodId) (x0 : Int64) (x1 : Int64) : entryFrame m #[(.long x0), (.long x1)] 4 = mkF m 0 #[.val (.long x0), .second, .val (.long x1), .second] [] := by first | (simp [entryFrame, mkF, argsToLocals, Value.category]; done) | rfl
def Q10 (Z : State) (ov : Int64) (x : Int64) (h0 : Heap) (n0 : Nat) (v : Option Value) (h : Heap) (L : List Loc) : Prop := v = some (.long (own_term ov x)) ∧ Fr n0 L ∧ h = h0
set_option maxRecDepth 65536 in
set_option maxHeartbeats 40000000 in
theorem rm10 (l : Launch) (Z : State) (a0 : Array Value) (hw : ∀ d ∈ tables_1, d.before a0 Z = true) (ws : List Jvm.Cond) (ov : Int64) (x : Int64) (h0 : Heap) (n0 : Nat) (Z0 : n0 ≤ h0.size) :
    MetFree l (⟨"com/example/ingest/ingest/common/GroupProgressLag275PinLaw", "term", "(JJ)J"⟩ : MethodName) (head1 (Jvm.Cond.code (⟨"com/example/ingest/ingest/common/GroupProgressLag275PinLaw", "term", "(JJ)J"⟩ : MethodName) method_3_code 4 (some .long) :: ws) ({ frames := 0, cells := 0, slots := 0, locals := 0 } : Room)) (fun aa U => aa = #[(.long ov), (.long x)] ∧ Z.Warmed39 U.vm ∧ U.heap = h0) (fun _ _ _ _ _ => True) (fun _ U o U' => ∃ v L, o = .returned v ∧ Q10 Z ov x h0 n0 v U'.heap L ∧ FrameEnd U o U' L ({ frames := 0, cells := 0, slots := 0, locals := 0 } : Room).cells ({ frames := 0, cells := 0, slots := 0, locals := 0 } : Room).slots) := by
  refine MetFree.of_bodySF (plainFor_of_name pn_0) hisR ?_
  intro p e s m args below meth c s₁ Bd hml0 hP hK
  obtain ⟨rfl, hZ, hh⟩ := hP
  have hx := Bd.exec
  have hby := Bd.bytes
  have hml : c.maxLocals = 4 := hml0
  have hown : s.vm.findClass "com/example/ingest/ingest/common/GroupProgressLag275PinLaw" = some m.cls := findClass_of_methodNamed Bd.named
  have hnm := (name_of_methodNamed Bd.named Bd.method).1
  have X0 : Stand p l e ({ frames := 0, cells := 0, slots := 0, locals := 0 } : Room) s m #[(.long ov), (.long x)] below meth c s₁ [] 0 0 := Stand.of_body Bd
  have e0 : s₁.heap = h0 := by rw [← hh, Bd.state]; rfl
  have N0 := Fr.nil n0
  obtain ⟨Ω, hΩ⟩ : ∃ z, z = s₁.setTop (entryFrame m #[(.long ov), (.long x)] 4) := ⟨_, rfl⟩
  have S0 : Steps p.tables e below Ω (s₁.setTop (mkF m 0 #[.val (.long ov), .second, .val (.long x), .second] [])) := by rw [hΩ]; exact castTop (ef_rm10 m ov x) (Steps.refl _)
  have S1 : Steps p.tables e below Ω (s₁.setTop (mkF m 3 #[.val (.long ov), .second, .val (.long x), .second] [(.int (lcmpW ov (0 : Int64)))])) := by
    refine S0.trans ?_
    refine XS.lloadN X0.here hx rfl (hb hby d10_0) rfl ?_
    show Steps p.tables e below (s₁.setTop (mkF m 1 #[.val (.long ov), .second, .val (.long x), .second] [(.long ov)])) _
    refine XS.lconst X0.here hx rfl (hb hby d10_1) ?_
    show Steps p.tables e below (s₁.setTop (mkF m 2 #[.val (.long ov), .second, .val (.long x), .second] [(.long (0 : Int64)), (.long ov)])) _
    refine XS.lcmp X0.here hx rfl (hb hby d10_2) rfl ?_
    exact Steps.refl _
  by_cases hc : ov < (0 : Int64)
  · have qhc : ov.toInt < 0 := Int64.lt_iff_toInt_lt.mp hc
    have S2 : Steps p.tables e below Ω (s₁.setTop (mkF m 13 #[.val (.long ov), .second, .val (.long x), .second] [(.long (0 : Int64))])) := by
      refine S1.trans ?_
      refine XS.ifNo X0.here hx rfl (hb hby d10_3) rfl (XT.ll_ge_f hc) ?_
      show Steps p.tables e below (s₁.setTop (mkF m 6 #[.val (.long ov), .second, .val (.long x), .second] [])) _
      refine XS.lconst X0.here hx rfl (hb hby d10_6) ?_
      show Steps p.tables e below (s₁.setTop (mkF m 7 #[.val (.long ov), .second, .val (.long x), .second] [(.long (0 : Int64))])) _
      refine XS.goto X0.here hx rfl (pc0 := 7) (pc' := 13) rfl (hb hby d10_7) (by decide) (by decide) ?_
      exact Steps.refl _
    obtain ⟨fs, hr, hrun, hended, hW, hsame⟩ := X0.leave (v := some (.long (0 : Int64))) (fun h => by rw [Bd.returns] at h; cases h)
    have hfin : Steps p.tables e below Ω (s₁.setFrames fs) := by
      refine S2.trans ?_
      exact X0.lreturnOut hx Bd.returns (hb hby d10_13) hr
    rw [hΩ] at hfin
    refine ⟨_, _, hfin, hrun, hended, _, _, rfl, ?_, ⟨_, rfl⟩, hW, hsame.mono (by decide) (by decide)⟩
    show Q10 Z ov x h0 n0 _ s₁.heap _
    rw [e0]
    exact ⟨by rw [own_term, if_pos hc], N0, rfl⟩
  · have qhc : ¬ ov.toInt < 0 := fun q => hc (Int64.lt_iff_toInt_lt.mpr q)
    have S3 : Steps p.tables e below Ω (s₁.setTop (mkF m 13 #[.val (.long ov), .second, .val (.long x), .second] [(.long (x - ov))])) := by
      refine S1.trans ?_
      refine XS.ifYes X0.here hx rfl (pc0 := 3) (pc' := 10) rfl (hb hby d10_3) rfl (XT.ll_ge_t hc) (by decide) (by decide) ?_
      show Steps p.tables e below (s₁.setTop (mkF m 10 #[.val (.long ov), .second, .val (.long x), .second] [])) _
      refine XS.lloadN X0.here hx rfl (hb hby d10_10) rfl ?_
      show Steps p.tables e below (s₁.setTop (mkF m 11 #[.val (.long ov), .second, .val (.long x), .second] [(.long x)])) _
      refine XS.lloadN X0.here hx rfl (hb hby d10_11) rfl ?_
      show Steps p.tables e below (s₁.setTop (mkF m 12 #[.val (.long ov), .second, .val (.long x), .second] [(.long ov), (.long x)])) _
      refine XS.lsub X0.here hx rfl (hb hby d10_12) rfl ?_
      exact Steps.refl _
    obtain ⟨fs, hr, hrun, hended, hW, hsame⟩ := X0.leave (v := some (.long (x - ov))) (fun h => by rw [Bd.returns] at h; cases h)
    have hfin : Steps p.tables e below Ω (s₁.setFrames fs) := by
      refine S3.trans ?_
      exact X0.lreturnOut hx Bd.returns (hb hby d10_13) hr
    rw [hΩ] at hfin
    refine ⟨_, _, hfin, hrun, hended, _, _, rfl, ?_, ⟨_, rfl⟩, hW, hsame.mono (by decide) (by decide)⟩
    show Q10 Z ov x h0 n0 _ s₁.heap _
    rw [e0]
    exact ⟨by rw [own_term, if_neg hc], N0, rfl⟩
theorem d4_0 : decode prog_45_method_3_code 0 = .ok (.iload_n 0, 1) := by decide +kernel
theorem d4_1 : decode prog_45_method_3_code 1 = .ok (.iconst 1, 1) := by decide +kernel
theorem d4_2 : decode prog_45_method_3_code 2 = .ok (.if_icmp .lt 10, 3) := by decide +kernel
theorem d4_5 : decode prog_45_method_3_code 5 = .ok (.iload_n 0, 1) := by decide +kernel
theorem d4_6 : decode prog_45_method_3_code 6 = .ok (.sipush 256, 3) := by decide +kernel
theorem d4_9 : decode prog_45_method_3_code 9 = .ok (.if_icmp .le 17, 3) := by decide +kernel
theorem d4_26 : decode prog_45_method_3_code 26 = .ok (.iload_n 0, 1) := by decide +kernel
theorem d4_27 : decode prog_45_method_3_code 27 = .ok (.ireturn, 1) := by decide +kernel
theorem pn_1 : plainName "com/example/ingest/ingest/common/Protocol" = true := by first | (simp [plainName, overriddenIn]; done) | decide +kernel
theorem ef_rm4 (m : MethodId) (x0 : Int32) : entryFrame m #[(.int x0)] 1 = mkF m 0 #[.val (.int x0)] [] := by first | (simp [entryFrame, mkF, argsToLocals, Value.category]; done) | rfl
def Q4 (Z : State) (p1 : Int32) (h0 : Heap) (n0 : Nat) (v : Option Value) (h : Heap) (L : List Loc) : Prop := v = some (.int p1) ∧ Fr n0 L ∧ h = h0
set_option maxRecDepth 65536 in
set_option maxHeartbeats 40000000 in
theorem rm4 (l : Launch) (Z : State) (a0 : Array Value) (hw : ∀ d ∈ tables_1, d.before a0 Z = true) (ws : List Jvm.Cond) (p1 : Int32) (h0 : Heap) (n0 : Nat) (Z0 : n0 ≤ h0.size) (b1 : ¬ p1 < (1 : Int32)) (b2 : ¬ (256 : Int32) < p1) :
    MetFree l (⟨"com/example/ingest/ingest/common/Protocol", "checkQueueCount", "(I)I"⟩ : MethodName) (head1 (Jvm.Cond.code (⟨"com/example/ingest/ingest/common/Protocol", "checkQueueCount", "(I)I"⟩ : MethodName) prog_45_method_3_code 1 (some .int) :: ws) ({ frames := 0, cells := 0, slots := 0, locals := 0 } : Room)) (fun aa U => aa = #[(.int p1)] ∧ Z.Warmed39 U.vm ∧ U.heap = h0) (fun _ _ _ _ _ => True) (fun _ U o U' => ∃ v L, o = .returned v ∧ Q4 Z p1 h0 n0 v U'.heap L ∧ FrameEnd U o U' L ({ frames := 0, cells := 0, slots := 0, locals := 0 } : Room).cells ({ frames := 0, cells := 0, slots := 0, locals := 0 } : Room).slots) := by
  refine MetFree.of_bodySF (plainFor_of_name pn_1) hisR ?_
  intro p e s m args below meth c s₁ Bd hml0 hP hK
  obtain ⟨rfl, hZ, hh⟩ := hP
  have hx := Bd.exec
  have hby := Bd.bytes
  have hml : c.maxLocals = 1 := hml0
  have hown : s.vm.findClass "com/example/ingest/ingest/common/Protocol" = some m.cls := findClass_of_methodNamed Bd.named
  have hnm := (name_of_methodNamed Bd.named Bd.method).1
  have X0 : Stand p l e ({ frames := 0, cells := 0, slots := 0, locals := 0 } : Room) s m #[(.int p1)] below meth c s₁ [] 0 0 := Stand.of_body Bd
  have e0 : s₁.heap = h0 := by rw [← hh, Bd.state]; rfl
  have N0 := Fr.nil n0
  obtain ⟨Ω, hΩ⟩ : ∃ z, z = s₁.setTop (entryFrame m #[(.int p1)] 1) := ⟨_, rfl⟩
  have S0 : Steps p.tables e below Ω (s₁.setTop (mkF m 0 #[.val (.int p1)] [])) := by rw [hΩ]; exact castTop (ef_rm4 m p1) (Steps.refl _)
  have S1 : Steps p.tables e below Ω (s₁.setTop (mkF m 27 #[.val (.int p1)] [(.int p1)])) := by
    refine S0.trans ?_
    refine XS.iloadN X0.here hx rfl (hb hby d4_0) rfl ?_
    show Steps p.tables e below (s₁.setTop (mkF m 1 #[.val (.int p1)] [(.int p1)])) _
    refine XS.iconst X0.here hx rfl (hb hby d4_1) ?_
    show Steps p.tables e below (s₁.setTop (mkF m 2 #[.val (.int p1)] [(.int (1 : Int32)), (.int p1)])) _
    refine XS.icmpNo X0.here hx rfl (hb hby d4_2) rfl (XT.ii_lt_f b1) ?_
    show Steps p.tables e below (s₁.setTop (mkF m 5 #[.val (.int p1)] [])) _
    refine XS.iloadN X0.here hx rfl (hb hby d4_5) rfl ?_
    show Steps p.tables e below (s₁.setTop (mkF m 6 #[.val (.int p1)] [(.int p1)])) _
    refine XS.sipush X0.here hx rfl (hb hby d4_6) ?_
    show Steps p.tables e below (s₁.setTop (mkF m 9 #[.val (.int p1)] [(.int (256 : Int32)), (.int p1)])) _
    refine XS.icmpYes X0.here hx rfl (pc0 := 9) (pc' := 26) rfl (hb hby d4_9) rfl (XT.ii_le_t b2) (by decide) (by decide) ?_
    show Steps p.tables e below (s₁.setTop (mkF m 26 #[.val (.int p1)] [])) _
    refine XS.iloadN X0.here hx rfl (hb hby d4_26) rfl ?_
    exact Steps.refl _
  obtain ⟨fs, hr, hrun, hended, hW, hsame⟩ := X0.leave (v := some (.int p1)) (fun h => by rw [Bd.returns] at h; cases h)
  have hfin : Steps p.tables e below Ω (s₁.setFrames fs) := by
    refine S1.trans ?_
    exact retI X0 hx Bd.returns (hb hby d4_27) hr
  rw [hΩ] at hfin
  refine ⟨_, _, hfin, hrun, hended, _, _, rfl, ?_, ⟨_, rfl⟩, hW, hsame.mono (by decide) (by decide)⟩
  show Q4 Z p1 h0 n0 _ s₁.heap _
  rw [e0]
  exact ⟨rfl, N0, rfl⟩
theorem d5_0 : decode prog_27_method_13_code 0 = .ok (.iconst 0, 1) := by decide +kernel
theorem d5_1 : decode prog_27_method_13_code 1 = .ok (.istore_n 2, 1) := by decide +kernel
theorem d5_2 : decode prog_27_method_13_code 2 = .ok (.iload_n 2, 1) := by decide +kernel
theorem d5_3 : decode prog_27_method_13_code 3 = .ok (.aload_n 1, 1) := by decide +kernel
theorem d5_4 : decode prog_27_method_13_code 4 = .ok (.arraylength, 1) := by decide +kernel
theorem d5_5 : decode prog_27_method_13_code 5 = .ok (.if_icmp .ge 37, 3) := by decide +kernel
theorem d5_8 : decode prog_27_method_13_code 8 = .ok (.aload_n 1, 1) := by decide +kernel
theorem d5_9 : decode prog_27_method_13_code 9 = .ok (.iload_n 2, 1) := by decide +kernel
theorem d5_10 : decode prog_27_method_13_code 10 = .ok (.laload, 1) := by decide +kernel
theorem d5_11 : decode prog_27_method_13_code 11 = .ok (.ldc2_w 54, 3) := by decide +kernel
theorem d5_14 : decode prog_27_method_13_code 14 = .ok (.lcmp, 1) := by decide +kernel
theorem d5_15 : decode prog_27_method_13_code 15 = .ok (.ifCond .ge 21, 3) := by decide +kernel
theorem d5_36 : decode prog_27_method_13_code 36 = .ok (.iinc 2 1, 3) := by decide +kernel
theorem d5_39 : decode prog_27_method_13_code 39 = .ok (.goto (-37), 3) := by decide +kernel
theorem d5_42 : decode prog_27_method_13_code 42 = .ok (.return_, 1) := by decide +kernel
theorem pn_2 : plainName "com/example/ingest/ingest/common/GroupProgress" = true := by first | (simp [plainName, overriddenIn]; done) | decide +kernel
theorem ef_rm5 (m : MethodId) (x0 : Addr) (x1 : Addr) : entryFrame m #[(.ref x0), (.ref x1)] 3 = mkF m 0 #[.val (.ref x0), .val (.ref x1), .unset] [] := by first | (simp [entryFrame, mkF, argsToLocals, Value.category]; done) | rfl
def Q5 (Z : State) (s1 : Addr) (b : Addr) (xs : List Int64) (h0 : Heap) (n0 : Nat) (v : Option Value) (h : Heap) (L : List Loc) : Prop := v = none ∧ Fr n0 L ∧ h = h0
set_option maxRecDepth 65536 in
set_option maxHeartbeats 40000000 in
theorem rm5 (l : Launch) (Z : State) (a0 : Array Value) (hw : ∀ d ∈ tables_1, d.before a0 Z = true) (ws : List Jvm.Cond) (s1 : Addr) (b : Addr) (xs : List Int64) (h0 : Heap) (n0 : Nat) (Z0 : n0 ≤ h0.size) (A1 : LA Z h0 b .long (xs.map Value.long)) (b1 : xs.length = 3) (b2 : ∀ x ∈ xs, -1 ≤ x.toInt) :
    MetFree l (⟨"com/example/ingest/ingest/common/GroupProgress", "checkOffsets", "(Ljava/lang/String;[J)V"⟩ : MethodName) (head1 (Jvm.Cond.code (⟨"com/example/ingest/ingest/common/GroupProgress", "checkOffsets", "(Ljava/lang/String;[J)V"⟩ : MethodName) prog_27_method_13_code 3 none :: ws) ({ frames := 0, cells := 0, slots := 0, locals := 0 } : Room)) (fun aa U => aa = #[(.ref s1), (.ref b)] ∧ Z.Warmed39 U.vm ∧ U.heap = h0) (fun _ _ _ _ _ => True) (fun _ U o U' => ∃ v L, o = .returned v ∧ Q5 Z s1 b xs h0 n0 v U'.heap L ∧ FrameEnd U o U' L ({ frames := 0, cells := 0, slots := 0, locals := 0 } : Room).cells ({ frames := 0, cells := 0, slots := 0, locals := 0 } : Room).slots) := by
  refine MetFree.of_bodySF (plainFor_of_name pn_2) hisR ?_
  intro p e s m args below meth c s₁ Bd hml0 hP hK
  obtain ⟨rfl, hZ, hh⟩ := hP
  have hx := Bd.exec
  have hby := Bd.bytes
  have hml : c.maxLocals = 3 := hml0
  have hown : s.vm.findClass "com/example/ingest/ingest/common/GroupProgress" = some m.cls := findClass_of_methodNamed Bd.named
  have hnm := (name_of_methodNamed Bd.named Bd.method).1
  have X0 : Stand p l e ({ frames := 0, cells := 0, slots := 0, locals := 0 } : Room) s m #[(.ref s1), (.ref b)] below meth c s₁ [] 0 0 := Stand.of_body Bd
  have e0 : s₁.heap = h0 := by rw [← hh, Bd.state]; rfl
  have N0 := Fr.nil n0
  obtain ⟨Ω, hΩ⟩ : ∃ z, z = s₁.setTop (entryFrame m #[(.ref s1), (.ref b)] 3) := ⟨_, rfl⟩
  have S0 : Steps p.tables e below Ω (s₁.setTop (mkF m 0 #[.val (.ref s1), .val (.ref b), .unset] [])) := by rw [hΩ]; exact castTop (ef_rm5 m s1 b) (Steps.refl _)
  have S1 : Steps p.tables e below Ω (s₁.setTop (mkF m 2 #[.val (.ref s1), .val (.ref b), .val (.int (0 : Int32))] [])) := by
    refine S0.trans ?_
    refine XS.iconst X0.here hx rfl (hb hby d5_0) ?_
    show Steps p.tables e below (s₁.setTop (mkF m 1 #[.val (.ref s1), .val (.ref b), .unset] [(.int (0 : Int32))])) _
    refine XS.istoreN X0.here hx rfl (hb hby d5_1) rfl (l' := #[.val (.ref s1), .val (.ref b), .val (.int (0 : Int32))]) rfl ?_
    exact Steps.refl _
  have hn : (xs.map Value.long).length.toInt32 = (3 : Int32) := by rw [List.length_map, b1]; rfl
  have n3 : (3 : Int32).toInt = 3 := by decide
  have LOOP : ∀ (rest pr : List Int64) (i : Int32), xs = pr ++ rest → i.toInt = pr.length → ∃ j : Int32, Steps p.tables e below (s₁.setTop (mkF m 2 #[.val (.ref s1), .val (.ref b), .val (.int i)] [])) (s₁.setTop (mkF m 42 #[.val (.ref s1), .val (.ref b), .val (.int j)] [])) := by
    intro rest
    induction rest with
    | nil =>
      intro pr i hxs hi
      have hlen : xs.length = pr.length := by rw [hxs, List.append_nil]
      have hc : ¬ i < (3 : Int32) := fun q => by have := Int32.lt_iff_toInt_lt.mp q; omega
      have P2 : Steps p.tables e below (s₁.setTop (mkF m 2 #[.val (.ref s1), .val (.ref b), .val (.int i)] [])) (s₁.setTop (mkF m 2 #[.val (.ref s1), .val (.ref b), .val (.int i)] [])) := Steps.refl _
      have S3 : Steps p.tables e below (s₁.setTop (mkF m 2 #[.val (.ref s1), .val (.ref b), .val (.int i)] [])) (s₁.setTop (mkF m 4 #[.val (.ref s1), .val (.ref b), .val (.int i)] [(.ref b), (.int i)])) := by
        refine P2.trans ?_
        refine XS.iloadN X0.here hx rfl (hb hby d5_2) rfl ?_
        show Steps p.tables e below (s₁.setTop (mkF m 3 #[.val (.ref s1), .val (.ref b), .val (.int i)] [(.int i)])) _
        refine XS.aloadN X0.here hx rfl (hb hby d5_3) rfl rfl ?_
        exact Steps.refl _
      have S4 : Steps p.tables e below (s₁.setTop (mkF m 2 #[.val (.ref s1), .val (.ref b), .val (.int i)] [])) (s₁.setTop (mkF m 5 #[.val (.ref s1), .val (.ref b), .val (.int i)] [(.int (3 : Int32)), (.int i)])) := S3.trans (own_len X0 hx hZ e0 A1 (n := (3 : Int32)) hn (g := (mkF m 4 #[.val (.ref s1), .val (.ref b), .val (.int i)] [(.ref b), (.int i)])) rfl rfl (hb hby d5_4) _ (Steps.refl _))
      have S5 : Steps p.tables e below (s₁.setTop (mkF m 2 #[.val (.ref s1), .val (.ref b), .val (.int i)] [])) (s₁.setTop (mkF m 42 #[.val (.ref s1), .val (.ref b), .val (.int i)] [])) := by
        refine S4.trans ?_
        refine XS.icmpYes X0.here hx rfl (pc0 := 5) (pc' := 42) rfl (hb hby d5_5) rfl (XT.ii_ge_t hc) (by decide) (by decide) ?_
        exact Steps.refl _
      exact ⟨i, S5⟩
    | cons x rest ih =>
      intro pr i hxs hi
      have hlen : xs.length = pr.length + (rest.length + 1) := by rw [hxs, List.length_append, List.length_cons]
      have hc : i < (3 : Int32) := Int32.lt_iff_toInt_lt.mpr (by omega)
      have hin := own_idx (j := i) (n := 3) (by omega) (by omega)
      have hnat := nat_of hin.1
      have hrd := own_readJ hxs (k := i.toNatClampNeg) (by omega)
      have hinc := own_inc i (by omega)
      have hx1 := b2 x (by rw [hxs]; simp)
      have P2 : Steps p.tables e below (s₁.setTop (mkF m 2 #[.val (.ref s1), .val (.ref b), .val (.int i)] [])) (s₁.setTop (mkF m 2 #[.val (.ref s1), .val (.ref b), .val (.int i)] [])) := Steps.refl _
      have S6 : Steps p.tables e below (s₁.setTop (mkF m 2 #[.val (.ref s1), .val (.ref b), .val (.int i)] [])) (s₁.setTop (mkF m 4 #[.val (.ref s1), .val (.ref b), .val (.int i)] [(.ref b), (.int i)])) := by
        refine P2.trans ?_
        refine XS.iloadN X0.here hx rfl (hb hby d5_2) rfl ?_
        show Steps p.tables e below (s₁.setTop (mkF m 3 #[.val (.ref s1), .val (.ref b), .val (.int i)] [(.int i)])) _
        refine XS.aloadN X0.here hx rfl (hb hby d5_3) rfl rfl ?_
        exact Steps.refl _
      have S7 : Steps p.tables e below (s₁.setTop (mkF m 2 #[.val (.ref s1), .val (.ref b), .val (.int i)] [])) (s₁.setTop (mkF m 5 #[.val (.ref s1), .val (.ref b), .val (.int i)] [(.int (3 : Int32)), (.int i)])) := S6.trans (own_len X0 hx hZ e0 A1 (n := (3 : Int32)) hn (g := (mkF m 4 #[.val (.ref s1), .val (.ref b), .val (.int i)] [(.ref b), (.int i)])) rfl rfl (hb hby d5_4) _ (Steps.refl _))
      have S8 : Steps p.tables e below (s₁.setTop (mkF m 2 #[.val (.ref s1), .val (.ref b), .val (.int i)] [])) (s₁.setTop (mkF m 10 #[.val (.ref s1), .val (.ref b), .val (.int i)] [(.int i), (.ref b)])) := by
        refine S7.trans ?_
        refine XS.icmpNo X0.here hx rfl (hb hby d5_5) rfl (XT.ii_ge_f hc) ?_
        show Steps p.tables e below (s₁.setTop (mkF m 8 #[.val (.ref s1), .val (.ref b), .val (.int i)] [])) _
        refine XS.aloadN X0.here hx rfl (hb hby d5_8) rfl rfl ?_
        show Steps p.tables e below (s₁.setTop (mkF m 9 #[.val (.ref s1), .val (.ref b), .val (.int i)] [(.ref b)])) _
        refine XS.iloadN X0.here hx rfl (hb hby d5_9) rfl ?_
        exact Steps.refl _
      have S9 : Steps p.tables e below (s₁.setTop (mkF m 2 #[.val (.ref s1), .val (.ref b), .val (.int i)] [])) (s₁.setTop (mkF m 11 #[.val (.ref s1), .val (.ref b), .val (.int i)] [(.long x)])) := S8.trans (own_ldJ X0 hx hZ e0 A1 (j := i) (x := x) hin.1 hrd (g := (mkF m 10 #[.val (.ref s1), .val (.ref b), .val (.int i)] [(.int i), (.ref b)])) rfl rfl (hb hby d5_10) _ (Steps.refl _))
      have S10 : Steps p.tables e below (s₁.setTop (mkF m 2 #[.val (.ref s1), .val (.ref b), .val (.int i)] [])) (s₁.setTop (mkF m 2 #[.val (.ref s1), .val (.ref b), .val (.int (i + (1 : Int32)))] [])) := by
        refine S9.trans ?_
        refine X0.ldc2Long hx hown (mvT hZ (hw _ (List.mem_of_getElem? (i := 30) rfl))) (g := (mkF m 11 #[.val (.ref s1), .val (.ref b), .val (.int i)] [(.long x)])) rfl (hb hby d5_11) _ ?_
        show Steps p.tables e below (s₁.setTop (mkF m 14 #[.val (.ref s1), .val (.ref b), .val (.int i)] [(.long (-1 : Int64)), (.long x)])) _
        refine XS.lcmp X0.here hx rfl (hb hby d5_14) rfl ?_
        show Steps p.tables e below (s₁.setTop (mkF m 15 #[.val (.ref s1), .val (.ref b), .val (.int i)] [(.int (lcmpW x (-1 : Int64)))])) _
        refine XS.ifYes X0.here hx rfl (pc0 := 15) (pc' := 36) rfl (hb hby d5_15) rfl (XT.ll_ge_t (own_lm1 hx1)) (by decide) (by decide) ?_
        show Steps p.tables e below (s₁.setTop (mkF m 36 #[.val (.ref s1), .val (.ref b), .val (.int i)] [])) _
        refine XS.iinc X0.here hx rfl (hb hby d5_36) rfl (l' := #[.val (.ref s1), .val (.ref b), .val (.int (i + (1 : Int32)))]) rfl ?_
        show Steps p.tables e below (s₁.setTop (mkF m 39 #[.val (.ref s1), .val (.ref b), .val (.int (i + (1 : Int32)))] [])) _
        refine XS.goto X0.here hx rfl (pc0 := 39) (pc' := 2) rfl (hb hby d5_39) (by decide) (by decide) ?_
        exact Steps.refl _
      obtain ⟨j, SL⟩ := ih (pr ++ [x]) (i + (1 : Int32)) (by rw [hxs]; simp) (by rw [hinc, hi]; simp)
      exact ⟨j, S10.trans SL⟩
  obtain ⟨j, SL⟩ := LOOP xs [] (0 : Int32) rfl (by decide)
  have S11 : Steps p.tables e below Ω (s₁.setTop (mkF m 42 #[.val (.ref s1), .val (.ref b), .val (.int j)] [])) := S1.trans SL
  obtain ⟨fs, hr, hrun, hended, hW, hsame⟩ := X0.leave (v := none) (fun _ => rfl)
  have hfin : Steps p.tables e below Ω (s₁.setFrames fs) := by
    refine S11.trans ?_
    exact X0.returnOut hx Bd.returns (hb hby d5_42) hr
  rw [hΩ] at hfin
  refine ⟨_, _, hfin, hrun, hended, _, _, rfl, ?_, ⟨_, rfl⟩, hW, hsame.mono (by decide) (by decide)⟩
  show Q5 Z s1 b xs h0 n0 _ s₁.heap _
  rw [e0]
  exact ⟨rfl, N0, rfl⟩
theorem d2_0 : decode prog_27_method_2_code 0 = .ok (.aload_n 0, 1) := by decide +kernel
theorem d2_1 : decode prog_27_method_2_code 1 = .ok (.invokespecial 11, 3) := by decide +kernel
theorem d2_4 : decode prog_27_method_2_code 4 = .ok (.aload_n 1, 1) := by decide +kernel
theorem d2_5 : decode prog_27_method_2_code 5 = .ok (.arraylength, 1) := by decide +kernel
theorem pd_0 : parseMethodDescriptor "(I)I" = some ⟨[.int], some .int⟩ := by decide +kernel
theorem d2_6 : decode prog_27_method_2_code 6 = .ok (.invokestatic 16, 3) := by decide +kernel
theorem d2_9 : decode prog_27_method_2_code 9 = .ok (.pop, 1) := by decide +kernel
theorem d2_10 : decode prog_27_method_2_code 10 = .ok (.aload_n 2, 1) := by decide +kernel
theorem d2_11 : decode prog_27_method_2_code 11 = .ok (.arraylength, 1) := by decide +kernel
theorem d2_12 : decode prog_27_method_2_code 12 = .ok (.aload_n 1, 1) := by decide +kernel
theorem d2_13 : decode prog_27_method_2_code 13 = .ok (.arraylength, 1) := by decide +kernel
theorem d2_14 : decode prog_27_method_2_code 14 = .ok (.if_icmp .eq 20, 3) := by decide +kernel
theorem d2_34 : decode prog_27_method_2_code 34 = .ok (.ldc 31, 2) := by decide +kernel
theorem d2_36 : decode prog_27_method_2_code 36 = .ok (.aload_n 1, 1) := by decide +kernel
theorem pd_1 : parseMethodDescriptor "(Ljava/lang/String;[J)V" = some ⟨[(.object "java/lang/String"), (.array .long)], none⟩ := by decide +kernel
theorem d2_37 : decode prog_27_method_2_code 37 = .ok (.invokestatic 33, 3) := by decide +kernel
theorem d2_40 : decode prog_27_method_2_code 40 = .ok (.ldc 37, 2) := by decide +kernel
theorem d2_42 : decode prog_27_method_2_code 42 = .ok (.aload_n 2, 1) := by decide +kernel
theorem d2_43 : decode prog_27_method_2_code 43 = .ok (.invokestatic 33, 3) := by decide +kernel
theorem d2_46 : decode prog_27_method_2_code 46 = .ok (.aload_n 0, 1) := by decide +kernel
theorem d2_47 : decode prog_27_method_2_code 47 = .ok (.aload_n 1, 1) := by decide +kernel
theorem d2_48 : decode prog_27_method_2_code 48 = .ok (.invokevirtual 39, 3) := by decide +kernel
theorem d2_51 : decode prog_27_method_2_code 51 = .ok (.checkcast 40, 3) := by decide +kernel
theorem d2_54 : decode prog_27_method_2_code 54 = .ok (.putfield 45, 3) := by decide +kernel
theorem d2_57 : decode prog_27_method_2_code 57 = .ok (.aload_n 0, 1) := by decide +kernel
theorem d2_58 : decode prog_27_method_2_code 58 = .ok (.aload_n 2, 1) := by decide +kernel
theorem d2_59 : decode prog_27_method_2_code 59 = .ok (.invokevirtual 39, 3) := by decide +kernel
theorem d2_62 : decode prog_27_method_2_code 62 = .ok (.checkcast 40, 3) := by decide +kernel
theorem d2_65 : decode prog_27_method_2_code 65 = .ok (.putfield 48, 3) := by decide +kernel
theorem d2_68 : decode prog_27_method_2_code 68 = .ok (.return_, 1) := by decide +kernel
theorem ef_rm2 (m : MethodId) (x0 : Addr) (x1 : Addr) (x2 : Addr) : entryFrame m #[(.ref x0), (.ref x1), (.ref x2)] 3 = mkF m 0 #[.val (.ref x0), .val (.ref x1), .val (.ref x2)] [] := by first | (simp [entryFrame, mkF, argsToLocals, Value.category]; done) | rfl
def Q2 (Z : State) (a : Addr) (b : Addr) (b2 : Addr) (xs : List Int64) (ys : List Int64) (h0 : Heap) (n0 : Nat) (v : Option Value) (h : Heap) (L : List Loc) : Prop := ∃ cA : Addr, v = none ∧ Fr n0 L ∧ Keep h0 h [a] ∧ Exa Z h a "com/example/ingest/ingest/common/GroupProgress" ∧ Fld Z h a "com/example/ingest/ingest/common/GroupProgress" "offsets" "[J" (.ref cA) ∧ LA Z h cA .long (xs.map Value.long)
set_option maxRecDepth 65536 in
set_option maxHeartbeats 40000000 in
theorem rm2 (l : Launch) (Z : State) (a0 : Array Value) (hw : ∀ d ∈ tables_1, d.before a0 Z = true) (ws : List Jvm.Cond) (a : Addr) (b : Addr) (b2 : Addr) (xs : List Int64) (ys : List Int64) (h0 : Heap) (n0 : Nat) (Z0 : n0 ≤ h0.size) (E0 : Exa Z h0 a "com/example/ingest/ingest/common/GroupProgress") (F1 : Fld Z h0 a "com/example/ingest/ingest/common/GroupProgress" "offsets" "[J" .null) (F2 : Fld Z h0 a "com/example/ingest/ingest/common/GroupProgress" "retryOffsets" "[J" .null) (g : n0 ≤ a) (A1 : LA Z h0 b .long (xs.map Value.long)) (A2 : LA Z h0 b2 .long (ys.map Value.long)) (B1 : Exa Z h0 b "[J") (B2 : Exa Z h0 b2 "[J") (l1 : xs.length = 3) (l2 : ys.length = 3) (v1 : ∀ x ∈ xs, -1 ≤ x.toInt) (v2 : ∀ x ∈ ys, -1 ≤ x.toInt) :
    MetFree l (⟨"com/example/ingest/ingest/common/GroupProgress", "<init>", "([J[J)V"⟩ : MethodName) (head1 (Jvm.Cond.code (⟨"com/example/ingest/ingest/common/GroupProgress", "<init>", "([J[J)V"⟩ : MethodName) prog_27_method_2_code 3 none :: ws) ({ frames := 1, cells := 6, slots := 86, locals := 15 } : Room)) (fun aa U => aa = #[(.ref a), (.ref b), (.ref b2)] ∧ Z.Warmed39 U.vm ∧ U.heap = h0) (fun _ _ _ _ _ => True) (fun _ U o U' => ∃ v L, o = .returned v ∧ Q2 Z a b b2 xs ys h0 n0 v U'.heap L ∧ ReturnedEndW U o U' L ({ frames := 1, cells := 6, slots := 86, locals := 15 } : Room).cells ({ frames := 1, cells := 6, slots := 86, locals := 15 } : Room).slots) := by
  refine MetFree.of_bodySF (plainFor_of_name pn_2) hisR ?_
  intro p e s m args below meth c s₁ Bd hml0 hP hK
  obtain ⟨rfl, hZ, hh⟩ := hP
  have hx := Bd.exec
  have hby := Bd.bytes
  have hml : c.maxLocals = 3 := hml0
  have hown : s.vm.findClass "com/example/ingest/ingest/common/GroupProgress" = some m.cls := findClass_of_methodNamed Bd.named
  have hnm := (name_of_methodNamed Bd.named Bd.method).1
  have X0 : Stand p l e ({ frames := 1, cells := 6, slots := 86, locals := 15 } : Room) s m #[(.ref a), (.ref b), (.ref b2)] below meth c s₁ [] 0 0 := Stand.of_body Bd
  have e0 : s₁.heap = h0 := by rw [← hh, Bd.state]; rfl
  have N0 := Fr.nil n0
  obtain ⟨Ω, hΩ⟩ : ∃ z, z = s₁.setTop (entryFrame m #[(.ref a), (.ref b), (.ref b2)] 3) := ⟨_, rfl⟩
  have S0 : Steps p.tables e below Ω (s₁.setTop (mkF m 0 #[.val (.ref a), .val (.ref b), .val (.ref b2)] [])) := by rw [hΩ]; exact castTop (ef_rm2 m a b b2) (Steps.refl _)
  have hS0 : s.Since s.vm h0.size := (State.WarmedH.refl s).since _
  have hn1 : (xs.map Value.long).length.toInt32 = (3 : Int32) := by rw [List.length_map, l1]; rfl
  have hn2 : (ys.map Value.long).length.toInt32 = (3 : Int32) := by rw [List.length_map, l2]; rfl
  have S1 : Steps p.tables e below Ω (s₁.setTop (mkF m 1 #[.val (.ref a), .val (.ref b), .val (.ref b2)] [(.ref a)])) := by
    refine S0.trans ?_
    refine XS.aloadN X0.here hx rfl (hb hby d2_0) rfl rfl ?_
    exact Steps.refl _
  obtain ⟨T2, X2, e2, st2⟩ := initO X0 hx hZ hown (hw _ (List.mem_of_getElem? (i := 12) rfl)) (hw _ (List.mem_of_getElem? (i := 13) rfl)) (hw _ (List.mem_of_getElem? (i := 14) rfl)) e0 (g := (mkF m 1 #[.val (.ref a), .val (.ref b), .val (.ref b2)] [(.ref a)])) rfl (by rw [hml]; rfl) rfl (hb hby d2_1) (by decide) (W := 0) (by show 2 * 0 + _ ≤ _; exact Nat.le_of_eq rfl) (by decide)
  have S3 : Steps p.tables e below Ω (T2.setTop (mkF m 4 #[.val (.ref a), .val (.ref b), .val (.ref b2)] [])) := S1.trans (st2 _ (Steps.refl _))
  have S4 : Steps p.tables e below Ω (T2.setTop (mkF m 5 #[.val (.ref a), .val (.ref b), .val (.ref b2)] [(.ref b)])) := by
    refine S3.trans ?_
    refine XS.aloadN X2.here hx rfl (hb hby d2_4) rfl rfl ?_
    exact Steps.refl _
  have S5 : Steps p.tables e below Ω (T2.setTop (mkF m 6 #[.val (.ref a), .val (.ref b), .val (.ref b2)] [(.int (3 : Int32))])) := S4.trans (own_len X2 hx hZ e2 A1 (n := (3 : Int32)) hn1 (g := (mkF m 5 #[.val (.ref a), .val (.ref b), .val (.ref b2)] [(.ref b)])) rfl rfl (hb hby d2_5) _ (Steps.refl _))
  obtain ⟨_, _, ⟨T6, L6, k6, n6⟩, -, X6, ⟨Lc6, hQ6, l6, y6, z6⟩, st6⟩ := Jvm.LawKit.callS X2 hx (y := (⟨"com/example/ingest/ingest/common/Protocol", "checkQueueCount", "(I)I"⟩ : MethodName)) hown (mvT hZ (hw _ (List.mem_of_getElem? (i := 15) rfl))) (mvT hZ (hw _ (List.mem_of_getElem? (i := 16) rfl))) (mvT hZ (hw _ (List.mem_of_getElem? (i := 17) rfl))) (mvT hZ (hw _ (List.mem_of_getElem? (i := 18) rfl))) (by decide) (backOf (W := 0) (rm4 l Z a0 hw [] (3 : Int32)  h0 n0 Z0 (by decide) (by decide)) hZ (hw _ (List.mem_of_getElem? (i := 18) rfl)) (hw _ (List.mem_of_getElem? (i := 17) rfl)) (by decide) (by decide)) (g := (mkF m 6 #[.val (.ref a), .val (.ref b), .val (.ref b2)] [(.int (3 : Int32))])) rfl (by rw [hml]; rfl) (argsL := [(.int (3 : Int32))]) (rest := []) (lenOf pd_0 rfl) rfl (by show 2 * 0 + _ ≤ _; exact Nat.le_of_eq rfl) (hb hby d2_6) (fun _ _ => ⟨rfl, e2, (by decide : 0 + 0 ≤ _), (by decide : 0 + 0 ≤ _)⟩)
  dsimp only [Pt.U, Pt.locs, Pt.cells, Pt.slots] at X6 l6 y6 z6 st6 hQ6
  subst l6 y6 z6
  obtain ⟨rfl, N6q, e6⟩ := hQ6
  have N6 := Fr.app N0 N6q
  have S7 : Steps p.tables e below Ω (T6.setTop (mkF m 9 #[.val (.ref a), .val (.ref b), .val (.ref b2)] [(.int (3 : Int32))])) := S5.trans (st6 _ (Steps.refl _))
  have S8 : Steps p.tables e below Ω (T6.setTop (mkF m 11 #[.val (.ref a), .val (.ref b), .val (.ref b2)] [(.ref b2)])) := by
    refine S7.trans ?_
    refine XS.pop X6.here hx rfl (hb hby d2_9) rfl rfl ?_
    show Steps p.tables e below (T6.setTop (mkF m 10 #[.val (.ref a), .val (.ref b), .val (.ref b2)] [])) _
    refine XS.aloadN X6.here hx rfl (hb hby d2_10) rfl rfl ?_
    exact Steps.refl _
  have S9 : Steps p.tables e below Ω (T6.setTop (mkF m 12 #[.val (.ref a), .val (.ref b), .val (.ref b2)] [(.int (3 : Int32))])) := S8.trans (own_len X6 hx hZ e6 A2 (n := (3 : Int32)) hn2 (g := (mkF m 11 #[.val (.ref a), .val (.ref b), .val (.ref b2)] [(.ref b2)])) rfl rfl (hb hby d2_11) _ (Steps.refl _))
  have S10 : Steps p.tables e below Ω (T6.setTop (mkF m 13 #[.val (.ref a), .val (.ref b), .val (.ref b2)] [(.ref b), (.int (3 : Int32))])) := by
    refine S9.trans ?_
    refine XS.aloadN X6.here hx rfl (hb hby d2_12) rfl rfl ?_
    exact Steps.refl _
  have S11 : Steps p.tables e below Ω (T6.setTop (mkF m 14 #[.val (.ref a), .val (.ref b), .val (.ref b2)] [(.int (3 : Int32)), (.int (3 : Int32))])) := S10.trans (own_len X6 hx hZ e6 A1 (n := (3 : Int32)) hn1 (g := (mkF m 13 #[.val (.ref a), .val (.ref b), .val (.ref b2)] [(.ref b), (.int (3 : Int32))])) rfl rfl (hb hby d2_13) _ (Steps.refl _))
  have S12 : Steps p.tables e below Ω (T6.setTop (mkF m 34 #[.val (.ref a), .val (.ref b), .val (.ref b2)] [])) := by
    refine S11.trans ?_
    refine XS.icmpYes X6.here hx rfl (pc0 := 14) (pc' := 34) rfl (hb hby d2_14) rfl (XT.ii_eq_t (by decide)) (by decide) (by decide) ?_
    exact Steps.refl _
  obtain ⟨t1, T13, h13, kb13, X13, e13, E13, hS13, hk13, hZ, hown, st13⟩ := ldcS (s := s) (vm0 := s.vm) X6 hx hZ hown (hw _ (List.mem_of_getElem? (i := 19) rfl)) (own_wS hw) e6 hS0 (Nat.le_refl h0.size) (g := (mkF m 34 #[.val (.ref a), .val (.ref b), .val (.ref b2)] [])) rfl (hb hby d2_34) (n := 24) (by decide) (by decide) (by decide) (by decide)
  have S14 : Steps p.tables e below Ω (T13.setTop (mkF m 36 #[.val (.ref a), .val (.ref b), .val (.ref b2)] [(.ref t1)])) := S12.trans (st13 _ (Steps.refl _))
  have E_a_13 := (E0).ext E13
  have F_offsets_a_13 : Fld Z h13 a "com/example/ingest/ingest/common/GroupProgress" "offsets" "[J" .null := (F1).ext E13
  have F_retryOffsets_a_13 : Fld Z h13 a "com/example/ingest/ingest/common/GroupProgress" "retryOffsets" "[J" .null := (F2).ext E13
  have A1_1 := A1.ext E13
  have A2_1 := A2.ext E13
  have B1_1 := B1.ext E13
  have B2_1 := B2.ext E13
  have S15 : Steps p.tables e below Ω (T13.setTop (mkF m 37 #[.val (.ref a), .val (.ref b), .val (.ref b2)] [(.ref b), (.ref t1)])) := by
    refine S14.trans ?_
    refine XS.aloadN X13.here hx rfl (hb hby d2_36) rfl rfl ?_
    exact Steps.refl _
  obtain ⟨_, _, ⟨T16, L16, k16, n16⟩, -, X16, ⟨Lc16, hQ16, l16, y16, z16⟩, st16⟩ := Jvm.LawKit.callS X13 hx (y := (⟨"com/example/ingest/ingest/common/GroupProgress", "checkOffsets", "(Ljava/lang/String;[J)V"⟩ : MethodName)) hown (mvT hZ (hw _ (List.mem_of_getElem? (i := 27) rfl))) (mvT hZ (hw _ (List.mem_of_getElem? (i := 28) rfl))) (mvT hZ (hw _ (List.mem_of_getElem? (i := 7) rfl))) (mvT hZ (hw _ (List.mem_of_getElem? (i := 29) rfl))) (by decide) (backOf (W := 0) (rm5 l Z a0 hw [] t1 b xs h13 n0 (Nat.le_trans Z0 E13.1) A1_1 l1 v1) hZ (hw _ (List.mem_of_getElem? (i := 29) rfl)) (hw _ (List.mem_of_getElem? (i := 7) rfl)) (by decide) (by decide)) (g := (mkF m 37 #[.val (.ref a), .val (.ref b), .val (.ref b2)] [(.ref b), (.ref t1)])) rfl (by rw [hml]; rfl) (argsL := [(.ref t1), (.ref b)]) (rest := []) (lenOf pd_1 rfl) rfl (by show 2 * 0 + _ ≤ _; exact Nat.le_of_eq rfl) (hb hby d2_37) (fun _ _ => ⟨rfl, e13, (by decide : 2 + 0 ≤ _), (by decide : 28 + 0 ≤ _)⟩)
  dsimp only [Pt.U, Pt.locs, Pt.cells, Pt.slots] at X16 l16 y16 z16 st16 hQ16
  subst l16 y16 z16
  obtain ⟨rfl, N16q, e16⟩ := hQ16
  have N16 := Fr.app N6 N16q
  have S17 : Steps p.tables e below Ω (T16.setTop (mkF m 40 #[.val (.ref a), .val (.ref b), .val (.ref b2)] [])) := S15.trans (st16 _ (Steps.refl _))
  obtain ⟨t2, T18, h18, kb18, X18, e18, E18, hS18, hk18, hZ, hown, st18⟩ := ldcS (s := s) (vm0 := T13.vm) X16 hx hZ hown (hw _ (List.mem_of_getElem? (i := 31) rfl)) (own_wS hw) e16 hS13 hk13 (g := (mkF m 40 #[.val (.ref a), .val (.ref b), .val (.ref b2)] [])) rfl (hb hby d2_40) (n := 48) (by decide) (by decide) (by decide) (by decide)
  have S19 : Steps p.tables e below Ω (T18.setTop (mkF m 42 #[.val (.ref a), .val (.ref b), .val (.ref b2)] [(.ref t2)])) := S17.trans (st18 _ (Steps.refl _))
  have E_a_18 := (E_a_13).ext E18
  have F_offsets_a_18 : Fld Z h18 a "com/example/ingest/ingest/common/GroupProgress" "offsets" "[J" .null := (F_offsets_a_13).ext E18
  have F_retryOffsets_a_18 : Fld Z h18 a "com/example/ingest/ingest/common/GroupProgress" "retryOffsets" "[J" .null := (F_retryOffsets_a_13).ext E18
  have A1_2 := A1_1.ext E18
  have A2_2 := A2_1.ext E18
  have B1_2 := B1_1.ext E18
  have B2_2 := B2_1.ext E18
  have S20 : Steps p.tables e below Ω (T18.setTop (mkF m 43 #[.val (.ref a), .val (.ref b), .val (.ref b2)] [(.ref b2), (.ref t2)])) := by
    refine S19.trans ?_
    refine XS.aloadN X18.here hx rfl (hb hby d2_42) rfl rfl ?_
    exact Steps.refl _
  obtain ⟨_, _, ⟨T21, L21, k21, n21⟩, -, X21, ⟨Lc21, hQ21, l21, y21, z21⟩, st21⟩ := Jvm.LawKit.callS X18 hx (y := (⟨"com/example/ingest/ingest/common/GroupProgress", "checkOffsets", "(Ljava/lang/String;[J)V"⟩ : MethodName)) hown (mvT hZ (hw _ (List.mem_of_getElem? (i := 27) rfl))) (mvT hZ (hw _ (List.mem_of_getElem? (i := 28) rfl))) (mvT hZ (hw _ (List.mem_of_getElem? (i := 7) rfl))) (mvT hZ (hw _ (List.mem_of_getElem? (i := 29) rfl))) (by decide) (backOf (W := 0) (rm5 l Z a0 hw [] t2 b2 ys h18 n0 (Nat.le_trans (Nat.le_trans Z0 E13.1) E18.1) A2_2 l2 v2) hZ (hw _ (List.mem_of_getElem? (i := 29) rfl)) (hw _ (List.mem_of_getElem? (i := 7) rfl)) (by decide) (by decide)) (g := (mkF m 43 #[.val (.ref a), .val (.ref b), .val (.ref b2)] [(.ref b2), (.ref t2)])) rfl (by rw [hml]; rfl) (argsL := [(.ref t2), (.ref b2)]) (rest := []) (lenOf pd_1 rfl) rfl (by show 2 * 0 + _ ≤ _; exact Nat.le_of_eq rfl) (hb hby d2_43) (fun _ _ => ⟨rfl, e18, (by decide : 4 + 0 ≤ _), (by decide : 80 + 0 ≤ _)⟩)
  dsimp only [Pt.U, Pt.locs, Pt.cells, Pt.slots] at X21 l21 y21 z21 st21 hQ21
  subst l21 y21 z21
  obtain ⟨rfl, N21q, e21⟩ := hQ21
  have N21 := Fr.app N16 N21q
  have S22 : Steps p.tables e below Ω (T21.setTop (mkF m 46 #[.val (.ref a), .val (.ref b), .val (.ref b2)] [])) := S20.trans (st21 _ (Steps.refl _))
  have S23 : Steps p.tables e below Ω (T21.setTop (mkF m 48 #[.val (.ref a), .val (.ref b), .val (.ref b2)] [(.ref b), (.ref a)])) := by
    refine S22.trans ?_
    refine XS.aloadN X21.here hx rfl (hb hby d2_46) rfl rfl ?_
    show Steps p.tables e below (T21.setTop (mkF m 47 #[.val (.ref a), .val (.ref b), .val (.ref b2)] [(.ref a)])) _
    refine XS.aloadN X21.here hx rfl (hb hby d2_47) rfl rfl ?_
    exact Steps.refl _
  obtain ⟨T24, h24, X24, e24, E24, V24, B24, st24⟩ := own_clone X21 hx hZ hown (hw _ (List.mem_of_getElem? (i := 32) rfl)) (hw _ (List.mem_of_getElem? (i := 33) rfl)) (hw _ (List.mem_of_getElem? (i := 37) rfl)) (hw _ (List.mem_of_getElem? (i := 35) rfl)) (hw _ (List.mem_of_getElem? (i := 36) rfl)) (hw _ (List.mem_of_getElem? (i := 38) rfl)) e21 A1_2 B1_2 (own_fitsJ xs) (g := (mkF m 48 #[.val (.ref a), .val (.ref b), .val (.ref b2)] [(.ref b), (.ref a)])) rfl (by rw [hml]; rfl) rfl (hb hby d2_48) (by decide) (W := 1) (cap := 3) (by show 2 * 0 + _ ≤ _; exact Nat.le_of_eq rfl) (by decide) (by rw [List.length_map, l1]; exact Nat.le_refl _) (by decide) (by decide)
  obtain ⟨cA, s_cA⟩ : ∃ z, z = h18.size := ⟨_, rfl⟩
  rw [← s_cA] at V24 B24 st24
  have S25 : Steps p.tables e below Ω (T24.setTop (mkF m 51 #[.val (.ref a), .val (.ref b), .val (.ref b2)] [(.ref cA), (.ref a)])) := S23.trans (st24 _ (Steps.refl _))
  obtain ⟨T26, X26, e26, st26⟩ := castY X24 hx hZ hown (hw _ (List.mem_of_getElem? (i := 39) rfl)) e24 (Ins.self B24) (g := (mkF m 51 #[.val (.ref a), .val (.ref b), .val (.ref b2)] [(.ref cA), (.ref a)])) rfl rfl (hb hby d2_51)
  have S27 : Steps p.tables e below Ω (T26.setTop (mkF m 54 #[.val (.ref a), .val (.ref b), .val (.ref b2)] [(.ref cA), (.ref a)])) := S25.trans (st26 _ (Steps.refl _))
  have E_a_24 := (E_a_18).ext E24
  have F_offsets_a_24 : Fld Z h24 a "com/example/ingest/ingest/common/GroupProgress" "offsets" "[J" .null := (F_offsets_a_18).ext E24
  have F_retryOffsets_a_24 : Fld Z h24 a "com/example/ingest/ingest/common/GroupProgress" "retryOffsets" "[J" .null := (F_retryOffsets_a_18).ext E24
  have A2_3 := A2_2.ext E24
  have B2_3 := B2_2.ext E24
  have C1 := V24
  have hac : cA ≠ a := Nat.ne_of_gt (Nat.lt_of_lt_of_le (E_a_18).lt (Nat.le_of_eq s_cA.symm))
  have hb2a : b2 ≠ a := own_neA E0 (hw _ (List.mem_of_getElem? (i := 6) rfl)) A2
  obtain ⟨T28, h28, X28, e28, W28, st28⟩ := putF X26 hx hZ hown (host := "") (Or.inl (hw _ (List.mem_of_getElem? (i := 41) rfl))) Via.refl e26 F_offsets_a_24 E_a_24 (Or.inr ⟨(hw _ (List.mem_of_getElem? (i := 42) rfl)), rfl, hnm⟩) (hw _ (List.mem_of_getElem? (i := 6) rfl)) (ty := (.array .long)) (by decide) rfl rfl (g := (mkF m 54 #[.val (.ref a), .val (.ref b), .val (.ref b2)] [(.ref cA), (.ref a)])) rfl rfl (hb hby d2_54)
  have S29 : Steps p.tables e below Ω (T28.setTop (mkF m 57 #[.val (.ref a), .val (.ref b), .val (.ref b2)] [])) := S27.trans (st28 _ (Steps.refl _))
  have N28 := Fr.snoc X28 N21 g
  have E_a_28 := (E_a_24).wr W28
  have F_offsets_a_28 : Fld Z h28 a "com/example/ingest/ingest/common/GroupProgress" "offsets" "[J" (.ref cA) := (F_offsets_a_24).same W28
  have F_retryOffsets_a_28 : Fld Z h28 a "com/example/ingest/ingest/common/GroupProgress" "retryOffsets" "[J" .null := (F_retryOffsets_a_24).other W28 (Or.inr (slot_ne (Or.inr (hw _ (List.mem_of_getElem? (i := 44) rfl))) (Or.inr (hw _ (List.mem_of_getElem? (i := 42) rfl))) (by decide) (t := (.array .long)) (t' := (.array .long)) (by decide) (by decide)))
  have C2 := C1.other W28 hac
  have A2_4 := A2_3.other W28 hb2a
  have B2_4 := B2_3.wr W28
  have S30 : Steps p.tables e below Ω (T28.setTop (mkF m 59 #[.val (.ref a), .val (.ref b), .val (.ref b2)] [(.ref b2), (.ref a)])) := by
    refine S29.trans ?_
    refine XS.aloadN X28.here hx rfl (hb hby d2_57) rfl rfl ?_
    show Steps p.tables e below (T28.setTop (mkF m 58 #[.val (.ref a), .val (.ref b), .val (.ref b2)] [(.ref a)])) _
    refine XS.aloadN X28.here hx rfl (hb hby d2_58) rfl rfl ?_
    exact Steps.refl _
  obtain ⟨T31, h31, X31, e31, E31, V31, B31, st31⟩ := own_clone X28 hx hZ hown (hw _ (List.mem_of_getElem? (i := 32) rfl)) (hw _ (List.mem_of_getElem? (i := 33) rfl)) (hw _ (List.mem_of_getElem? (i := 37) rfl)) (hw _ (List.mem_of_getElem? (i := 35) rfl)) (hw _ (List.mem_of_getElem? (i := 36) rfl)) (hw _ (List.mem_of_getElem? (i := 38) rfl)) e28 A2_4 B2_4 (own_fitsJ ys) (g := (mkF m 59 #[.val (.ref a), .val (.ref b), .val (.ref b2)] [(.ref b2), (.ref a)])) rfl (by rw [hml]; rfl) rfl (hb hby d2_59) (by decide) (W := 1) (cap := 3) (by show 2 * 0 + _ ≤ _; exact Nat.le_of_eq rfl) (by decide) (by rw [List.length_map, l2]; exact Nat.le_refl _) (by decide) (by decide)
  obtain ⟨c2, s_c2⟩ : ∃ z, z = h28.size := ⟨_, rfl⟩
  rw [← s_c2] at V31 B31 st31
  have S32 : Steps p.tables e below Ω (T31.setTop (mkF m 62 #[.val (.ref a), .val (.ref b), .val (.ref b2)] [(.ref c2), (.ref a)])) := S30.trans (st31 _ (Steps.refl _))
  obtain ⟨T33, X33, e33, st33⟩ := castY X31 hx hZ hown (hw _ (List.mem_of_getElem? (i := 39) rfl)) e31 (Ins.self B31) (g := (mkF m 62 #[.val (.ref a), .val (.ref b), .val (.ref b2)] [(.ref c2), (.ref a)])) rfl rfl (hb hby d2_62)
  have S34 : Steps p.tables e below Ω (T33.setTop (mkF m 65 #[.val (.ref a), .val (.ref b), .val (.ref b2)] [(.ref c2), (.ref a)])) := S32.trans (st33 _ (Steps.refl _))
  have E_a_31 := (E_a_28).ext E31
  have F_offsets_a_31 : Fld Z h31 a "com/example/ingest/ingest/common/GroupProgress" "offsets" "[J" (.ref cA) := (F_offsets_a_28).ext E31
  have F_retryOffsets_a_31 : Fld Z h31 a "com/example/ingest/ingest/common/GroupProgress" "retryOffsets" "[J" .null := (F_retryOffsets_a_28).ext E31
  have C3 := C2.ext E31
  obtain ⟨T35, h35, X35, e35, W35, st35⟩ := putF X33 hx hZ hown (host := "") (Or.inl (hw _ (List.mem_of_getElem? (i := 43) rfl))) Via.refl e33 F_retryOffsets_a_31 E_a_31 (Or.inr ⟨(hw _ (List.mem_of_getElem? (i := 44) rfl)), rfl, hnm⟩) (hw _ (List.mem_of_getElem? (i := 6) rfl)) (ty := (.array .long)) (by decide) rfl rfl (g := (mkF m 65 #[.val (.ref a), .val (.ref b), .val (.ref b2)] [(.ref c2), (.ref a)])) rfl rfl (hb hby d2_65)
  have S36 : Steps p.tables e below Ω (T35.setTop (mkF m 68 #[.val (.ref a), .val (.ref b), .val (.ref b2)] [])) := S34.trans (st35 _ (Steps.refl _))
  have N35 := Fr.snoc X35 N28 g
  have E_a_35 := (E_a_31).wr W35
  have F_offsets_a_35 : Fld Z h35 a "com/example/ingest/ingest/common/GroupProgress" "offsets" "[J" (.ref cA) := (F_offsets_a_31).other W35 (Or.inr (slot_ne (Or.inr (hw _ (List.mem_of_getElem? (i := 42) rfl))) (Or.inr (hw _ (List.mem_of_getElem? (i := 44) rfl))) (by decide) (t := (.array .long)) (t' := (.array .long)) (by decide) (by decide)))
  have F_retryOffsets_a_35 : Fld Z h35 a "com/example/ingest/ingest/common/GroupProgress" "retryOffsets" "[J" (.ref c2) := (F_retryOffsets_a_31).same W35
  have C4 := C3.other W35 hac
  obtain ⟨fs, hr, hrun, hended, hend⟩ := Stand.leaveW (s := s) (vm₁ := T18.vm) X35 hS18 (by rw [e35]; exact (Nat.le_trans (Nat.le_trans (Nat.le_trans (Nat.le_trans hk18 E24.1) (Keep.of_wr W28).1) E31.1) (Keep.of_wr W35).1)) (v := none) (fun _ => rfl)
  have hfin : Steps p.tables e below Ω (T35.setFrames fs) := by
    refine S36.trans ?_
    exact X35.returnOut hx Bd.returns (hb hby d2_68) hr
  rw [hΩ] at hfin
  refine ⟨_, _, hfin, hrun, hended, _, _, rfl, ?_, hend.1, hend.2.1, hend.2.2.1, hend.2.2.2.mono (by decide) (by decide)⟩
  show Q2 Z a b b2 xs ys h0 n0 _ T35.heap _
  rw [e35]
  exact ⟨cA, rfl, N35, (((((((((((((Keep.refl h0 [a])).ext E13)).ext E18)).ext E24)).wr W28 (Or.inl (List.mem_of_getElem? (i := 0) rfl)))).ext E31)).wr W35 (Or.inl (List.mem_of_getElem? (i := 0) rfl))), E_a_35, F_offsets_a_35, C4⟩
theorem d9_0 : decode prog_27_method_7_code 0 = .ok (.aload_n 0, 1) := by decide +kernel
theorem d9_1 : decode prog_27_method_7_code 1 = .ok (.getfield 45, 3) := by decide +kernel
theorem d9_4 : decode prog_27_method_7_code 4 = .ok (.iload_n 1, 1) := by decide +kernel
theorem d9_5 : decode prog_27_method_7_code 5 = .ok (.laload, 1) := by decide +kernel
theorem d9_6 : decode prog_27_method_7_code 6 = .ok (.lstore 4, 2) := by decide +kernel
theorem d9_8 : decode prog_27_method_7_code 8 = .ok (.lload 4, 2) := by decide +kernel
theorem d9_10 : decode prog_27_method_7_code 10 = .ok (.ldc2_w 54, 3) := by decide +kernel
theorem d9_13 : decode prog_27_method_7_code 13 = .ok (.lcmp, 1) := by decide +kernel
theorem d9_14 : decode prog_27_method_7_code 14 = .ok (.ifCond .ne 9, 3) := by decide +kernel
theorem d9_17 : decode prog_27_method_7_code 17 = .ok (.ldc2_w 54, 3) := by decide +kernel
theorem d9_20 : decode prog_27_method_7_code 20 = .ok (.goto 7, 3) := by decide +kernel
theorem d9_27 : decode prog_27_method_7_code 27 = .ok (.lreturn, 1) := by decide +kernel
theorem d9_23 : decode prog_27_method_7_code 23 = .ok (.lload_n 2, 1) := by decide +kernel
theorem d9_24 : decode prog_27_method_7_code 24 = .ok (.lload 4, 2) := by decide +kernel
theorem d9_26 : decode prog_27_method_7_code 26 = .ok (.lsub, 1) := by decide +kernel
theorem ef_rm9 (m : MethodId) (x0 : Addr) (x1 : Int32) (x2 : Int64) : entryFrame m #[(.ref x0), (.int x1), (.long x2)] 6 = mkF m 0 #[.val (.ref x0), .val (.int x1), .val (.long x2), .second, .unset, .unset] [] := by first | (simp [entryFrame, mkF, argsToLocals, Value.category]; done) | rfl
def Q9 (Z : State) (a : Addr) (p1 : Int32) (q1 : Int64) (cA : Addr) (xs : List Int64) (x : Int64) (h0 : Heap) (n0 : Nat) (v : Option Value) (h : Heap) (L : List Loc) : Prop := v = some (.long (own_lag x q1)) ∧ Fr n0 L ∧ h = h0
set_option maxRecDepth 65536 in
set_option maxHeartbeats 40000000 in
theorem rm9 (l : Launch) (Z : State) (a0 : Array Value) (hw : ∀ d ∈ tables_1, d.before a0 Z = true) (ws : List Jvm.Cond) (a : Addr) (p1 : Int32) (q1 : Int64) (cA : Addr) (xs : List Int64) (x : Int64) (h0 : Heap) (n0 : Nat) (Z0 : n0 ≤ h0.size) (F1 : Fld Z h0 a "com/example/ingest/ingest/common/GroupProgress" "offsets" "[J" (.ref cA)) (A1 : LA Z h0 cA .long (xs.map Value.long)) (b1 : ¬ p1 < 0) (b2 : (xs.map Value.long)[p1.toNatClampNeg]? = some (.long x)) :
    MetFree l (⟨"com/example/ingest/ingest/common/GroupProgress", "lag", "(IJ)J"⟩ : MethodName) (head1 (Jvm.Cond.code (⟨"com/example/ingest/ingest/common/GroupProgress", "lag", "(IJ)J"⟩ : MethodName) prog_27_method_7_code 6 (some .long) :: ws) ({ frames := 0, cells := 0, slots := 0, locals := 0 } : Room)) (fun aa U => aa = #[(.ref a), (.int p1), (.long q1)] ∧ Z.Warmed39 U.vm ∧ U.heap = h0) (fun _ _ _ _ _ => True) (fun _ U o U' => ∃ v L, o = .returned v ∧ Q9 Z a p1 q1 cA xs x h0 n0 v U'.heap L ∧ FrameEnd U o U' L ({ frames := 0, cells := 0, slots := 0, locals := 0 } : Room).cells ({ frames := 0, cells := 0, slots := 0, locals := 0 } : Room).slots) := by
  refine MetFree.of_bodySF (plainFor_of_name pn_2) hisR ?_
  intro p e s m args below meth c s₁ Bd hml0 hP hK
  obtain ⟨rfl, hZ, hh⟩ := hP
  have hx := Bd.exec
  have hby := Bd.bytes
  have hml : c.maxLocals = 6 := hml0
  have hown : s.vm.findClass "com/example/ingest/ingest/common/GroupProgress" = some m.cls := findClass_of_methodNamed Bd.named
  have hnm := (name_of_methodNamed Bd.named Bd.method).1
  have X0 : Stand p l e ({ frames := 0, cells := 0, slots := 0, locals := 0 } : Room) s m #[(.ref a), (.int p1), (.long q1)] below meth c s₁ [] 0 0 := Stand.of_body Bd
  have e0 : s₁.heap = h0 := by rw [← hh, Bd.state]; rfl
  have N0 := Fr.nil n0
  obtain ⟨Ω, hΩ⟩ : ∃ z, z = s₁.setTop (entryFrame m #[(.ref a), (.int p1), (.long q1)] 6) := ⟨_, rfl⟩
  have S0 : Steps p.tables e below Ω (s₁.setTop (mkF m 0 #[.val (.ref a), .val (.int p1), .val (.long q1), .second, .unset, .unset] [])) := by rw [hΩ]; exact castTop (ef_rm9 m a p1 q1) (Steps.refl _)
  have S1 : Steps p.tables e below Ω (s₁.setTop (mkF m 1 #[.val (.ref a), .val (.int p1), .val (.long q1), .second, .unset, .unset] [(.ref a)])) := by
    refine S0.trans ?_
    refine XS.aloadN X0.here hx rfl (hb hby d9_0) rfl rfl ?_
    exact Steps.refl _
  obtain ⟨T2, X2, e2, st2⟩ := getF X0 hx hZ hown (host := "") (Or.inl (hw _ (List.mem_of_getElem? (i := 41) rfl))) Via.refl e0 F1 (g := (mkF m 1 #[.val (.ref a), .val (.int p1), .val (.long q1), .second, .unset, .unset] [(.ref a)])) rfl rfl (hb hby d9_1)
  have S3 : Steps p.tables e below Ω (T2.setTop (mkF m 4 #[.val (.ref a), .val (.int p1), .val (.long q1), .second, .unset, .unset] [(.ref cA)])) := S1.trans (st2 _ (Steps.refl _))
  have S4 : Steps p.tables e below Ω (T2.setTop (mkF m 5 #[.val (.ref a), .val (.int p1), .val (.long q1), .second, .unset, .unset] [(.int p1), (.ref cA)])) := by
    refine S3.trans ?_
    refine XS.iloadN X2.here hx rfl (hb hby d9_4) rfl ?_
    exact Steps.refl _
  have S5 : Steps p.tables e below Ω (T2.setTop (mkF m 6 #[.val (.ref a), .val (.int p1), .val (.long q1), .second, .unset, .unset] [(.long x)])) := S4.trans (own_ldJ X2 hx hZ e2 A1 (j := p1) (x := x) b1 b2 (g := (mkF m 5 #[.val (.ref a), .val (.int p1), .val (.long q1), .second, .unset, .unset] [(.int p1), (.ref cA)])) rfl rfl (hb hby d9_5) _ (Steps.refl _))
  have S6 : Steps p.tables e below Ω (T2.setTop (mkF m 14 #[.val (.ref a), .val (.int p1), .val (.long q1), .second, .val (.long x), .second] [(.int (lcmpW x (-1 : Int64)))])) := by
    refine S5.trans ?_
    refine XS.lstore X2.here hx rfl (hb hby d9_6) rfl (l' := #[.val (.ref a), .val (.int p1), .val (.long q1), .second, .val (.long x), .second]) rfl ?_
    show Steps p.tables e below (T2.setTop (mkF m 8 #[.val (.ref a), .val (.int p1), .val (.long q1), .second, .val (.long x), .second] [])) _
    refine XS.lload X2.here hx rfl (hb hby d9_8) rfl ?_
    show Steps p.tables e below (T2.setTop (mkF m 10 #[.val (.ref a), .val (.int p1), .val (.long q1), .second, .val (.long x), .second] [(.long x)])) _
    refine X2.ldc2Long hx hown (mvT hZ (hw _ (List.mem_of_getElem? (i := 30) rfl))) (g := (mkF m 10 #[.val (.ref a), .val (.int p1), .val (.long q1), .second, .val (.long x), .second] [(.long x)])) rfl (hb hby d9_10) _ ?_
    show Steps p.tables e below (T2.setTop (mkF m 13 #[.val (.ref a), .val (.int p1), .val (.long q1), .second, .val (.long x), .second] [(.long (-1 : Int64)), (.long x)])) _
    refine XS.lcmp X2.here hx rfl (hb hby d9_13) rfl ?_
    exact Steps.refl _
  by_cases hc : x = (-1 : Int64)
  · have qhc : x.toInt = (-1) := congrArg Int64.toInt hc
    have S7 : Steps p.tables e below Ω (T2.setTop (mkF m 27 #[.val (.ref a), .val (.int p1), .val (.long q1), .second, .val (.long x), .second] [(.long (-1 : Int64))])) := by
      refine S6.trans ?_
      refine XS.ifNo X2.here hx rfl (hb hby d9_14) rfl (XT.ll_ne_f hc) ?_
      show Steps p.tables e below (T2.setTop (mkF m 17 #[.val (.ref a), .val (.int p1), .val (.long q1), .second, .val (.long x), .second] [])) _
      refine X2.ldc2Long hx hown (mvT hZ (hw _ (List.mem_of_getElem? (i := 30) rfl))) (g := (mkF m 17 #[.val (.ref a), .val (.int p1), .val (.long q1), .second, .val (.long x), .second] [])) rfl (hb hby d9_17) _ ?_
      show Steps p.tables e below (T2.setTop (mkF m 20 #[.val (.ref a), .val (.int p1), .val (.long q1), .second, .val (.long x), .second] [(.long (-1 : Int64))])) _
      refine XS.goto X2.here hx rfl (pc0 := 20) (pc' := 27) rfl (hb hby d9_20) (by decide) (by decide) ?_
      exact Steps.refl _
    obtain ⟨fs, hr, hrun, hended, hW, hsame⟩ := X2.leave (v := some (.long (-1 : Int64))) (fun h => by rw [Bd.returns] at h; cases h)
    have hfin : Steps p.tables e below Ω (T2.setFrames fs) := by
      refine S7.trans ?_
      exact X2.lreturnOut hx Bd.returns (hb hby d9_27) hr
    rw [hΩ] at hfin
    refine ⟨_, _, hfin, hrun, hended, _, _, rfl, ?_, ⟨_, rfl⟩, hW, hsame.mono (by decide) (by decide)⟩
    show Q9 Z a p1 q1 cA xs x h0 n0 _ T2.heap _
    rw [e2]
    exact ⟨by rw [own_lag, if_pos hc], N0, rfl⟩
  · have qhc : ¬ x.toInt = (-1) := fun q => hc (Int64.toInt_inj.mp q)
    have S8 : Steps p.tables e below Ω (T2.setTop (mkF m 27 #[.val (.ref a), .val (.int p1), .val (.long q1), .second, .val (.long x), .second] [(.long (q1 - x))])) := by
      refine S6.trans ?_
      refine XS.ifYes X2.here hx rfl (pc0 := 14) (pc' := 23) rfl (hb hby d9_14) rfl (XT.ll_ne_t hc) (by decide) (by decide) ?_
      show Steps p.tables e below (T2.setTop (mkF m 23 #[.val (.ref a), .val (.int p1), .val (.long q1), .second, .val (.long x), .second] [])) _
      refine XS.lloadN X2.here hx rfl (hb hby d9_23) rfl ?_
      show Steps p.tables e below (T2.setTop (mkF m 24 #[.val (.ref a), .val (.int p1), .val (.long q1), .second, .val (.long x), .second] [(.long q1)])) _
      refine XS.lload X2.here hx rfl (hb hby d9_24) rfl ?_
      show Steps p.tables e below (T2.setTop (mkF m 26 #[.val (.ref a), .val (.int p1), .val (.long q1), .second, .val (.long x), .second] [(.long x), (.long q1)])) _
      refine XS.lsub X2.here hx rfl (hb hby d9_26) rfl ?_
      exact Steps.refl _
    obtain ⟨fs, hr, hrun, hended, hW, hsame⟩ := X2.leave (v := some (.long (q1 - x))) (fun h => by rw [Bd.returns] at h; cases h)
    have hfin : Steps p.tables e below Ω (T2.setFrames fs) := by
      refine S8.trans ?_
      exact X2.lreturnOut hx Bd.returns (hb hby d9_27) hr
    rw [hΩ] at hfin
    refine ⟨_, _, hfin, hrun, hended, _, _, rfl, ?_, ⟨_, rfl⟩, hW, hsame.mono (by decide) (by decide)⟩
    show Q9 Z a p1 q1 cA xs x h0 n0 _ T2.heap _
    rw [e2]
    exact ⟨by rw [own_lag, if_neg hc], N0, rfl⟩
theorem d6_0 : decode prog_61_method_1_code 0 = .ok (.aload_n 0, 1) := by decide +kernel
theorem d6_1 : decode prog_61_method_1_code 1 = .ok (.invokespecial 1, 3) := by decide +kernel
theorem d6_4 : decode prog_61_method_1_code 4 = .ok (.aload_n 0, 1) := by decide +kernel
theorem d6_5 : decode prog_61_method_1_code 5 = .ok (.aload_n 1, 1) := by decide +kernel
theorem d6_6 : decode prog_61_method_1_code 6 = .ok (.invokevirtual 7, 3) := by decide +kernel
theorem d6_9 : decode prog_61_method_1_code 9 = .ok (.checkcast 8, 3) := by decide +kernel
theorem d6_12 : decode prog_61_method_1_code 12 = .ok (.putfield 13, 3) := by decide +kernel
theorem d6_15 : decode prog_61_method_1_code 15 = .ok (.return_, 1) := by decide +kernel
theorem pn_3 : plainName "com/example/ingest/ingest/common/TopicInfo" = true := by first | (simp [plainName, overriddenIn]; done) | decide +kernel
theorem ef_rm6 (m : MethodId) (x0 : Addr) (x1 : Addr) : entryFrame m #[(.ref x0), (.ref x1)] 2 = mkF m 0 #[.val (.ref x0), .val (.ref x1)] [] := by first | (simp [entryFrame, mkF, argsToLocals, Value.category]; done) | rfl
def Q6 (Z : State) (a : Addr) (b : Addr) (xs : List Int64) (h0 : Heap) (n0 : Nat) (v : Option Value) (h : Heap) (L : List Loc) : Prop := ∃ cA : Addr, v = none ∧ Fr n0 L ∧ Keep h0 h [a] ∧ Exa Z h a "com/example/ingest/ingest/common/TopicInfo" ∧ Fld Z h a "com/example/ingest/ingest/common/TopicInfo" "endOffsets" "[J" (.ref cA) ∧ LA Z h cA .long (xs.map Value.long)
set_option maxRecDepth 65536 in
set_option maxHeartbeats 40000000 in
theorem rm6 (l : Launch) (Z : State) (a0 : Array Value) (hw : ∀ d ∈ tables_1, d.before a0 Z = true) (ws : List Jvm.Cond) (a : Addr) (b : Addr) (xs : List Int64) (h0 : Heap) (n0 : Nat) (Z0 : n0 ≤ h0.size) (E0 : Exa Z h0 a "com/example/ingest/ingest/common/TopicInfo") (F1 : Fld Z h0 a "com/example/ingest/ingest/common/TopicInfo" "endOffsets" "[J" .null) (g : n0 ≤ a) (A1 : LA Z h0 b .long (xs.map Value.long)) (B1 : Exa Z h0 b "[J") (b1 : (xs.map Value.long).length ≤ 3) :
    MetFree l (⟨"com/example/ingest/ingest/common/TopicInfo", "<init>", "([J)V"⟩ : MethodName) (head1 (Jvm.Cond.code (⟨"com/example/ingest/ingest/common/TopicInfo", "<init>", "([J)V"⟩ : MethodName) prog_61_method_1_code 2 none :: ws) ({ frames := 1, cells := 1, slots := 3, locals := 15 } : Room)) (fun aa U => aa = #[(.ref a), (.ref b)] ∧ Z.Warmed39 U.vm ∧ U.heap = h0) (fun _ _ _ _ _ => True) (fun _ U o U' => ∃ v L, o = .returned v ∧ Q6 Z a b xs h0 n0 v U'.heap L ∧ FrameEnd U o U' L ({ frames := 1, cells := 1, slots := 3, locals := 15 } : Room).cells ({ frames := 1, cells := 1, slots := 3, locals := 15 } : Room).slots) := by
  refine MetFree.of_bodySF (plainFor_of_name pn_3) hisR ?_
  intro p e s m args below meth c s₁ Bd hml0 hP hK
  obtain ⟨rfl, hZ, hh⟩ := hP
  have hx := Bd.exec
  have hby := Bd.bytes
  have hml : c.maxLocals = 2 := hml0
  have hown : s.vm.findClass "com/example/ingest/ingest/common/TopicInfo" = some m.cls := findClass_of_methodNamed Bd.named
  have hnm := (name_of_methodNamed Bd.named Bd.method).1
  have X0 : Stand p l e ({ frames := 1, cells := 1, slots := 3, locals := 15 } : Room) s m #[(.ref a), (.ref b)] below meth c s₁ [] 0 0 := Stand.of_body Bd
  have e0 : s₁.heap = h0 := by rw [← hh, Bd.state]; rfl
  have N0 := Fr.nil n0
  obtain ⟨Ω, hΩ⟩ : ∃ z, z = s₁.setTop (entryFrame m #[(.ref a), (.ref b)] 2) := ⟨_, rfl⟩
  have S0 : Steps p.tables e below Ω (s₁.setTop (mkF m 0 #[.val (.ref a), .val (.ref b)] [])) := by rw [hΩ]; exact castTop (ef_rm6 m a b) (Steps.refl _)
  have S1 : Steps p.tables e below Ω (s₁.setTop (mkF m 1 #[.val (.ref a), .val (.ref b)] [(.ref a)])) := by
    refine S0.trans ?_
    refine XS.aloadN X0.here hx rfl (hb hby d6_0) rfl rfl ?_
    exact Steps.refl _
  obtain ⟨T2, X2, e2, st2⟩ := initO X0 hx hZ hown (hw _ (List.mem_of_getElem? (i := 51) rfl)) (hw _ (List.mem_of_getElem? (i := 13) rfl)) (hw _ (List.mem_of_getElem? (i := 14) rfl)) e0 (g := (mkF m 1 #[.val (.ref a), .val (.ref b)] [(.ref a)])) rfl (by rw [hml]; rfl) rfl (hb hby d6_1) (by decide) (W := 0) (by show 2 * 0 + _ ≤ _; exact Nat.le_of_eq rfl) (by decide)
  have S3 : Steps p.tables e below Ω (T2.setTop (mkF m 4 #[.val (.ref a), .val (.ref b)] [])) := S1.trans (st2 _ (Steps.refl _))
  have S4 : Steps p.tables e below Ω (T2.setTop (mkF m 6 #[.val (.ref a), .val (.ref b)] [(.ref b), (.ref a)])) := by
    refine S3.trans ?_
    refine XS.aloadN X2.here hx rfl (hb hby d6_4) rfl rfl ?_
    show Steps p.tables e below (T2.setTop (mkF m 5 #[.val (.ref a), .val (.ref b)] [(.ref a)])) _
    refine XS.aloadN X2.here hx rfl (hb hby d6_5) rfl rfl ?_
    exact Steps.refl _
  obtain ⟨T5, h5, X5, e5, E5, V5, B5, st5⟩ := own_clone X2 hx hZ hown (hw _ (List.mem_of_getElem? (i := 52) rfl)) (hw _ (List.mem_of_getElem? (i := 33) rfl)) (hw _ (List.mem_of_getElem? (i := 37) rfl)) (hw _ (List.mem_of_getElem? (i := 35) rfl)) (hw _ (List.mem_of_getElem? (i := 36) rfl)) (hw _ (List.mem_of_getElem? (i := 38) rfl)) e2 A1 B1 (own_fitsJ xs) (g := (mkF m 6 #[.val (.ref a), .val (.ref b)] [(.ref b), (.ref a)])) rfl (by rw [hml]; rfl) rfl (hb hby d6_6) (by decide) (W := 1) (cap := 3) (by show 2 * 0 + _ ≤ _; exact Nat.le_of_eq rfl) (by decide) b1 (by decide) (by decide)
  obtain ⟨cA, s_cA⟩ : ∃ z, z = h0.size := ⟨_, rfl⟩
  rw [← s_cA] at V5 B5 st5
  have S6 : Steps p.tables e below Ω (T5.setTop (mkF m 9 #[.val (.ref a), .val (.ref b)] [(.ref cA), (.ref a)])) := S4.trans (st5 _ (Steps.refl _))
  obtain ⟨T7, X7, e7, st7⟩ := castY X5 hx hZ hown (hw _ (List.mem_of_getElem? (i := 53) rfl)) e5 (Ins.self B5) (g := (mkF m 9 #[.val (.ref a), .val (.ref b)] [(.ref cA), (.ref a)])) rfl rfl (hb hby d6_9)
  have S8 : Steps p.tables e below Ω (T7.setTop (mkF m 12 #[.val (.ref a), .val (.ref b)] [(.ref cA), (.ref a)])) := S6.trans (st7 _ (Steps.refl _))
  have E1 := E0.ext E5
  have F1' := F1.ext E5
  have hne : cA ≠ a := Nat.ne_of_gt (Nat.lt_of_lt_of_le E0.lt (Nat.le_of_eq s_cA.symm))
  obtain ⟨T9, h9, X9, e9, W9, st9⟩ := putF X7 hx hZ hown (host := "") (Or.inl (hw _ (List.mem_of_getElem? (i := 54) rfl))) Via.refl e7 F1' E1 (Or.inr ⟨(hw _ (List.mem_of_getElem? (i := 55) rfl)), rfl, hnm⟩) (hw _ (List.mem_of_getElem? (i := 46) rfl)) (ty := (.array .long)) (by decide) rfl rfl (g := (mkF m 12 #[.val (.ref a), .val (.ref b)] [(.ref cA), (.ref a)])) rfl rfl (hb hby d6_12)
  have S10 : Steps p.tables e below Ω (T9.setTop (mkF m 15 #[.val (.ref a), .val (.ref b)] [])) := S8.trans (st9 _ (Steps.refl _))
  have N9 := Fr.snoc X9 N0 g
  have E2 := E1.wr W9
  have F2 : Fld Z h9 a "com/example/ingest/ingest/common/TopicInfo" "endOffsets" "[J" (.ref cA) := F1'.same W9
  have A2 := V5.other W9 hne
  have KK : Keep h0 h9 [a] := ((Keep.refl h0 [a]).ext E5).wr W9 (Or.inl (List.mem_of_getElem? (i := 0) rfl))
  obtain ⟨fs, hr, hrun, hended, hW, hsame⟩ := X9.leave (v := none) (fun _ => rfl)
  have hfin : Steps p.tables e below Ω (T9.setFrames fs) := by
    refine S10.trans ?_
    exact X9.returnOut hx Bd.returns (hb hby d6_15) hr
  rw [hΩ] at hfin
  refine ⟨_, _, hfin, hrun, hended, _, _, rfl, ?_, ⟨_, rfl⟩, hW, hsame.mono (by decide) (by decide)⟩
  show Q6 Z a b xs h0 n0 _ T9.heap _
  rw [e9]
  exact ⟨cA, rfl, N9, KK, E2, F2, A2⟩
theorem d8_0 : decode prog_61_method_3_code 0 = .ok (.aload_n 0, 1) := by decide +kernel
theorem d8_1 : decode prog_61_method_3_code 1 = .ok (.getfield 13, 3) := by decide +kernel
theorem d8_4 : decode prog_61_method_3_code 4 = .ok (.iload_n 1, 1) := by decide +kernel
theorem d8_5 : decode prog_61_method_3_code 5 = .ok (.laload, 1) := by decide +kernel
theorem d8_6 : decode prog_61_method_3_code 6 = .ok (.lreturn, 1) := by decide +kernel
theorem ef_rm8 (m : MethodId) (x0 : Addr) (x1 : Int32) : entryFrame m #[(.ref x0), (.int x1)] 2 = mkF m 0 #[.val (.ref x0), .val (.int x1)] [] := by first | (simp [entryFrame, mkF, argsToLocals, Value.category]; done) | rfl
def Q8 (Z : State) (t : Addr) (p1 : Int32) (d : Addr) (ys : List Int64) (x : Int64) (h0 : Heap) (n0 : Nat) (v : Option Value) (h : Heap) (L : List Loc) : Prop := v = some (.long x) ∧ Fr n0 L ∧ h = h0
set_option maxRecDepth 65536 in
set_option maxHeartbeats 40000000 in
theorem rm8 (l : Launch) (Z : State) (a0 : Array Value) (hw : ∀ d ∈ tables_1, d.before a0 Z = true) (ws : List Jvm.Cond) (t : Addr) (p1 : Int32) (d : Addr) (ys : List Int64) (x : Int64) (h0 : Heap) (n0 : Nat) (Z0 : n0 ≤ h0.size) (F1 : Fld Z h0 t "com/example/ingest/ingest/common/TopicInfo" "endOffsets" "[J" (.ref d)) (A1 : LA Z h0 d .long (ys.map Value.long)) (b1 : ¬ p1 < 0) (b2 : (ys.map Value.long)[p1.toNatClampNeg]? = some (.long x)) :
    MetFree l (⟨"com/example/ingest/ingest/common/TopicInfo", "endOffset", "(I)J"⟩ : MethodName) (head1 (Jvm.Cond.code (⟨"com/example/ingest/ingest/common/TopicInfo", "endOffset", "(I)J"⟩ : MethodName) prog_61_method_3_code 2 (some .long) :: ws) ({ frames := 0, cells := 0, slots := 0, locals := 0 } : Room)) (fun aa U => aa = #[(.ref t), (.int p1)] ∧ Z.Warmed39 U.vm ∧ U.heap = h0) (fun _ _ _ _ _ => True) (fun _ U o U' => ∃ v L, o = .returned v ∧ Q8 Z t p1 d ys x h0 n0 v U'.heap L ∧ FrameEnd U o U' L ({ frames := 0, cells := 0, slots := 0, locals := 0 } : Room).cells ({ frames := 0, cells := 0, slots := 0, locals := 0 } : Room).slots) := by
  refine MetFree.of_bodySF (plainFor_of_name pn_3) hisR ?_
  intro p e s m args below meth c s₁ Bd hml0 hP hK
  obtain ⟨rfl, hZ, hh⟩ := hP
  have hx := Bd.exec
  have hby := Bd.bytes
  have hml : c.maxLocals = 2 := hml0
  have hown : s.vm.findClass "com/example/ingest/ingest/common/TopicInfo" = some m.cls := findClass_of_methodNamed Bd.named
  have hnm := (name_of_methodNamed Bd.named Bd.method).1
  have X0 : Stand p l e ({ frames := 0, cells := 0, slots := 0, locals := 0 } : Room) s m #[(.ref t), (.int p1)] below meth c s₁ [] 0 0 := Stand.of_body Bd
  have e0 : s₁.heap = h0 := by rw [← hh, Bd.state]; rfl
  have N0 := Fr.nil n0
  obtain ⟨Ω, hΩ⟩ : ∃ z, z = s₁.setTop (entryFrame m #[(.ref t), (.int p1)] 2) := ⟨_, rfl⟩
  have S0 : Steps p.tables e below Ω (s₁.setTop (mkF m 0 #[.val (.ref t), .val (.int p1)] [])) := by rw [hΩ]; exact castTop (ef_rm8 m t p1) (Steps.refl _)
  have S1 : Steps p.tables e below Ω (s₁.setTop (mkF m 1 #[.val (.ref t), .val (.int p1)] [(.ref t)])) := by
    refine S0.trans ?_
    refine XS.aloadN X0.here hx rfl (hb hby d8_0) rfl rfl ?_
    exact Steps.refl _
  obtain ⟨T2, X2, e2, st2⟩ := getF X0 hx hZ hown (host := "") (Or.inl (hw _ (List.mem_of_getElem? (i := 54) rfl))) Via.refl e0 F1 (g := (mkF m 1 #[.val (.ref t), .val (.int p1)] [(.ref t)])) rfl rfl (hb hby d8_1)
  have S3 : Steps p.tables e below Ω (T2.setTop (mkF m 4 #[.val (.ref t), .val (.int p1)] [(.ref d)])) := S1.trans (st2 _ (Steps.refl _))
  have S4 : Steps p.tables e below Ω (T2.setTop (mkF m 5 #[.val (.ref t), .val (.int p1)] [(.int p1), (.ref d)])) := by
    refine S3.trans ?_
    refine XS.iloadN X2.here hx rfl (hb hby d8_4) rfl ?_
    exact Steps.refl _
  have S5 : Steps p.tables e below Ω (T2.setTop (mkF m 6 #[.val (.ref t), .val (.int p1)] [(.long x)])) := S4.trans (own_ldJ X2 hx hZ e2 A1 (j := p1) (x := x) b1 b2 (g := (mkF m 5 #[.val (.ref t), .val (.int p1)] [(.int p1), (.ref d)])) rfl rfl (hb hby d8_5) _ (Steps.refl _))
  obtain ⟨fs, hr, hrun, hended, hW, hsame⟩ := X2.leave (v := some (.long x)) (fun h => by rw [Bd.returns] at h; cases h)
  have hfin : Steps p.tables e below Ω (T2.setFrames fs) := by
    refine S5.trans ?_
    exact X2.lreturnOut hx Bd.returns (hb hby d8_6) hr
  rw [hΩ] at hfin
  refine ⟨_, _, hfin, hrun, hended, _, _, rfl, ?_, ⟨_, rfl⟩, hW, hsame.mono (by decide) (by decide)⟩
  show Q8 Z t p1 d ys x h0 n0 _ T2.heap _
  rw [e2]
  exact ⟨rfl, N0, rfl⟩
theorem d7_0 : decode prog_27_method_8_code 0 = .ok (.lconst 0, 1) := by decide +kernel
theorem d7_1 : decode prog_27_method_8_code 1 = .ok (.lstore_n 2, 1) := by decide +kernel
theorem d7_2 : decode prog_27_method_8_code 2 = .ok (.iconst 0, 1) := by decide +kernel
theorem d7_3 : decode prog_27_method_8_code 3 = .ok (.istore 4, 2) := by decide +kernel
theorem d7_5 : decode prog_27_method_8_code 5 = .ok (.iconst 0, 1) := by decide +kernel
theorem d7_6 : decode prog_27_method_8_code 6 = .ok (.istore 5, 2) := by decide +kernel
theorem d7_8 : decode prog_27_method_8_code 8 = .ok (.iload 5, 2) := by decide +kernel
theorem d7_10 : decode prog_27_method_8_code 10 = .ok (.aload_n 0, 1) := by decide +kernel
theorem d7_11 : decode prog_27_method_8_code 11 = .ok (.getfield 45, 3) := by decide +kernel
theorem d7_14 : decode prog_27_method_8_code 14 = .ok (.arraylength, 1) := by decide +kernel
theorem d7_15 : decode prog_27_method_8_code 15 = .ok (.if_icmp .ge 41, 3) := by decide +kernel
theorem d7_18 : decode prog_27_method_8_code 18 = .ok (.aload_n 0, 1) := by decide +kernel
theorem d7_19 : decode prog_27_method_8_code 19 = .ok (.getfield 45, 3) := by decide +kernel
theorem d7_22 : decode prog_27_method_8_code 22 = .ok (.iload 5, 2) := by decide +kernel
theorem d7_24 : decode prog_27_method_8_code 24 = .ok (.laload, 1) := by decide +kernel
theorem d7_25 : decode prog_27_method_8_code 25 = .ok (.ldc2_w 54, 3) := by decide +kernel
theorem d7_28 : decode prog_27_method_8_code 28 = .ok (.lcmp, 1) := by decide +kernel
theorem d7_29 : decode prog_27_method_8_code 29 = .ok (.ifCond .eq 21, 3) := by decide +kernel
theorem d7_50 : decode prog_27_method_8_code 50 = .ok (.iinc 5 1, 3) := by decide +kernel
theorem d7_53 : decode prog_27_method_8_code 53 = .ok (.goto (-45), 3) := by decide +kernel
theorem d7_56 : decode prog_27_method_8_code 56 = .ok (.iload 4, 2) := by decide +kernel
theorem d7_58 : decode prog_27_method_8_code 58 = .ok (.ifCond .eq 7, 3) := by decide +kernel
theorem d7_65 : decode prog_27_method_8_code 65 = .ok (.ldc2_w 54, 3) := by decide +kernel
theorem d7_68 : decode prog_27_method_8_code 68 = .ok (.lreturn, 1) := by decide +kernel
theorem d7_32 : decode prog_27_method_8_code 32 = .ok (.lload_n 2, 1) := by decide +kernel
theorem d7_33 : decode prog_27_method_8_code 33 = .ok (.aload_n 0, 1) := by decide +kernel
theorem d7_34 : decode prog_27_method_8_code 34 = .ok (.iload 5, 2) := by decide +kernel
theorem d7_36 : decode prog_27_method_8_code 36 = .ok (.aload_n 1, 1) := by decide +kernel
theorem d7_37 : decode prog_27_method_8_code 37 = .ok (.iload 5, 2) := by decide +kernel
theorem pd_2 : parseMethodDescriptor "(I)J" = some ⟨[.int], some .long⟩ := by decide +kernel
theorem d7_39 : decode prog_27_method_8_code 39 = .ok (.invokevirtual 56, 3) := by decide +kernel
theorem pd_3 : parseMethodDescriptor "(IJ)J" = some ⟨[.int, .long], some .long⟩ := by decide +kernel
theorem d7_42 : decode prog_27_method_8_code 42 = .ok (.invokevirtual 62, 3) := by decide +kernel
theorem d7_45 : decode prog_27_method_8_code 45 = .ok (.ladd, 1) := by decide +kernel
theorem d7_46 : decode prog_27_method_8_code 46 = .ok (.lstore_n 2, 1) := by decide +kernel
theorem d7_47 : decode prog_27_method_8_code 47 = .ok (.iconst 1, 1) := by decide +kernel
theorem d7_48 : decode prog_27_method_8_code 48 = .ok (.istore 4, 2) := by decide +kernel
theorem d7_61 : decode prog_27_method_8_code 61 = .ok (.lload_n 2, 1) := by decide +kernel
theorem d7_62 : decode prog_27_method_8_code 62 = .ok (.goto 6, 3) := by decide +kernel
theorem ef_rm7 (m : MethodId) (x0 : Addr) (x1 : Addr) : entryFrame m #[(.ref x0), (.ref x1)] 6 = mkF m 0 #[.val (.ref x0), .val (.ref x1), .unset, .unset, .unset, .unset] [] := by first | (simp [entryFrame, mkF, argsToLocals, Value.category]; done) | rfl
def Q7 (Z : State) (a : Addr) (t : Addr) (cA : Addr) (d : Addr) (o0 : Int64) (o1 : Int64) (o2 : Int64) (x0 : Int64) (x1 : Int64) (x2 : Int64) (h0 : Heap) (n0 : Nat) (v : Option Value) (h : Heap) (L : List Loc) : Prop := v = some (.long (own_tot o0 o1 o2 x0 x1 x2)) ∧ Fr n0 L ∧ h = h0
set_option maxRecDepth 65536 in
set_option maxHeartbeats 40000000 in
theorem rm7 (l : Launch) (Z : State) (a0 : Array Value) (hw : ∀ d ∈ tables_1, d.before a0 Z = true) (ws : List Jvm.Cond) (a : Addr) (t : Addr) (cA : Addr) (d : Addr) (o0 : Int64) (o1 : Int64) (o2 : Int64) (x0 : Int64) (x1 : Int64) (x2 : Int64) (h0 : Heap) (n0 : Nat) (Z0 : n0 ≤ h0.size) (Ea : Exa Z h0 a "com/example/ingest/ingest/common/GroupProgress") (Et : Exa Z h0 t "com/example/ingest/ingest/common/TopicInfo") (F1 : Fld Z h0 a "com/example/ingest/ingest/common/GroupProgress" "offsets" "[J" (.ref cA)) (F2 : Fld Z h0 t "com/example/ingest/ingest/common/TopicInfo" "endOffsets" "[J" (.ref d)) (A1 : LA Z h0 cA .long ([o0, o1, o2].map Value.long)) (A2 : LA Z h0 d .long ([x0, x1, x2].map Value.long)) :
    MetFree l (⟨"com/example/ingest/ingest/common/GroupProgress", "lag", "(Lcom/example/ingest/ingest/common/TopicInfo;)J"⟩ : MethodName) (head1 (Jvm.Cond.code (⟨"com/example/ingest/ingest/common/GroupProgress", "lag", "(Lcom/example/ingest/ingest/common/TopicInfo;)J"⟩ : MethodName) prog_27_method_8_code 6 (some .long) :: ws) ({ frames := 1, cells := 0, slots := 0, locals := 19 } : Room)) (fun aa U => aa = #[(.ref a), (.ref t)] ∧ Z.Warmed39 U.vm ∧ U.heap = h0) (fun _ _ _ _ _ => True) (fun _ U o U' => ∃ v L, o = .returned v ∧ Q7 Z a t cA d o0 o1 o2 x0 x1 x2 h0 n0 v U'.heap L ∧ FrameEnd U o U' L ({ frames := 1, cells := 0, slots := 0, locals := 19 } : Room).cells ({ frames := 1, cells := 0, slots := 0, locals := 19 } : Room).slots) := by
  refine MetFree.of_bodySF (plainFor_of_name pn_2) hisR ?_
  intro p e s m args below meth c s₁ Bd hml0 hP hK
  obtain ⟨rfl, hZ, hh⟩ := hP
  have hx := Bd.exec
  have hby := Bd.bytes
  have hml : c.maxLocals = 6 := hml0
  have hown : s.vm.findClass "com/example/ingest/ingest/common/GroupProgress" = some m.cls := findClass_of_methodNamed Bd.named
  have hnm := (name_of_methodNamed Bd.named Bd.method).1
  have X0 : Stand p l e ({ frames := 1, cells := 0, slots := 0, locals := 19 } : Room) s m #[(.ref a), (.ref t)] below meth c s₁ [] 0 0 := Stand.of_body Bd
  have e0 : s₁.heap = h0 := by rw [← hh, Bd.state]; rfl
  have N0 := Fr.nil n0
  obtain ⟨Ω, hΩ⟩ : ∃ z, z = s₁.setTop (entryFrame m #[(.ref a), (.ref t)] 6) := ⟨_, rfl⟩
  have S0 : Steps p.tables e below Ω (s₁.setTop (mkF m 0 #[.val (.ref a), .val (.ref t), .unset, .unset, .unset, .unset] [])) := by rw [hΩ]; exact castTop (ef_rm7 m a t) (Steps.refl _)
  have S1 : Steps p.tables e below Ω (s₁.setTop (mkF m 8 #[.val (.ref a), .val (.ref t), .val (.long (0 : Int64)), .second, .val (.int (0 : Int32)), .val (.int (0 : Int32))] [])) := by
    refine S0.trans ?_
    refine XS.lconst X0.here hx rfl (hb hby d7_0) ?_
    show Steps p.tables e below (s₁.setTop (mkF m 1 #[.val (.ref a), .val (.ref t), .unset, .unset, .unset, .unset] [(.long (0 : Int64))])) _
    refine XS.lstoreN X0.here hx rfl (hb hby d7_1) rfl (l' := #[.val (.ref a), .val (.ref t), .val (.long (0 : Int64)), .second, .unset, .unset]) rfl ?_
    show Steps p.tables e below (s₁.setTop (mkF m 2 #[.val (.ref a), .val (.ref t), .val (.long (0 : Int64)), .second, .unset, .unset] [])) _
    refine XS.iconst X0.here hx rfl (hb hby d7_2) ?_
    show Steps p.tables e below (s₁.setTop (mkF m 3 #[.val (.ref a), .val (.ref t), .val (.long (0 : Int64)), .second, .unset, .unset] [(.int (0 : Int32))])) _
    refine XS.istore X0.here hx rfl (hb hby d7_3) rfl (l' := #[.val (.ref a), .val (.ref t), .val (.long (0 : Int64)), .second, .val (.int (0 : Int32)), .unset]) rfl ?_
    show Steps p.tables e below (s₁.setTop (mkF m 5 #[.val (.ref a), .val (.ref t), .val (.long (0 : Int64)), .second, .val (.int (0 : Int32)), .unset] [])) _
    refine XS.iconst X0.here hx rfl (hb hby d7_5) ?_
    show Steps p.tables e below (s₁.setTop (mkF m 6 #[.val (.ref a), .val (.ref t), .val (.long (0 : Int64)), .second, .val (.int (0 : Int32)), .unset] [(.int (0 : Int32))])) _
    refine XS.istore X0.here hx rfl (hb hby d7_6) rfl (l' := #[.val (.ref a), .val (.ref t), .val (.long (0 : Int64)), .second, .val (.int (0 : Int32)), .val (.int (0 : Int32))]) rfl ?_
    exact Steps.refl _
  have S2 : Steps p.tables e below Ω (s₁.setTop (mkF m 11 #[.val (.ref a), .val (.ref t), .val (.long (0 : Int64)), .second, .val (.int (0 : Int32)), .val (.int (0 : Int32))] [(.ref a), (.int (0 : Int32))])) := by
    refine S1.trans ?_
    refine XS.iload X0.here hx rfl (hb hby d7_8) rfl ?_
    show Steps p.tables e below (s₁.setTop (mkF m 10 #[.val (.ref a), .val (.ref t), .val (.long (0 : Int64)), .second, .val (.int (0 : Int32)), .val (.int (0 : Int32))] [(.int (0 : Int32))])) _
    refine XS.aloadN X0.here hx rfl (hb hby d7_10) rfl rfl ?_
    exact Steps.refl _
  obtain ⟨T3, X3, e3, st3⟩ := getF X0 hx hZ hown (host := "") (Or.inl (hw _ (List.mem_of_getElem? (i := 41) rfl))) Via.refl e0 F1 (g := (mkF m 11 #[.val (.ref a), .val (.ref t), .val (.long (0 : Int64)), .second, .val (.int (0 : Int32)), .val (.int (0 : Int32))] [(.ref a), (.int (0 : Int32))])) rfl rfl (hb hby d7_11)
  have S4 : Steps p.tables e below Ω (T3.setTop (mkF m 14 #[.val (.ref a), .val (.ref t), .val (.long (0 : Int64)), .second, .val (.int (0 : Int32)), .val (.int (0 : Int32))] [(.ref cA), (.int (0 : Int32))])) := S2.trans (st3 _ (Steps.refl _))
  have S5 : Steps p.tables e below Ω (T3.setTop (mkF m 15 #[.val (.ref a), .val (.ref t), .val (.long (0 : Int64)), .second, .val (.int (0 : Int32)), .val (.int (0 : Int32))] [(.int (3 : Int32)), (.int (0 : Int32))])) := S4.trans (own_len X3 hx hZ e3 A1 (n := (3 : Int32)) rfl (g := (mkF m 14 #[.val (.ref a), .val (.ref t), .val (.long (0 : Int64)), .second, .val (.int (0 : Int32)), .val (.int (0 : Int32))] [(.ref cA), (.int (0 : Int32))])) rfl rfl (hb hby d7_14) _ (Steps.refl _))
  have S6 : Steps p.tables e below Ω (T3.setTop (mkF m 19 #[.val (.ref a), .val (.ref t), .val (.long (0 : Int64)), .second, .val (.int (0 : Int32)), .val (.int (0 : Int32))] [(.ref a)])) := by
    refine S5.trans ?_
    refine XS.icmpNo X3.here hx rfl (hb hby d7_15) rfl (XT.ii_ge_f (by decide)) ?_
    show Steps p.tables e below (T3.setTop (mkF m 18 #[.val (.ref a), .val (.ref t), .val (.long (0 : Int64)), .second, .val (.int (0 : Int32)), .val (.int (0 : Int32))] [])) _
    refine XS.aloadN X3.here hx rfl (hb hby d7_18) rfl rfl ?_
    exact Steps.refl _
  obtain ⟨T7, X7, e7, st7⟩ := getF X3 hx hZ hown (host := "") (Or.inl (hw _ (List.mem_of_getElem? (i := 41) rfl))) Via.refl e3 F1 (g := (mkF m 19 #[.val (.ref a), .val (.ref t), .val (.long (0 : Int64)), .second, .val (.int (0 : Int32)), .val (.int (0 : Int32))] [(.ref a)])) rfl rfl (hb hby d7_19)
  have S8 : Steps p.tables e below Ω (T7.setTop (mkF m 22 #[.val (.ref a), .val (.ref t), .val (.long (0 : Int64)), .second, .val (.int (0 : Int32)), .val (.int (0 : Int32))] [(.ref cA)])) := S6.trans (st7 _ (Steps.refl _))
  have S9 : Steps p.tables e below Ω (T7.setTop (mkF m 24 #[.val (.ref a), .val (.ref t), .val (.long (0 : Int64)), .second, .val (.int (0 : Int32)), .val (.int (0 : Int32))] [(.int (0 : Int32)), (.ref cA)])) := by
    refine S8.trans ?_
    refine XS.iload X7.here hx rfl (hb hby d7_22) rfl ?_
    exact Steps.refl _
  have S10 : Steps p.tables e below Ω (T7.setTop (mkF m 25 #[.val (.ref a), .val (.ref t), .val (.long (0 : Int64)), .second, .val (.int (0 : Int32)), .val (.int (0 : Int32))] [(.long o0)])) := S9.trans (own_ldJ X7 hx hZ e7 A1 (j := (0 : Int32)) (x := o0) (by decide) rfl (g := (mkF m 24 #[.val (.ref a), .val (.ref t), .val (.long (0 : Int64)), .second, .val (.int (0 : Int32)), .val (.int (0 : Int32))] [(.int (0 : Int32)), (.ref cA)])) rfl rfl (hb hby d7_24) _ (Steps.refl _))
  have S11 : Steps p.tables e below Ω (T7.setTop (mkF m 29 #[.val (.ref a), .val (.ref t), .val (.long (0 : Int64)), .second, .val (.int (0 : Int32)), .val (.int (0 : Int32))] [(.int (lcmpW o0 (-1 : Int64)))])) := by
    refine S10.trans ?_
    refine X7.ldc2Long hx hown (mvT hZ (hw _ (List.mem_of_getElem? (i := 30) rfl))) (g := (mkF m 25 #[.val (.ref a), .val (.ref t), .val (.long (0 : Int64)), .second, .val (.int (0 : Int32)), .val (.int (0 : Int32))] [(.long o0)])) rfl (hb hby d7_25) _ ?_
    show Steps p.tables e below (T7.setTop (mkF m 28 #[.val (.ref a), .val (.ref t), .val (.long (0 : Int64)), .second, .val (.int (0 : Int32)), .val (.int (0 : Int32))] [(.long (-1 : Int64)), (.long o0)])) _
    refine XS.lcmp X7.here hx rfl (hb hby d7_28) rfl ?_
    exact Steps.refl _
  by_cases g0 : o0 = (-1 : Int64)
  · have qg0 : o0.toInt = (-1) := congrArg Int64.toInt g0
    have S12 : Steps p.tables e below Ω (T7.setTop (mkF m 8 #[.val (.ref a), .val (.ref t), .val (.long (0 : Int64)), .second, .val (.int (0 : Int32)), .val (.int (1 : Int32))] [])) := by
      refine S11.trans ?_
      refine XS.ifYes X7.here hx rfl (pc0 := 29) (pc' := 50) rfl (hb hby d7_29) rfl (XT.ll_eq_t g0) (by decide) (by decide) ?_
      show Steps p.tables e below (T7.setTop (mkF m 50 #[.val (.ref a), .val (.ref t), .val (.long (0 : Int64)), .second, .val (.int (0 : Int32)), .val (.int (0 : Int32))] [])) _
      refine XS.iinc X7.here hx rfl (hb hby d7_50) rfl (l' := #[.val (.ref a), .val (.ref t), .val (.long (0 : Int64)), .second, .val (.int (0 : Int32)), .val (.int (1 : Int32))]) rfl ?_
      show Steps p.tables e below (T7.setTop (mkF m 53 #[.val (.ref a), .val (.ref t), .val (.long (0 : Int64)), .second, .val (.int (0 : Int32)), .val (.int (1 : Int32))] [])) _
      refine XS.goto X7.here hx rfl (pc0 := 53) (pc' := 8) rfl (hb hby d7_53) (by decide) (by decide) ?_
      exact Steps.refl _
    have S13 : Steps p.tables e below Ω (T7.setTop (mkF m 11 #[.val (.ref a), .val (.ref t), .val (.long (0 : Int64)), .second, .val (.int (0 : Int32)), .val (.int (1 : Int32))] [(.ref a), (.int (1 : Int32))])) := by
      refine S12.trans ?_
      refine XS.iload X7.here hx rfl (hb hby d7_8) rfl ?_
      show Steps p.tables e below (T7.setTop (mkF m 10 #[.val (.ref a), .val (.ref t), .val (.long (0 : Int64)), .second, .val (.int (0 : Int32)), .val (.int (1 : Int32))] [(.int (1 : Int32))])) _
      refine XS.aloadN X7.here hx rfl (hb hby d7_10) rfl rfl ?_
      exact Steps.refl _
    obtain ⟨T14, X14, e14, st14⟩ := getF X7 hx hZ hown (host := "") (Or.inl (hw _ (List.mem_of_getElem? (i := 41) rfl))) Via.refl e7 F1 (g := (mkF m 11 #[.val (.ref a), .val (.ref t), .val (.long (0 : Int64)), .second, .val (.int (0 : Int32)), .val (.int (1 : Int32))] [(.ref a), (.int (1 : Int32))])) rfl rfl (hb hby d7_11)
    have S15 : Steps p.tables e below Ω (T14.setTop (mkF m 14 #[.val (.ref a), .val (.ref t), .val (.long (0 : Int64)), .second, .val (.int (0 : Int32)), .val (.int (1 : Int32))] [(.ref cA), (.int (1 : Int32))])) := S13.trans (st14 _ (Steps.refl _))
    have S16 : Steps p.tables e below Ω (T14.setTop (mkF m 15 #[.val (.ref a), .val (.ref t), .val (.long (0 : Int64)), .second, .val (.int (0 : Int32)), .val (.int (1 : Int32))] [(.int (3 : Int32)), (.int (1 : Int32))])) := S15.trans (own_len X14 hx hZ e14 A1 (n := (3 : Int32)) rfl (g := (mkF m 14 #[.val (.ref a), .val (.ref t), .val (.long (0 : Int64)), .second, .val (.int (0 : Int32)), .val (.int (1 : Int32))] [(.ref cA), (.int (1 : Int32))])) rfl rfl (hb hby d7_14) _ (Steps.refl _))
    have S17 : Steps p.tables e below Ω (T14.setTop (mkF m 19 #[.val (.ref a), .val (.ref t), .val (.long (0 : Int64)), .second, .val (.int (0 : Int32)), .val (.int (1 : Int32))] [(.ref a)])) := by
      refine S16.trans ?_
      refine XS.icmpNo X14.here hx rfl (hb hby d7_15) rfl (XT.ii_ge_f (by decide)) ?_
      show Steps p.tables e below (T14.setTop (mkF m 18 #[.val (.ref a), .val (.ref t), .val (.long (0 : Int64)), .second, .val (.int (0 : Int32)), .val (.int (1 : Int32))] [])) _
      refine XS.aloadN X14.here hx rfl (hb hby d7_18) rfl rfl ?_
      exact Steps.refl _
    obtain ⟨T18, X18, e18, st18⟩ := getF X14 hx hZ hown (host := "") (Or.inl (hw _ (List.mem_of_getElem? (i := 41) rfl))) Via.refl e14 F1 (g := (mkF m 19 #[.val (.ref a), .val (.ref t), .val (.long (0 : Int64)), .second, .val (.int (0 : Int32)), .val (.int (1 : Int32))] [(.ref a)])) rfl rfl (hb hby d7_19)
    have S19 : Steps p.tables e below Ω (T18.setTop (mkF m 22 #[.val (.ref a), .val (.ref t), .val (.long (0 : Int64)), .second, .val (.int (0 : Int32)), .val (.int (1 : Int32))] [(.ref cA)])) := S17.trans (st18 _ (Steps.refl _))
    have S20 : Steps p.tables e below Ω (T18.setTop (mkF m 24 #[.val (.ref a), .val (.ref t), .val (.long (0 : Int64)), .second, .val (.int (0 : Int32)), .val (.int (1 : Int32))] [(.int (1 : Int32)), (.ref cA)])) := by
      refine S19.trans ?_
      refine XS.iload X18.here hx rfl (hb hby d7_22) rfl ?_
      exact Steps.refl _
    have S21 : Steps p.tables e below Ω (T18.setTop (mkF m 25 #[.val (.ref a), .val (.ref t), .val (.long (0 : Int64)), .second, .val (.int (0 : Int32)), .val (.int (1 : Int32))] [(.long o1)])) := S20.trans (own_ldJ X18 hx hZ e18 A1 (j := (1 : Int32)) (x := o1) (by decide) rfl (g := (mkF m 24 #[.val (.ref a), .val (.ref t), .val (.long (0 : Int64)), .second, .val (.int (0 : Int32)), .val (.int (1 : Int32))] [(.int (1 : Int32)), (.ref cA)])) rfl rfl (hb hby d7_24) _ (Steps.refl _))
    have S22 : Steps p.tables e below Ω (T18.setTop (mkF m 29 #[.val (.ref a), .val (.ref t), .val (.long (0 : Int64)), .second, .val (.int (0 : Int32)), .val (.int (1 : Int32))] [(.int (lcmpW o1 (-1 : Int64)))])) := by
      refine S21.trans ?_
      refine X18.ldc2Long hx hown (mvT hZ (hw _ (List.mem_of_getElem? (i := 30) rfl))) (g := (mkF m 25 #[.val (.ref a), .val (.ref t), .val (.long (0 : Int64)), .second, .val (.int (0 : Int32)), .val (.int (1 : Int32))] [(.long o1)])) rfl (hb hby d7_25) _ ?_
      show Steps p.tables e below (T18.setTop (mkF m 28 #[.val (.ref a), .val (.ref t), .val (.long (0 : Int64)), .second, .val (.int (0 : Int32)), .val (.int (1 : Int32))] [(.long (-1 : Int64)), (.long o1)])) _
      refine XS.lcmp X18.here hx rfl (hb hby d7_28) rfl ?_
      exact Steps.refl _
    by_cases g1 : o1 = (-1 : Int64)
    · have qg1 : o1.toInt = (-1) := congrArg Int64.toInt g1
      have S23 : Steps p.tables e below Ω (T18.setTop (mkF m 8 #[.val (.ref a), .val (.ref t), .val (.long (0 : Int64)), .second, .val (.int (0 : Int32)), .val (.int (2 : Int32))] [])) := by
        refine S22.trans ?_
        refine XS.ifYes X18.here hx rfl (pc0 := 29) (pc' := 50) rfl (hb hby d7_29) rfl (XT.ll_eq_t g1) (by decide) (by decide) ?_
        show Steps p.tables e below (T18.setTop (mkF m 50 #[.val (.ref a), .val (.ref t), .val (.long (0 : Int64)), .second, .val (.int (0 : Int32)), .val (.int (1 : Int32))] [])) _
        refine XS.iinc X18.here hx rfl (hb hby d7_50) rfl (l' := #[.val (.ref a), .val (.ref t), .val (.long (0 : Int64)), .second, .val (.int (0 : Int32)), .val (.int (2 : Int32))]) rfl ?_
        show Steps p.tables e below (T18.setTop (mkF m 53 #[.val (.ref a), .val (.ref t), .val (.long (0 : Int64)), .second, .val (.int (0 : Int32)), .val (.int (2 : Int32))] [])) _
        refine XS.goto X18.here hx rfl (pc0 := 53) (pc' := 8) rfl (hb hby d7_53) (by decide) (by decide) ?_
        exact Steps.refl _
      have S24 : Steps p.tables e below Ω (T18.setTop (mkF m 11 #[.val (.ref a), .val (.ref t), .val (.long (0 : Int64)), .second, .val (.int (0 : Int32)), .val (.int (2 : Int32))] [(.ref a), (.int (2 : Int32))])) := by
        refine S23.trans ?_
        refine XS.iload X18.here hx rfl (hb hby d7_8) rfl ?_
        show Steps p.tables e below (T18.setTop (mkF m 10 #[.val (.ref a), .val (.ref t), .val (.long (0 : Int64)), .second, .val (.int (0 : Int32)), .val (.int (2 : Int32))] [(.int (2 : Int32))])) _
        refine XS.aloadN X18.here hx rfl (hb hby d7_10) rfl rfl ?_
        exact Steps.refl _
      obtain ⟨T25, X25, e25, st25⟩ := getF X18 hx hZ hown (host := "") (Or.inl (hw _ (List.mem_of_getElem? (i := 41) rfl))) Via.refl e18 F1 (g := (mkF m 11 #[.val (.ref a), .val (.ref t), .val (.long (0 : Int64)), .second, .val (.int (0 : Int32)), .val (.int (2 : Int32))] [(.ref a), (.int (2 : Int32))])) rfl rfl (hb hby d7_11)
      have S26 : Steps p.tables e below Ω (T25.setTop (mkF m 14 #[.val (.ref a), .val (.ref t), .val (.long (0 : Int64)), .second, .val (.int (0 : Int32)), .val (.int (2 : Int32))] [(.ref cA), (.int (2 : Int32))])) := S24.trans (st25 _ (Steps.refl _))
      have S27 : Steps p.tables e below Ω (T25.setTop (mkF m 15 #[.val (.ref a), .val (.ref t), .val (.long (0 : Int64)), .second, .val (.int (0 : Int32)), .val (.int (2 : Int32))] [(.int (3 : Int32)), (.int (2 : Int32))])) := S26.trans (own_len X25 hx hZ e25 A1 (n := (3 : Int32)) rfl (g := (mkF m 14 #[.val (.ref a), .val (.ref t), .val (.long (0 : Int64)), .second, .val (.int (0 : Int32)), .val (.int (2 : Int32))] [(.ref cA), (.int (2 : Int32))])) rfl rfl (hb hby d7_14) _ (Steps.refl _))
      have S28 : Steps p.tables e below Ω (T25.setTop (mkF m 19 #[.val (.ref a), .val (.ref t), .val (.long (0 : Int64)), .second, .val (.int (0 : Int32)), .val (.int (2 : Int32))] [(.ref a)])) := by
        refine S27.trans ?_
        refine XS.icmpNo X25.here hx rfl (hb hby d7_15) rfl (XT.ii_ge_f (by decide)) ?_
        show Steps p.tables e below (T25.setTop (mkF m 18 #[.val (.ref a), .val (.ref t), .val (.long (0 : Int64)), .second, .val (.int (0 : Int32)), .val (.int (2 : Int32))] [])) _
        refine XS.aloadN X25.here hx rfl (hb hby d7_18) rfl rfl ?_
        exact Steps.refl _
      obtain ⟨T29, X29, e29, st29⟩ := getF X25 hx hZ hown (host := "") (Or.inl (hw _ (List.mem_of_getElem? (i := 41) rfl))) Via.refl e25 F1 (g := (mkF m 19 #[.val (.ref a), .val (.ref t), .val (.long (0 : Int64)), .second, .val (.int (0 : Int32)), .val (.int (2 : Int32))] [(.ref a)])) rfl rfl (hb hby d7_19)
      have S30 : Steps p.tables e below Ω (T29.setTop (mkF m 22 #[.val (.ref a), .val (.ref t), .val (.long (0 : Int64)), .second, .val (.int (0 : Int32)), .val (.int (2 : Int32))] [(.ref cA)])) := S28.trans (st29 _ (Steps.refl _))
      have S31 : Steps p.tables e below Ω (T29.setTop (mkF m 24 #[.val (.ref a), .val (.ref t), .val (.long (0 : Int64)), .second, .val (.int (0 : Int32)), .val (.int (2 : Int32))] [(.int (2 : Int32)), (.ref cA)])) := by
        refine S30.trans ?_
        refine XS.iload X29.here hx rfl (hb hby d7_22) rfl ?_
        exact Steps.refl _
      have S32 : Steps p.tables e below Ω (T29.setTop (mkF m 25 #[.val (.ref a), .val (.ref t), .val (.long (0 : Int64)), .second, .val (.int (0 : Int32)), .val (.int (2 : Int32))] [(.long o2)])) := S31.trans (own_ldJ X29 hx hZ e29 A1 (j := (2 : Int32)) (x := o2) (by decide) rfl (g := (mkF m 24 #[.val (.ref a), .val (.ref t), .val (.long (0 : Int64)), .second, .val (.int (0 : Int32)), .val (.int (2 : Int32))] [(.int (2 : Int32)), (.ref cA)])) rfl rfl (hb hby d7_24) _ (Steps.refl _))
      have S33 : Steps p.tables e below Ω (T29.setTop (mkF m 29 #[.val (.ref a), .val (.ref t), .val (.long (0 : Int64)), .second, .val (.int (0 : Int32)), .val (.int (2 : Int32))] [(.int (lcmpW o2 (-1 : Int64)))])) := by
        refine S32.trans ?_
        refine X29.ldc2Long hx hown (mvT hZ (hw _ (List.mem_of_getElem? (i := 30) rfl))) (g := (mkF m 25 #[.val (.ref a), .val (.ref t), .val (.long (0 : Int64)), .second, .val (.int (0 : Int32)), .val (.int (2 : Int32))] [(.long o2)])) rfl (hb hby d7_25) _ ?_
        show Steps p.tables e below (T29.setTop (mkF m 28 #[.val (.ref a), .val (.ref t), .val (.long (0 : Int64)), .second, .val (.int (0 : Int32)), .val (.int (2 : Int32))] [(.long (-1 : Int64)), (.long o2)])) _
        refine XS.lcmp X29.here hx rfl (hb hby d7_28) rfl ?_
        exact Steps.refl _
      by_cases g2 : o2 = (-1 : Int64)
      · have qg2 : o2.toInt = (-1) := congrArg Int64.toInt g2
        have S34 : Steps p.tables e below Ω (T29.setTop (mkF m 8 #[.val (.ref a), .val (.ref t), .val (.long (0 : Int64)), .second, .val (.int (0 : Int32)), .val (.int (3 : Int32))] [])) := by
          refine S33.trans ?_
          refine XS.ifYes X29.here hx rfl (pc0 := 29) (pc' := 50) rfl (hb hby d7_29) rfl (XT.ll_eq_t g2) (by decide) (by decide) ?_
          show Steps p.tables e below (T29.setTop (mkF m 50 #[.val (.ref a), .val (.ref t), .val (.long (0 : Int64)), .second, .val (.int (0 : Int32)), .val (.int (2 : Int32))] [])) _
          refine XS.iinc X29.here hx rfl (hb hby d7_50) rfl (l' := #[.val (.ref a), .val (.ref t), .val (.long (0 : Int64)), .second, .val (.int (0 : Int32)), .val (.int (3 : Int32))]) rfl ?_
          show Steps p.tables e below (T29.setTop (mkF m 53 #[.val (.ref a), .val (.ref t), .val (.long (0 : Int64)), .second, .val (.int (0 : Int32)), .val (.int (3 : Int32))] [])) _
          refine XS.goto X29.here hx rfl (pc0 := 53) (pc' := 8) rfl (hb hby d7_53) (by decide) (by decide) ?_
          exact Steps.refl _
        have S35 : Steps p.tables e below Ω (T29.setTop (mkF m 11 #[.val (.ref a), .val (.ref t), .val (.long (0 : Int64)), .second, .val (.int (0 : Int32)), .val (.int (3 : Int32))] [(.ref a), (.int (3 : Int32))])) := by
          refine S34.trans ?_
          refine XS.iload X29.here hx rfl (hb hby d7_8) rfl ?_
          show Steps p.tables e below (T29.setTop (mkF m 10 #[.val (.ref a), .val (.ref t), .val (.long (0 : Int64)), .second, .val (.int (0 : Int32)), .val (.int (3 : Int32))] [(.int (3 : Int32))])) _
          refine XS.aloadN X29.here hx rfl (hb hby d7_10) rfl rfl ?_
          exact Steps.refl _
        obtain ⟨T36, X36, e36, st36⟩ := getF X29 hx hZ hown (host := "") (Or.inl (hw _ (List.mem_of_getElem? (i := 41) rfl))) Via.refl e29 F1 (g := (mkF m 11 #[.val (.ref a), .val (.ref t), .val (.long (0 : Int64)), .second, .val (.int (0 : Int32)), .val (.int (3 : Int32))] [(.ref a), (.int (3 : Int32))])) rfl rfl (hb hby d7_11)
        have S37 : Steps p.tables e below Ω (T36.setTop (mkF m 14 #[.val (.ref a), .val (.ref t), .val (.long (0 : Int64)), .second, .val (.int (0 : Int32)), .val (.int (3 : Int32))] [(.ref cA), (.int (3 : Int32))])) := S35.trans (st36 _ (Steps.refl _))
        have S38 : Steps p.tables e below Ω (T36.setTop (mkF m 15 #[.val (.ref a), .val (.ref t), .val (.long (0 : Int64)), .second, .val (.int (0 : Int32)), .val (.int (3 : Int32))] [(.int (3 : Int32)), (.int (3 : Int32))])) := S37.trans (own_len X36 hx hZ e36 A1 (n := (3 : Int32)) rfl (g := (mkF m 14 #[.val (.ref a), .val (.ref t), .val (.long (0 : Int64)), .second, .val (.int (0 : Int32)), .val (.int (3 : Int32))] [(.ref cA), (.int (3 : Int32))])) rfl rfl (hb hby d7_14) _ (Steps.refl _))
        have S39 : Steps p.tables e below Ω (T36.setTop (mkF m 68 #[.val (.ref a), .val (.ref t), .val (.long (0 : Int64)), .second, .val (.int (0 : Int32)), .val (.int (3 : Int32))] [(.long (-1 : Int64))])) := by
          refine S38.trans ?_
          refine XS.icmpYes X36.here hx rfl (pc0 := 15) (pc' := 56) rfl (hb hby d7_15) rfl (XT.ii_ge_t (by decide)) (by decide) (by decide) ?_
          show Steps p.tables e below (T36.setTop (mkF m 56 #[.val (.ref a), .val (.ref t), .val (.long (0 : Int64)), .second, .val (.int (0 : Int32)), .val (.int (3 : Int32))] [])) _
          refine XS.iload X36.here hx rfl (hb hby d7_56) rfl ?_
          show Steps p.tables e below (T36.setTop (mkF m 58 #[.val (.ref a), .val (.ref t), .val (.long (0 : Int64)), .second, .val (.int (0 : Int32)), .val (.int (3 : Int32))] [(.int (0 : Int32))])) _
          refine XS.ifYes X36.here hx rfl (pc0 := 58) (pc' := 65) rfl (hb hby d7_58) rfl (XT.i0_eq_t (by decide)) (by decide) (by decide) ?_
          show Steps p.tables e below (T36.setTop (mkF m 65 #[.val (.ref a), .val (.ref t), .val (.long (0 : Int64)), .second, .val (.int (0 : Int32)), .val (.int (3 : Int32))] [])) _
          refine X36.ldc2Long hx hown (mvT hZ (hw _ (List.mem_of_getElem? (i := 30) rfl))) (g := (mkF m 65 #[.val (.ref a), .val (.ref t), .val (.long (0 : Int64)), .second, .val (.int (0 : Int32)), .val (.int (3 : Int32))] [])) rfl (hb hby d7_65) _ ?_
          exact Steps.refl _
        obtain ⟨fs, hr, hrun, hended, hW, hsame⟩ := X36.leave (v := some (.long (-1 : Int64))) (fun h => by rw [Bd.returns] at h; cases h)
        have hfin : Steps p.tables e below Ω (T36.setFrames fs) := by
          refine S39.trans ?_
          exact X36.lreturnOut hx Bd.returns (hb hby d7_68) hr
        rw [hΩ] at hfin
        refine ⟨_, _, hfin, hrun, hended, _, _, rfl, ?_, ⟨_, rfl⟩, hW, hsame.mono (by decide) (by decide)⟩
        show Q7 Z a t cA d o0 o1 o2 x0 x1 x2 h0 n0 _ T36.heap _
        rw [e36]
        exact ⟨by simp only [own_tot, own_s, own_f, if_pos g0, if_pos g1, if_pos g2, if_true], N0, rfl⟩
      · have qg2 : ¬ o2.toInt = (-1) := fun q => g2 (Int64.toInt_inj.mp q)
        have S40 : Steps p.tables e below Ω (T29.setTop (mkF m 39 #[.val (.ref a), .val (.ref t), .val (.long (0 : Int64)), .second, .val (.int (0 : Int32)), .val (.int (2 : Int32))] [(.int (2 : Int32)), (.ref t), (.int (2 : Int32)), (.ref a), (.long (0 : Int64))])) := by
          refine S33.trans ?_
          refine XS.ifNo X29.here hx rfl (hb hby d7_29) rfl (XT.ll_eq_f g2) ?_
          show Steps p.tables e below (T29.setTop (mkF m 32 #[.val (.ref a), .val (.ref t), .val (.long (0 : Int64)), .second, .val (.int (0 : Int32)), .val (.int (2 : Int32))] [])) _
          refine XS.lloadN X29.here hx rfl (hb hby d7_32) rfl ?_
          show Steps p.tables e below (T29.setTop (mkF m 33 #[.val (.ref a), .val (.ref t), .val (.long (0 : Int64)), .second, .val (.int (0 : Int32)), .val (.int (2 : Int32))] [(.long (0 : Int64))])) _
          refine XS.aloadN X29.here hx rfl (hb hby d7_33) rfl rfl ?_
          show Steps p.tables e below (T29.setTop (mkF m 34 #[.val (.ref a), .val (.ref t), .val (.long (0 : Int64)), .second, .val (.int (0 : Int32)), .val (.int (2 : Int32))] [(.ref a), (.long (0 : Int64))])) _
          refine XS.iload X29.here hx rfl (hb hby d7_34) rfl ?_
          show Steps p.tables e below (T29.setTop (mkF m 36 #[.val (.ref a), .val (.ref t), .val (.long (0 : Int64)), .second, .val (.int (0 : Int32)), .val (.int (2 : Int32))] [(.int (2 : Int32)), (.ref a), (.long (0 : Int64))])) _
          refine XS.aloadN X29.here hx rfl (hb hby d7_36) rfl rfl ?_
          show Steps p.tables e below (T29.setTop (mkF m 37 #[.val (.ref a), .val (.ref t), .val (.long (0 : Int64)), .second, .val (.int (0 : Int32)), .val (.int (2 : Int32))] [(.ref t), (.int (2 : Int32)), (.ref a), (.long (0 : Int64))])) _
          refine XS.iload X29.here hx rfl (hb hby d7_37) rfl ?_
          exact Steps.refl _
        obtain ⟨cq41, kq41, q41a, q41b, q41c⟩ := isOf hZ e29 Et
        obtain ⟨_, _, ⟨T41, L41, k41, n41⟩, -, X41, ⟨Lc41, hQ41, l41, y41, z41⟩, st41⟩ := X29.virtualBack hx (y := (⟨"com/example/ingest/ingest/common/TopicInfo", "endOffset", "(I)J"⟩ : MethodName)) (z := (⟨"com/example/ingest/ingest/common/TopicInfo", "endOffset", "(I)J"⟩ : MethodName)) hown (mvT hZ (hw _ (List.mem_of_getElem? (i := 61) rfl))) (mvT hZ (hw _ (List.mem_of_getElem? (i := 62) rfl))) (notFace_of_selects (args := #[]) (mvT hZ (hw _ (List.mem_of_getElem? (i := 64) rfl)))) (mvT hZ (hw _ (List.mem_of_getElem? (i := 64) rfl))) (mvT hZ (hw _ (List.mem_of_getElem? (i := 63) rfl))) (by decide) (backOf (W := 4) (rm8 l Z a0 hw [] t (2 : Int32) d [x0, x1, x2] x2 h0 n0 Z0 F2 A2 (by decide) rfl) hZ (hw _ (List.mem_of_getElem? (i := 65) rfl)) (hw _ (List.mem_of_getElem? (i := 47) rfl)) (by decide) (by decide)) q41a q41c (g := (mkF m 39 #[.val (.ref a), .val (.ref t), .val (.long (0 : Int64)), .second, .val (.int (0 : Int32)), .val (.int (2 : Int32))] [(.int (2 : Int32)), (.ref t), (.int (2 : Int32)), (.ref a), (.long (0 : Int64))])) rfl (by rw [hml]; rfl) (Steps.refl _) (argsL := [(.int (2 : Int32))]) (rest := [(.int (2 : Int32)), (.ref a), (.long (0 : Int64))]) (lenOf pd_2 rfl) rfl (by show 2 * 0 + _ ≤ _; exact Nat.le_of_eq rfl) (hb hby d7_39) (fun _ _ => ⟨rfl, e29, (by decide : 0 + 0 ≤ _), (by decide : 0 + 0 ≤ _)⟩)
        dsimp only [Pt.U, Pt.locs, Pt.cells, Pt.slots] at X41 l41 y41 z41 st41 hQ41
        subst l41 y41 z41
        obtain ⟨rfl, N41q, e41⟩ := hQ41
        have N41 := Fr.app N0 N41q
        have S42 : Steps p.tables e below Ω (T41.setTop (mkF m 42 #[.val (.ref a), .val (.ref t), .val (.long (0 : Int64)), .second, .val (.int (0 : Int32)), .val (.int (2 : Int32))] [(.long x2), (.int (2 : Int32)), (.ref a), (.long (0 : Int64))])) := S40.trans st41
        obtain ⟨cq43, kq43, q43a, q43b, q43c⟩ := isOf hZ e41 Ea
        obtain ⟨_, _, ⟨T43, L43, k43, n43⟩, -, X43, ⟨Lc43, hQ43, l43, y43, z43⟩, st43⟩ := X41.virtualBack hx (y := (⟨"com/example/ingest/ingest/common/GroupProgress", "lag", "(IJ)J"⟩ : MethodName)) (z := (⟨"com/example/ingest/ingest/common/GroupProgress", "lag", "(IJ)J"⟩ : MethodName)) hown (mvT hZ (hw _ (List.mem_of_getElem? (i := 66) rfl))) (mvT hZ (hw _ (List.mem_of_getElem? (i := 67) rfl))) (notFace_of_selects (args := #[]) (mvT hZ (hw _ (List.mem_of_getElem? (i := 69) rfl)))) (mvT hZ (hw _ (List.mem_of_getElem? (i := 69) rfl))) (mvT hZ (hw _ (List.mem_of_getElem? (i := 68) rfl))) (by decide) (backOf (W := 2) (rm9 l Z a0 hw [] a (2 : Int32) x2 cA [o0, o1, o2] o2 h0 n0 Z0 F1 A1 (by decide) rfl) hZ (hw _ (List.mem_of_getElem? (i := 70) rfl)) (hw _ (List.mem_of_getElem? (i := 7) rfl)) (by decide) (by decide)) q43a q43c (g := (mkF m 42 #[.val (.ref a), .val (.ref t), .val (.long (0 : Int64)), .second, .val (.int (0 : Int32)), .val (.int (2 : Int32))] [(.long x2), (.int (2 : Int32)), (.ref a), (.long (0 : Int64))])) rfl (by rw [hml]; rfl) (Steps.refl _) (argsL := [(.int (2 : Int32)), (.long x2)]) (rest := [(.long (0 : Int64))]) (lenOf pd_3 rfl) rfl (by show 2 * 0 + _ ≤ _; exact Nat.le_of_eq rfl) (hb hby d7_42) (fun _ _ => ⟨rfl, e41, (by decide : 0 + 0 ≤ _), (by decide : 0 + 0 ≤ _)⟩)
        dsimp only [Pt.U, Pt.locs, Pt.cells, Pt.slots] at X43 l43 y43 z43 st43 hQ43
        subst l43 y43 z43
        obtain ⟨rfl, N43q, e43⟩ := hQ43
        have N43 := Fr.app N41 N43q
        have S44 : Steps p.tables e below Ω (T43.setTop (mkF m 45 #[.val (.ref a), .val (.ref t), .val (.long (0 : Int64)), .second, .val (.int (0 : Int32)), .val (.int (2 : Int32))] [(.long (own_lag o2 x2)), (.long (0 : Int64))])) := S42.trans st43
        have S45 : Steps p.tables e below Ω (T43.setTop (mkF m 8 #[.val (.ref a), .val (.ref t), .val (.long ((0 : Int64) + (own_lag o2 x2))), .second, .val (.int (1 : Int32)), .val (.int (3 : Int32))] [])) := by
          refine S44.trans ?_
          refine XS.ladd X43.here hx rfl (hb hby d7_45) rfl ?_
          show Steps p.tables e below (T43.setTop (mkF m 46 #[.val (.ref a), .val (.ref t), .val (.long (0 : Int64)), .second, .val (.int (0 : Int32)), .val (.int (2 : Int32))] [(.long ((0 : Int64) + (own_lag o2 x2)))])) _
          refine XS.lstoreN X43.here hx rfl (hb hby d7_46) rfl (l' := #[.val (.ref a), .val (.ref t), .val (.long ((0 : Int64) + (own_lag o2 x2))), .second, .val (.int (0 : Int32)), .val (.int (2 : Int32))]) rfl ?_
          show Steps p.tables e below (T43.setTop (mkF m 47 #[.val (.ref a), .val (.ref t), .val (.long ((0 : Int64) + (own_lag o2 x2))), .second, .val (.int (0 : Int32)), .val (.int (2 : Int32))] [])) _
          refine XS.iconst X43.here hx rfl (hb hby d7_47) ?_
          show Steps p.tables e below (T43.setTop (mkF m 48 #[.val (.ref a), .val (.ref t), .val (.long ((0 : Int64) + (own_lag o2 x2))), .second, .val (.int (0 : Int32)), .val (.int (2 : Int32))] [(.int (1 : Int32))])) _
          refine XS.istore X43.here hx rfl (hb hby d7_48) rfl (l' := #[.val (.ref a), .val (.ref t), .val (.long ((0 : Int64) + (own_lag o2 x2))), .second, .val (.int (1 : Int32)), .val (.int (2 : Int32))]) rfl ?_
          show Steps p.tables e below (T43.setTop (mkF m 50 #[.val (.ref a), .val (.ref t), .val (.long ((0 : Int64) + (own_lag o2 x2))), .second, .val (.int (1 : Int32)), .val (.int (2 : Int32))] [])) _
          refine XS.iinc X43.here hx rfl (hb hby d7_50) rfl (l' := #[.val (.ref a), .val (.ref t), .val (.long ((0 : Int64) + (own_lag o2 x2))), .second, .val (.int (1 : Int32)), .val (.int (3 : Int32))]) rfl ?_
          show Steps p.tables e below (T43.setTop (mkF m 53 #[.val (.ref a), .val (.ref t), .val (.long ((0 : Int64) + (own_lag o2 x2))), .second, .val (.int (1 : Int32)), .val (.int (3 : Int32))] [])) _
          refine XS.goto X43.here hx rfl (pc0 := 53) (pc' := 8) rfl (hb hby d7_53) (by decide) (by decide) ?_
          exact Steps.refl _
        have S46 : Steps p.tables e below Ω (T43.setTop (mkF m 11 #[.val (.ref a), .val (.ref t), .val (.long ((0 : Int64) + (own_lag o2 x2))), .second, .val (.int (1 : Int32)), .val (.int (3 : Int32))] [(.ref a), (.int (3 : Int32))])) := by
          refine S45.trans ?_
          refine XS.iload X43.here hx rfl (hb hby d7_8) rfl ?_
          show Steps p.tables e below (T43.setTop (mkF m 10 #[.val (.ref a), .val (.ref t), .val (.long ((0 : Int64) + (own_lag o2 x2))), .second, .val (.int (1 : Int32)), .val (.int (3 : Int32))] [(.int (3 : Int32))])) _
          refine XS.aloadN X43.here hx rfl (hb hby d7_10) rfl rfl ?_
          exact Steps.refl _
        obtain ⟨T47, X47, e47, st47⟩ := getF X43 hx hZ hown (host := "") (Or.inl (hw _ (List.mem_of_getElem? (i := 41) rfl))) Via.refl e43 F1 (g := (mkF m 11 #[.val (.ref a), .val (.ref t), .val (.long ((0 : Int64) + (own_lag o2 x2))), .second, .val (.int (1 : Int32)), .val (.int (3 : Int32))] [(.ref a), (.int (3 : Int32))])) rfl rfl (hb hby d7_11)
        have S48 : Steps p.tables e below Ω (T47.setTop (mkF m 14 #[.val (.ref a), .val (.ref t), .val (.long ((0 : Int64) + (own_lag o2 x2))), .second, .val (.int (1 : Int32)), .val (.int (3 : Int32))] [(.ref cA), (.int (3 : Int32))])) := S46.trans (st47 _ (Steps.refl _))
        have S49 : Steps p.tables e below Ω (T47.setTop (mkF m 15 #[.val (.ref a), .val (.ref t), .val (.long ((0 : Int64) + (own_lag o2 x2))), .second, .val (.int (1 : Int32)), .val (.int (3 : Int32))] [(.int (3 : Int32)), (.int (3 : Int32))])) := S48.trans (own_len X47 hx hZ e47 A1 (n := (3 : Int32)) rfl (g := (mkF m 14 #[.val (.ref a), .val (.ref t), .val (.long ((0 : Int64) + (own_lag o2 x2))), .second, .val (.int (1 : Int32)), .val (.int (3 : Int32))] [(.ref cA), (.int (3 : Int32))])) rfl rfl (hb hby d7_14) _ (Steps.refl _))
        have S50 : Steps p.tables e below Ω (T47.setTop (mkF m 68 #[.val (.ref a), .val (.ref t), .val (.long ((0 : Int64) + (own_lag o2 x2))), .second, .val (.int (1 : Int32)), .val (.int (3 : Int32))] [(.long ((0 : Int64) + (own_lag o2 x2)))])) := by
          refine S49.trans ?_
          refine XS.icmpYes X47.here hx rfl (pc0 := 15) (pc' := 56) rfl (hb hby d7_15) rfl (XT.ii_ge_t (by decide)) (by decide) (by decide) ?_
          show Steps p.tables e below (T47.setTop (mkF m 56 #[.val (.ref a), .val (.ref t), .val (.long ((0 : Int64) + (own_lag o2 x2))), .second, .val (.int (1 : Int32)), .val (.int (3 : Int32))] [])) _
          refine XS.iload X47.here hx rfl (hb hby d7_56) rfl ?_
          show Steps p.tables e below (T47.setTop (mkF m 58 #[.val (.ref a), .val (.ref t), .val (.long ((0 : Int64) + (own_lag o2 x2))), .second, .val (.int (1 : Int32)), .val (.int (3 : Int32))] [(.int (1 : Int32))])) _
          refine XS.ifNo X47.here hx rfl (hb hby d7_58) rfl (XT.i0_eq_f (by decide)) ?_
          show Steps p.tables e below (T47.setTop (mkF m 61 #[.val (.ref a), .val (.ref t), .val (.long ((0 : Int64) + (own_lag o2 x2))), .second, .val (.int (1 : Int32)), .val (.int (3 : Int32))] [])) _
          refine XS.lloadN X47.here hx rfl (hb hby d7_61) rfl ?_
          show Steps p.tables e below (T47.setTop (mkF m 62 #[.val (.ref a), .val (.ref t), .val (.long ((0 : Int64) + (own_lag o2 x2))), .second, .val (.int (1 : Int32)), .val (.int (3 : Int32))] [(.long ((0 : Int64) + (own_lag o2 x2)))])) _
          refine XS.goto X47.here hx rfl (pc0 := 62) (pc' := 68) rfl (hb hby d7_62) (by decide) (by decide) ?_
          exact Steps.refl _
        obtain ⟨fs, hr, hrun, hended, hW, hsame⟩ := X47.leave (v := some (.long ((0 : Int64) + (own_lag o2 x2)))) (fun h => by rw [Bd.returns] at h; cases h)
        have hfin : Steps p.tables e below Ω (T47.setFrames fs) := by
          refine S50.trans ?_
          exact X47.lreturnOut hx Bd.returns (hb hby d7_68) hr
        rw [hΩ] at hfin
        refine ⟨_, _, hfin, hrun, hended, _, _, rfl, ?_, ⟨_, rfl⟩, hW, hsame.mono (by decide) (by decide)⟩
        show Q7 Z a t cA d o0 o1 o2 x0 x1 x2 h0 n0 _ T47.heap _
        rw [e47]
        exact ⟨by simp only [own_tot, own_s, own_f, if_pos g0, if_pos g1, if_neg g2, if_neg (by decide : ¬ (1 : Int32) = (0 : Int32))], N43, rfl⟩
    · have qg1 : ¬ o1.toInt = (-1) := fun q => g1 (Int64.toInt_inj.mp q)
      have S51 : Steps p.tables e below Ω (T18.setTop (mkF m 39 #[.val (.ref a), .val (.ref t), .val (.long (0 : Int64)), .second, .val (.int (0 : Int32)), .val (.int (1 : Int32))] [(.int (1 : Int32)), (.ref t), (.int (1 : Int32)), (.ref a), (.long (0 : Int64))])) := by
        refine S22.trans ?_
        refine XS.ifNo X18.here hx rfl (hb hby d7_29) rfl (XT.ll_eq_f g1) ?_
        show Steps p.tables e below (T18.setTop (mkF m 32 #[.val (.ref a), .val (.ref t), .val (.long (0 : Int64)), .second, .val (.int (0 : Int32)), .val (.int (1 : Int32))] [])) _
        refine XS.lloadN X18.here hx rfl (hb hby d7_32) rfl ?_
        show Steps p.tables e below (T18.setTop (mkF m 33 #[.val (.ref a), .val (.ref t), .val (.long (0 : Int64)), .second, .val (.int (0 : Int32)), .val (.int (1 : Int32))] [(.long (0 : Int64))])) _
        refine XS.aloadN X18.here hx rfl (hb hby d7_33) rfl rfl ?_
        show Steps p.tables e below (T18.setTop (mkF m 34 #[.val (.ref a), .val (.ref t), .val (.long (0 : Int64)), .second, .val (.int (0 : Int32)), .val (.int (1 : Int32))] [(.ref a), (.long (0 : Int64))])) _
        refine XS.iload X18.here hx rfl (hb hby d7_34) rfl ?_
        show Steps p.tables e below (T18.setTop (mkF m 36 #[.val (.ref a), .val (.ref t), .val (.long (0 : Int64)), .second, .val (.int (0 : Int32)), .val (.int (1 : Int32))] [(.int (1 : Int32)), (.ref a), (.long (0 : Int64))])) _
        refine XS.aloadN X18.here hx rfl (hb hby d7_36) rfl rfl ?_
        show Steps p.tables e below (T18.setTop (mkF m 37 #[.val (.ref a), .val (.ref t), .val (.long (0 : Int64)), .second, .val (.int (0 : Int32)), .val (.int (1 : Int32))] [(.ref t), (.int (1 : Int32)), (.ref a), (.long (0 : Int64))])) _
        refine XS.iload X18.here hx rfl (hb hby d7_37) rfl ?_
        exact Steps.refl _
      obtain ⟨cq52, kq52, q52a, q52b, q52c⟩ := isOf hZ e18 Et
      obtain ⟨_, _, ⟨T52, L52, k52, n52⟩, -, X52, ⟨Lc52, hQ52, l52, y52, z52⟩, st52⟩ := X18.virtualBack hx (y := (⟨"com/example/ingest/ingest/common/TopicInfo", "endOffset", "(I)J"⟩ : MethodName)) (z := (⟨"com/example/ingest/ingest/common/TopicInfo", "endOffset", "(I)J"⟩ : MethodName)) hown (mvT hZ (hw _ (List.mem_of_getElem? (i := 61) rfl))) (mvT hZ (hw _ (List.mem_of_getElem? (i := 62) rfl))) (notFace_of_selects (args := #[]) (mvT hZ (hw _ (List.mem_of_getElem? (i := 64) rfl)))) (mvT hZ (hw _ (List.mem_of_getElem? (i := 64) rfl))) (mvT hZ (hw _ (List.mem_of_getElem? (i := 63) rfl))) (by decide) (backOf (W := 4) (rm8 l Z a0 hw [] t (1 : Int32) d [x0, x1, x2] x1 h0 n0 Z0 F2 A2 (by decide) rfl) hZ (hw _ (List.mem_of_getElem? (i := 65) rfl)) (hw _ (List.mem_of_getElem? (i := 47) rfl)) (by decide) (by decide)) q52a q52c (g := (mkF m 39 #[.val (.ref a), .val (.ref t), .val (.long (0 : Int64)), .second, .val (.int (0 : Int32)), .val (.int (1 : Int32))] [(.int (1 : Int32)), (.ref t), (.int (1 : Int32)), (.ref a), (.long (0 : Int64))])) rfl (by rw [hml]; rfl) (Steps.refl _) (argsL := [(.int (1 : Int32))]) (rest := [(.int (1 : Int32)), (.ref a), (.long (0 : Int64))]) (lenOf pd_2 rfl) rfl (by show 2 * 0 + _ ≤ _; exact Nat.le_of_eq rfl) (hb hby d7_39) (fun _ _ => ⟨rfl, e18, (by decide : 0 + 0 ≤ _), (by decide : 0 + 0 ≤ _)⟩)
      dsimp only [Pt.U, Pt.locs, Pt.cells, Pt.slots] at X52 l52 y52 z52 st52 hQ52
      subst l52 y52 z52
      obtain ⟨rfl, N52q, e52⟩ := hQ52
      have N52 := Fr.app N0 N52q
      have S53 : Steps p.tables e below Ω (T52.setTop (mkF m 42 #[.val (.ref a), .val (.ref t), .val (.long (0 : Int64)), .second, .val (.int (0 : Int32)), .val (.int (1 : Int32))] [(.long x1), (.int (1 : Int32)), (.ref a), (.long (0 : Int64))])) := S51.trans st52
      obtain ⟨cq54, kq54, q54a, q54b, q54c⟩ := isOf hZ e52 Ea
      obtain ⟨_, _, ⟨T54, L54, k54, n54⟩, -, X54, ⟨Lc54, hQ54, l54, y54, z54⟩, st54⟩ := X52.virtualBack hx (y := (⟨"com/example/ingest/ingest/common/GroupProgress", "lag", "(IJ)J"⟩ : MethodName)) (z := (⟨"com/example/ingest/ingest/common/GroupProgress", "lag", "(IJ)J"⟩ : MethodName)) hown (mvT hZ (hw _ (List.mem_of_getElem? (i := 66) rfl))) (mvT hZ (hw _ (List.mem_of_getElem? (i := 67) rfl))) (notFace_of_selects (args := #[]) (mvT hZ (hw _ (List.mem_of_getElem? (i := 69) rfl)))) (mvT hZ (hw _ (List.mem_of_getElem? (i := 69) rfl))) (mvT hZ (hw _ (List.mem_of_getElem? (i := 68) rfl))) (by decide) (backOf (W := 2) (rm9 l Z a0 hw [] a (1 : Int32) x1 cA [o0, o1, o2] o1 h0 n0 Z0 F1 A1 (by decide) rfl) hZ (hw _ (List.mem_of_getElem? (i := 70) rfl)) (hw _ (List.mem_of_getElem? (i := 7) rfl)) (by decide) (by decide)) q54a q54c (g := (mkF m 42 #[.val (.ref a), .val (.ref t), .val (.long (0 : Int64)), .second, .val (.int (0 : Int32)), .val (.int (1 : Int32))] [(.long x1), (.int (1 : Int32)), (.ref a), (.long (0 : Int64))])) rfl (by rw [hml]; rfl) (Steps.refl _) (argsL := [(.int (1 : Int32)), (.long x1)]) (rest := [(.long (0 : Int64))]) (lenOf pd_3 rfl) rfl (by show 2 * 0 + _ ≤ _; exact Nat.le_of_eq rfl) (hb hby d7_42) (fun _ _ => ⟨rfl, e52, (by decide : 0 + 0 ≤ _), (by decide : 0 + 0 ≤ _)⟩)
      dsimp only [Pt.U, Pt.locs, Pt.cells, Pt.slots] at X54 l54 y54 z54 st54 hQ54
      subst l54 y54 z54
      obtain ⟨rfl, N54q, e54⟩ := hQ54
      have N54 := Fr.app N52 N54q
      have S55 : Steps p.tables e below Ω (T54.setTop (mkF m 45 #[.val (.ref a), .val (.ref t), .val (.long (0 : Int64)), .second, .val (.int (0 : Int32)), .val (.int (1 : Int32))] [(.long (own_lag o1 x1)), (.long (0 : Int64))])) := S53.trans st54
      have S56 : Steps p.tables e below Ω (T54.setTop (mkF m 8 #[.val (.ref a), .val (.ref t), .val (.long ((0 : Int64) + (own_lag o1 x1))), .second, .val (.int (1 : Int32)), .val (.int (2 : Int32))] [])) := by
        refine S55.trans ?_
        refine XS.ladd X54.here hx rfl (hb hby d7_45) rfl ?_
        show Steps p.tables e below (T54.setTop (mkF m 46 #[.val (.ref a), .val (.ref t), .val (.long (0 : Int64)), .second, .val (.int (0 : Int32)), .val (.int (1 : Int32))] [(.long ((0 : Int64) + (own_lag o1 x1)))])) _
        refine XS.lstoreN X54.here hx rfl (hb hby d7_46) rfl (l' := #[.val (.ref a), .val (.ref t), .val (.long ((0 : Int64) + (own_lag o1 x1))), .second, .val (.int (0 : Int32)), .val (.int (1 : Int32))]) rfl ?_
        show Steps p.tables e below (T54.setTop (mkF m 47 #[.val (.ref a), .val (.ref t), .val (.long ((0 : Int64) + (own_lag o1 x1))), .second, .val (.int (0 : Int32)), .val (.int (1 : Int32))] [])) _
        refine XS.iconst X54.here hx rfl (hb hby d7_47) ?_
        show Steps p.tables e below (T54.setTop (mkF m 48 #[.val (.ref a), .val (.ref t), .val (.long ((0 : Int64) + (own_lag o1 x1))), .second, .val (.int (0 : Int32)), .val (.int (1 : Int32))] [(.int (1 : Int32))])) _
        refine XS.istore X54.here hx rfl (hb hby d7_48) rfl (l' := #[.val (.ref a), .val (.ref t), .val (.long ((0 : Int64) + (own_lag o1 x1))), .second, .val (.int (1 : Int32)), .val (.int (1 : Int32))]) rfl ?_
        show Steps p.tables e below (T54.setTop (mkF m 50 #[.val (.ref a), .val (.ref t), .val (.long ((0 : Int64) + (own_lag o1 x1))), .second, .val (.int (1 : Int32)), .val (.int (1 : Int32))] [])) _
        refine XS.iinc X54.here hx rfl (hb hby d7_50) rfl (l' := #[.val (.ref a), .val (.ref t), .val (.long ((0 : Int64) + (own_lag o1 x1))), .second, .val (.int (1 : Int32)), .val (.int (2 : Int32))]) rfl ?_
        show Steps p.tables e below (T54.setTop (mkF m 53 #[.val (.ref a), .val (.ref t), .val (.long ((0 : Int64) + (own_lag o1 x1))), .second, .val (.int (1 : Int32)), .val (.int (2 : Int32))] [])) _
        refine XS.goto X54.here hx rfl (pc0 := 53) (pc' := 8) rfl (hb hby d7_53) (by decide) (by decide) ?_
        exact Steps.refl _
      have S57 : Steps p.tables e below Ω (T54.setTop (mkF m 11 #[.val (.ref a), .val (.ref t), .val (.long ((0 : Int64) + (own_lag o1 x1))), .second, .val (.int (1 : Int32)), .val (.int (2 : Int32))] [(.ref a), (.int (2 : Int32))])) := by
        refine S56.trans ?_
        refine XS.iload X54.here hx rfl (hb hby d7_8) rfl ?_
        show Steps p.tables e below (T54.setTop (mkF m 10 #[.val (.ref a), .val (.ref t), .val (.long ((0 : Int64) + (own_lag o1 x1))), .second, .val (.int (1 : Int32)), .val (.int (2 : Int32))] [(.int (2 : Int32))])) _
        refine XS.aloadN X54.here hx rfl (hb hby d7_10) rfl rfl ?_
        exact Steps.refl _
      obtain ⟨T58, X58, e58, st58⟩ := getF X54 hx hZ hown (host := "") (Or.inl (hw _ (List.mem_of_getElem? (i := 41) rfl))) Via.refl e54 F1 (g := (mkF m 11 #[.val (.ref a), .val (.ref t), .val (.long ((0 : Int64) + (own_lag o1 x1))), .second, .val (.int (1 : Int32)), .val (.int (2 : Int32))] [(.ref a), (.int (2 : Int32))])) rfl rfl (hb hby d7_11)
      have S59 : Steps p.tables e below Ω (T58.setTop (mkF m 14 #[.val (.ref a), .val (.ref t), .val (.long ((0 : Int64) + (own_lag o1 x1))), .second, .val (.int (1 : Int32)), .val (.int (2 : Int32))] [(.ref cA), (.int (2 : Int32))])) := S57.trans (st58 _ (Steps.refl _))
      have S60 : Steps p.tables e below Ω (T58.setTop (mkF m 15 #[.val (.ref a), .val (.ref t), .val (.long ((0 : Int64) + (own_lag o1 x1))), .second, .val (.int (1 : Int32)), .val (.int (2 : Int32))] [(.int (3 : Int32)), (.int (2 : Int32))])) := S59.trans (own_len X58 hx hZ e58 A1 (n := (3 : Int32)) rfl (g := (mkF m 14 #[.val (.ref a), .val (.ref t), .val (.long ((0 : Int64) + (own_lag o1 x1))), .second, .val (.int (1 : Int32)), .val (.int (2 : Int32))] [(.ref cA), (.int (2 : Int32))])) rfl rfl (hb hby d7_14) _ (Steps.refl _))
      have S61 : Steps p.tables e below Ω (T58.setTop (mkF m 19 #[.val (.ref a), .val (.ref t), .val (.long ((0 : Int64) + (own_lag o1 x1))), .second, .val (.int (1 : Int32)), .val (.int (2 : Int32))] [(.ref a)])) := by
        refine S60.trans ?_
        refine XS.icmpNo X58.here hx rfl (hb hby d7_15) rfl (XT.ii_ge_f (by decide)) ?_
        show Steps p.tables e below (T58.setTop (mkF m 18 #[.val (.ref a), .val (.ref t), .val (.long ((0 : Int64) + (own_lag o1 x1))), .second, .val (.int (1 : Int32)), .val (.int (2 : Int32))] [])) _
        refine XS.aloadN X58.here hx rfl (hb hby d7_18) rfl rfl ?_
        exact Steps.refl _
      obtain ⟨T62, X62, e62, st62⟩ := getF X58 hx hZ hown (host := "") (Or.inl (hw _ (List.mem_of_getElem? (i := 41) rfl))) Via.refl e58 F1 (g := (mkF m 19 #[.val (.ref a), .val (.ref t), .val (.long ((0 : Int64) + (own_lag o1 x1))), .second, .val (.int (1 : Int32)), .val (.int (2 : Int32))] [(.ref a)])) rfl rfl (hb hby d7_19)
      have S63 : Steps p.tables e below Ω (T62.setTop (mkF m 22 #[.val (.ref a), .val (.ref t), .val (.long ((0 : Int64) + (own_lag o1 x1))), .second, .val (.int (1 : Int32)), .val (.int (2 : Int32))] [(.ref cA)])) := S61.trans (st62 _ (Steps.refl _))
      have S64 : Steps p.tables e below Ω (T62.setTop (mkF m 24 #[.val (.ref a), .val (.ref t), .val (.long ((0 : Int64) + (own_lag o1 x1))), .second, .val (.int (1 : Int32)), .val (.int (2 : Int32))] [(.int (2 : Int32)), (.ref cA)])) := by
        refine S63.trans ?_
        refine XS.iload X62.here hx rfl (hb hby d7_22) rfl ?_
        exact Steps.refl _
      have S65 : Steps p.tables e below Ω (T62.setTop (mkF m 25 #[.val (.ref a), .val (.ref t), .val (.long ((0 : Int64) + (own_lag o1 x1))), .second, .val (.int (1 : Int32)), .val (.int (2 : Int32))] [(.long o2)])) := S64.trans (own_ldJ X62 hx hZ e62 A1 (j := (2 : Int32)) (x := o2) (by decide) rfl (g := (mkF m 24 #[.val (.ref a), .val (.ref t), .val (.long ((0 : Int64) + (own_lag o1 x1))), .second, .val (.int (1 : Int32)), .val (.int (2 : Int32))] [(.int (2 : Int32)), (.ref cA)])) rfl rfl (hb hby d7_24) _ (Steps.refl _))
      have S66 : Steps p.tables e below Ω (T62.setTop (mkF m 29 #[.val (.ref a), .val (.ref t), .val (.long ((0 : Int64) + (own_lag o1 x1))), .second, .val (.int (1 : Int32)), .val (.int (2 : Int32))] [(.int (lcmpW o2 (-1 : Int64)))])) := by
        refine S65.trans ?_
        refine X62.ldc2Long hx hown (mvT hZ (hw _ (List.mem_of_getElem? (i := 30) rfl))) (g := (mkF m 25 #[.val (.ref a), .val (.ref t), .val (.long ((0 : Int64) + (own_lag o1 x1))), .second, .val (.int (1 : Int32)), .val (.int (2 : Int32))] [(.long o2)])) rfl (hb hby d7_25) _ ?_
        show Steps p.tables e below (T62.setTop (mkF m 28 #[.val (.ref a), .val (.ref t), .val (.long ((0 : Int64) + (own_lag o1 x1))), .second, .val (.int (1 : Int32)), .val (.int (2 : Int32))] [(.long (-1 : Int64)), (.long o2)])) _
        refine XS.lcmp X62.here hx rfl (hb hby d7_28) rfl ?_
        exact Steps.refl _
      by_cases g2 : o2 = (-1 : Int64)
      · have qg2 : o2.toInt = (-1) := congrArg Int64.toInt g2
        have S67 : Steps p.tables e below Ω (T62.setTop (mkF m 8 #[.val (.ref a), .val (.ref t), .val (.long ((0 : Int64) + (own_lag o1 x1))), .second, .val (.int (1 : Int32)), .val (.int (3 : Int32))] [])) := by
          refine S66.trans ?_
          refine XS.ifYes X62.here hx rfl (pc0 := 29) (pc' := 50) rfl (hb hby d7_29) rfl (XT.ll_eq_t g2) (by decide) (by decide) ?_
          show Steps p.tables e below (T62.setTop (mkF m 50 #[.val (.ref a), .val (.ref t), .val (.long ((0 : Int64) + (own_lag o1 x1))), .second, .val (.int (1 : Int32)), .val (.int (2 : Int32))] [])) _
          refine XS.iinc X62.here hx rfl (hb hby d7_50) rfl (l' := #[.val (.ref a), .val (.ref t), .val (.long ((0 : Int64) + (own_lag o1 x1))), .second, .val (.int (1 : Int32)), .val (.int (3 : Int32))]) rfl ?_
          show Steps p.tables e below (T62.setTop (mkF m 53 #[.val (.ref a), .val (.ref t), .val (.long ((0 : Int64) + (own_lag o1 x1))), .second, .val (.int (1 : Int32)), .val (.int (3 : Int32))] [])) _
          refine XS.goto X62.here hx rfl (pc0 := 53) (pc' := 8) rfl (hb hby d7_53) (by decide) (by decide) ?_
          exact Steps.refl _
        have S68 : Steps p.tables e below Ω (T62.setTop (mkF m 11 #[.val (.ref a), .val (.ref t), .val (.long ((0 : Int64) + (own_lag o1 x1))), .second, .val (.int (1 : Int32)), .val (.int (3 : Int32))] [(.ref a), (.int (3 : Int32))])) := by
          refine S67.trans ?_
          refine XS.iload X62.here hx rfl (hb hby d7_8) rfl ?_
          show Steps p.tables e below (T62.setTop (mkF m 10 #[.val (.ref a), .val (.ref t), .val (.long ((0 : Int64) + (own_lag o1 x1))), .second, .val (.int (1 : Int32)), .val (.int (3 : Int32))] [(.int (3 : Int32))])) _
          refine XS.aloadN X62.here hx rfl (hb hby d7_10) rfl rfl ?_
          exact Steps.refl _
        obtain ⟨T69, X69, e69, st69⟩ := getF X62 hx hZ hown (host := "") (Or.inl (hw _ (List.mem_of_getElem? (i := 41) rfl))) Via.refl e62 F1 (g := (mkF m 11 #[.val (.ref a), .val (.ref t), .val (.long ((0 : Int64) + (own_lag o1 x1))), .second, .val (.int (1 : Int32)), .val (.int (3 : Int32))] [(.ref a), (.int (3 : Int32))])) rfl rfl (hb hby d7_11)
        have S70 : Steps p.tables e below Ω (T69.setTop (mkF m 14 #[.val (.ref a), .val (.ref t), .val (.long ((0 : Int64) + (own_lag o1 x1))), .second, .val (.int (1 : Int32)), .val (.int (3 : Int32))] [(.ref cA), (.int (3 : Int32))])) := S68.trans (st69 _ (Steps.refl _))
        have S71 : Steps p.tables e below Ω (T69.setTop (mkF m 15 #[.val (.ref a), .val (.ref t), .val (.long ((0 : Int64) + (own_lag o1 x1))), .second, .val (.int (1 : Int32)), .val (.int (3 : Int32))] [(.int (3 : Int32)), (.int (3 : Int32))])) := S70.trans (own_len X69 hx hZ e69 A1 (n := (3 : Int32)) rfl (g := (mkF m 14 #[.val (.ref a), .val (.ref t), .val (.long ((0 : Int64) + (own_lag o1 x1))), .second, .val (.int (1 : Int32)), .val (.int (3 : Int32))] [(.ref cA), (.int (3 : Int32))])) rfl rfl (hb hby d7_14) _ (Steps.refl _))
        have S72 : Steps p.tables e below Ω (T69.setTop (mkF m 68 #[.val (.ref a), .val (.ref t), .val (.long ((0 : Int64) + (own_lag o1 x1))), .second, .val (.int (1 : Int32)), .val (.int (3 : Int32))] [(.long ((0 : Int64) + (own_lag o1 x1)))])) := by
          refine S71.trans ?_
          refine XS.icmpYes X69.here hx rfl (pc0 := 15) (pc' := 56) rfl (hb hby d7_15) rfl (XT.ii_ge_t (by decide)) (by decide) (by decide) ?_
          show Steps p.tables e below (T69.setTop (mkF m 56 #[.val (.ref a), .val (.ref t), .val (.long ((0 : Int64) + (own_lag o1 x1))), .second, .val (.int (1 : Int32)), .val (.int (3 : Int32))] [])) _
          refine XS.iload X69.here hx rfl (hb hby d7_56) rfl ?_
          show Steps p.tables e below (T69.setTop (mkF m 58 #[.val (.ref a), .val (.ref t), .val (.long ((0 : Int64) + (own_lag o1 x1))), .second, .val (.int (1 : Int32)), .val (.int (3 : Int32))] [(.int (1 : Int32))])) _
          refine XS.ifNo X69.here hx rfl (hb hby d7_58) rfl (XT.i0_eq_f (by decide)) ?_
          show Steps p.tables e below (T69.setTop (mkF m 61 #[.val (.ref a), .val (.ref t), .val (.long ((0 : Int64) + (own_lag o1 x1))), .second, .val (.int (1 : Int32)), .val (.int (3 : Int32))] [])) _
          refine XS.lloadN X69.here hx rfl (hb hby d7_61) rfl ?_
          show Steps p.tables e below (T69.setTop (mkF m 62 #[.val (.ref a), .val (.ref t), .val (.long ((0 : Int64) + (own_lag o1 x1))), .second, .val (.int (1 : Int32)), .val (.int (3 : Int32))] [(.long ((0 : Int64) + (own_lag o1 x1)))])) _
          refine XS.goto X69.here hx rfl (pc0 := 62) (pc' := 68) rfl (hb hby d7_62) (by decide) (by decide) ?_
          exact Steps.refl _
        obtain ⟨fs, hr, hrun, hended, hW, hsame⟩ := X69.leave (v := some (.long ((0 : Int64) + (own_lag o1 x1)))) (fun h => by rw [Bd.returns] at h; cases h)
        have hfin : Steps p.tables e below Ω (T69.setFrames fs) := by
          refine S72.trans ?_
          exact X69.lreturnOut hx Bd.returns (hb hby d7_68) hr
        rw [hΩ] at hfin
        refine ⟨_, _, hfin, hrun, hended, _, _, rfl, ?_, ⟨_, rfl⟩, hW, hsame.mono (by decide) (by decide)⟩
        show Q7 Z a t cA d o0 o1 o2 x0 x1 x2 h0 n0 _ T69.heap _
        rw [e69]
        exact ⟨by simp only [own_tot, own_s, own_f, if_pos g0, if_neg g1, if_pos g2, if_neg (by decide : ¬ (1 : Int32) = (0 : Int32))], N54, rfl⟩
      · have qg2 : ¬ o2.toInt = (-1) := fun q => g2 (Int64.toInt_inj.mp q)
        have S73 : Steps p.tables e below Ω (T62.setTop (mkF m 39 #[.val (.ref a), .val (.ref t), .val (.long ((0 : Int64) + (own_lag o1 x1))), .second, .val (.int (1 : Int32)), .val (.int (2 : Int32))] [(.int (2 : Int32)), (.ref t), (.int (2 : Int32)), (.ref a), (.long ((0 : Int64) + (own_lag o1 x1)))])) := by
          refine S66.trans ?_
          refine XS.ifNo X62.here hx rfl (hb hby d7_29) rfl (XT.ll_eq_f g2) ?_
          show Steps p.tables e below (T62.setTop (mkF m 32 #[.val (.ref a), .val (.ref t), .val (.long ((0 : Int64) + (own_lag o1 x1))), .second, .val (.int (1 : Int32)), .val (.int (2 : Int32))] [])) _
          refine XS.lloadN X62.here hx rfl (hb hby d7_32) rfl ?_
          show Steps p.tables e below (T62.setTop (mkF m 33 #[.val (.ref a), .val (.ref t), .val (.long ((0 : Int64) + (own_lag o1 x1))), .second, .val (.int (1 : Int32)), .val (.int (2 : Int32))] [(.long ((0 : Int64) + (own_lag o1 x1)))])) _
          refine XS.aloadN X62.here hx rfl (hb hby d7_33) rfl rfl ?_
          show Steps p.tables e below (T62.setTop (mkF m 34 #[.val (.ref a), .val (.ref t), .val (.long ((0 : Int64) + (own_lag o1 x1))), .second, .val (.int (1 : Int32)), .val (.int (2 : Int32))] [(.ref a), (.long ((0 : Int64) + (own_lag o1 x1)))])) _
          refine XS.iload X62.here hx rfl (hb hby d7_34) rfl ?_
          show Steps p.tables e below (T62.setTop (mkF m 36 #[.val (.ref a), .val (.ref t), .val (.long ((0 : Int64) + (own_lag o1 x1))), .second, .val (.int (1 : Int32)), .val (.int (2 : Int32))] [(.int (2 : Int32)), (.ref a), (.long ((0 : Int64) + (own_lag o1 x1)))])) _
          refine XS.aloadN X62.here hx rfl (hb hby d7_36) rfl rfl ?_
          show Steps p.tables e below (T62.setTop (mkF m 37 #[.val (.ref a), .val (.ref t), .val (.long ((0 : Int64) + (own_lag o1 x1))), .second, .val (.int (1 : Int32)), .val (.int (2 : Int32))] [(.ref t), (.int (2 : Int32)), (.ref a), (.long ((0 : Int64) + (own_lag o1 x1)))])) _
          refine XS.iload X62.here hx rfl (hb hby d7_37) rfl ?_
          exact Steps.refl _
        obtain ⟨cq74, kq74, q74a, q74b, q74c⟩ := isOf hZ e62 Et
        obtain ⟨_, _, ⟨T74, L74, k74, n74⟩, -, X74, ⟨Lc74, hQ74, l74, y74, z74⟩, st74⟩ := X62.virtualBack hx (y := (⟨"com/example/ingest/ingest/common/TopicInfo", "endOffset", "(I)J"⟩ : MethodName)) (z := (⟨"com/example/ingest/ingest/common/TopicInfo", "endOffset", "(I)J"⟩ : MethodName)) hown (mvT hZ (hw _ (List.mem_of_getElem? (i := 61) rfl))) (mvT hZ (hw _ (List.mem_of_getElem? (i := 62) rfl))) (notFace_of_selects (args := #[]) (mvT hZ (hw _ (List.mem_of_getElem? (i := 64) rfl)))) (mvT hZ (hw _ (List.mem_of_getElem? (i := 64) rfl))) (mvT hZ (hw _ (List.mem_of_getElem? (i := 63) rfl))) (by decide) (backOf (W := 4) (rm8 l Z a0 hw [] t (2 : Int32) d [x0, x1, x2] x2 h0 n0 Z0 F2 A2 (by decide) rfl) hZ (hw _ (List.mem_of_getElem? (i := 65) rfl)) (hw _ (List.mem_of_getElem? (i := 47) rfl)) (by decide) (by decide)) q74a q74c (g := (mkF m 39 #[.val (.ref a), .val (.ref t), .val (.long ((0 : Int64) + (own_lag o1 x1))), .second, .val (.int (1 : Int32)), .val (.int (2 : Int32))] [(.int (2 : Int32)), (.ref t), (.int (2 : Int32)), (.ref a), (.long ((0 : Int64) + (own_lag o1 x1)))])) rfl (by rw [hml]; rfl) (Steps.refl _) (argsL := [(.int (2 : Int32))]) (rest := [(.int (2 : Int32)), (.ref a), (.long ((0 : Int64) + (own_lag o1 x1)))]) (lenOf pd_2 rfl) rfl (by show 2 * 0 + _ ≤ _; exact Nat.le_of_eq rfl) (hb hby d7_39) (fun _ _ => ⟨rfl, e62, (by decide : 0 + 0 ≤ _), (by decide : 0 + 0 ≤ _)⟩)
        dsimp only [Pt.U, Pt.locs, Pt.cells, Pt.slots] at X74 l74 y74 z74 st74 hQ74
        subst l74 y74 z74
        obtain ⟨rfl, N74q, e74⟩ := hQ74
        have N74 := Fr.app N54 N74q
        have S75 : Steps p.tables e below Ω (T74.setTop (mkF m 42 #[.val (.ref a), .val (.ref t), .val (.long ((0 : Int64) + (own_lag o1 x1))), .second, .val (.int (1 : Int32)), .val (.int (2 : Int32))] [(.long x2), (.int (2 : Int32)), (.ref a), (.long ((0 : Int64) + (own_lag o1 x1)))])) := S73.trans st74
        obtain ⟨cq76, kq76, q76a, q76b, q76c⟩ := isOf hZ e74 Ea
        obtain ⟨_, _, ⟨T76, L76, k76, n76⟩, -, X76, ⟨Lc76, hQ76, l76, y76, z76⟩, st76⟩ := X74.virtualBack hx (y := (⟨"com/example/ingest/ingest/common/GroupProgress", "lag", "(IJ)J"⟩ : MethodName)) (z := (⟨"com/example/ingest/ingest/common/GroupProgress", "lag", "(IJ)J"⟩ : MethodName)) hown (mvT hZ (hw _ (List.mem_of_getElem? (i := 66) rfl))) (mvT hZ (hw _ (List.mem_of_getElem? (i := 67) rfl))) (notFace_of_selects (args := #[]) (mvT hZ (hw _ (List.mem_of_getElem? (i := 69) rfl)))) (mvT hZ (hw _ (List.mem_of_getElem? (i := 69) rfl))) (mvT hZ (hw _ (List.mem_of_getElem? (i := 68) rfl))) (by decide) (backOf (W := 2) (rm9 l Z a0 hw [] a (2 : Int32) x2 cA [o0, o1, o2] o2 h0 n0 Z0 F1 A1 (by decide) rfl) hZ (hw _ (List.mem_of_getElem? (i := 70) rfl)) (hw _ (List.mem_of_getElem? (i := 7) rfl)) (by decide) (by decide)) q76a q76c (g := (mkF m 42 #[.val (.ref a), .val (.ref t), .val (.long ((0 : Int64) + (own_lag o1 x1))), .second, .val (.int (1 : Int32)), .val (.int (2 : Int32))] [(.long x2), (.int (2 : Int32)), (.ref a), (.long ((0 : Int64) + (own_lag o1 x1)))])) rfl (by rw [hml]; rfl) (Steps.refl _) (argsL := [(.int (2 : Int32)), (.long x2)]) (rest := [(.long ((0 : Int64) + (own_lag o1 x1)))]) (lenOf pd_3 rfl) rfl (by show 2 * 0 + _ ≤ _; exact Nat.le_of_eq rfl) (hb hby d7_42) (fun _ _ => ⟨rfl, e74, (by decide : 0 + 0 ≤ _), (by decide : 0 + 0 ≤ _)⟩)
        dsimp only [Pt.U, Pt.locs, Pt.cells, Pt.slots] at X76 l76 y76 z76 st76 hQ76
        subst l76 y76 z76
        obtain ⟨rfl, N76q, e76⟩ := hQ76
        have N76 := Fr.app N74 N76q
        have S77 : Steps p.tables e below Ω (T76.setTop (mkF m 45 #[.val (.ref a), .val (.ref t), .val (.long ((0 : Int64) + (own_lag o1 x1))), .second, .val (.int (1 : Int32)), .val (.int (2 : Int32))] [(.long (own_lag o2 x2)), (.long ((0 : Int64) + (own_lag o1 x1)))])) := S75.trans st76
        have S78 : Steps p.tables e below Ω (T76.setTop (mkF m 8 #[.val (.ref a), .val (.ref t), .val (.long (((0 : Int64) + (own_lag o1 x1)) + (own_lag o2 x2))), .second, .val (.int (1 : Int32)), .val (.int (3 : Int32))] [])) := by
          refine S77.trans ?_
          refine XS.ladd X76.here hx rfl (hb hby d7_45) rfl ?_
          show Steps p.tables e below (T76.setTop (mkF m 46 #[.val (.ref a), .val (.ref t), .val (.long ((0 : Int64) + (own_lag o1 x1))), .second, .val (.int (1 : Int32)), .val (.int (2 : Int32))] [(.long (((0 : Int64) + (own_lag o1 x1)) + (own_lag o2 x2)))])) _
          refine XS.lstoreN X76.here hx rfl (hb hby d7_46) rfl (l' := #[.val (.ref a), .val (.ref t), .val (.long (((0 : Int64) + (own_lag o1 x1)) + (own_lag o2 x2))), .second, .val (.int (1 : Int32)), .val (.int (2 : Int32))]) rfl ?_
          show Steps p.tables e below (T76.setTop (mkF m 47 #[.val (.ref a), .val (.ref t), .val (.long (((0 : Int64) + (own_lag o1 x1)) + (own_lag o2 x2))), .second, .val (.int (1 : Int32)), .val (.int (2 : Int32))] [])) _
          refine XS.iconst X76.here hx rfl (hb hby d7_47) ?_
          show Steps p.tables e below (T76.setTop (mkF m 48 #[.val (.ref a), .val (.ref t), .val (.long (((0 : Int64) + (own_lag o1 x1)) + (own_lag o2 x2))), .second, .val (.int (1 : Int32)), .val (.int (2 : Int32))] [(.int (1 : Int32))])) _
          refine XS.istore X76.here hx rfl (hb hby d7_48) rfl (l' := #[.val (.ref a), .val (.ref t), .val (.long (((0 : Int64) + (own_lag o1 x1)) + (own_lag o2 x2))), .second, .val (.int (1 : Int32)), .val (.int (2 : Int32))]) rfl ?_
          show Steps p.tables e below (T76.setTop (mkF m 50 #[.val (.ref a), .val (.ref t), .val (.long (((0 : Int64) + (own_lag o1 x1)) + (own_lag o2 x2))), .second, .val (.int (1 : Int32)), .val (.int (2 : Int32))] [])) _
          refine XS.iinc X76.here hx rfl (hb hby d7_50) rfl (l' := #[.val (.ref a), .val (.ref t), .val (.long (((0 : Int64) + (own_lag o1 x1)) + (own_lag o2 x2))), .second, .val (.int (1 : Int32)), .val (.int (3 : Int32))]) rfl ?_
          show Steps p.tables e below (T76.setTop (mkF m 53 #[.val (.ref a), .val (.ref t), .val (.long (((0 : Int64) + (own_lag o1 x1)) + (own_lag o2 x2))), .second, .val (.int (1 : Int32)), .val (.int (3 : Int32))] [])) _
          refine XS.goto X76.here hx rfl (pc0 := 53) (pc' := 8) rfl (hb hby d7_53) (by decide) (by decide) ?_
          exact Steps.refl _
        have S79 : Steps p.tables e below Ω (T76.setTop (mkF m 11 #[.val (.ref a), .val (.ref t), .val (.long (((0 : Int64) + (own_lag o1 x1)) + (own_lag o2 x2))), .second, .val (.int (1 : Int32)), .val (.int (3 : Int32))] [(.ref a), (.int (3 : Int32))])) := by
          refine S78.trans ?_
          refine XS.iload X76.here hx rfl (hb hby d7_8) rfl ?_
          show Steps p.tables e below (T76.setTop (mkF m 10 #[.val (.ref a), .val (.ref t), .val (.long (((0 : Int64) + (own_lag o1 x1)) + (own_lag o2 x2))), .second, .val (.int (1 : Int32)), .val (.int (3 : Int32))] [(.int (3 : Int32))])) _
          refine XS.aloadN X76.here hx rfl (hb hby d7_10) rfl rfl ?_
          exact Steps.refl _
        obtain ⟨T80, X80, e80, st80⟩ := getF X76 hx hZ hown (host := "") (Or.inl (hw _ (List.mem_of_getElem? (i := 41) rfl))) Via.refl e76 F1 (g := (mkF m 11 #[.val (.ref a), .val (.ref t), .val (.long (((0 : Int64) + (own_lag o1 x1)) + (own_lag o2 x2))), .second, .val (.int (1 : Int32)), .val (.int (3 : Int32))] [(.ref a), (.int (3 : Int32))])) rfl rfl (hb hby d7_11)
        have S81 : Steps p.tables e below Ω (T80.setTop (mkF m 14 #[.val (.ref a), .val (.ref t), .val (.long (((0 : Int64) + (own_lag o1 x1)) + (own_lag o2 x2))), .second, .val (.int (1 : Int32)), .val (.int (3 : Int32))] [(.ref cA), (.int (3 : Int32))])) := S79.trans (st80 _ (Steps.refl _))
        have S82 : Steps p.tables e below Ω (T80.setTop (mkF m 15 #[.val (.ref a), .val (.ref t), .val (.long (((0 : Int64) + (own_lag o1 x1)) + (own_lag o2 x2))), .second, .val (.int (1 : Int32)), .val (.int (3 : Int32))] [(.int (3 : Int32)), (.int (3 : Int32))])) := S81.trans (own_len X80 hx hZ e80 A1 (n := (3 : Int32)) rfl (g := (mkF m 14 #[.val (.ref a), .val (.ref t), .val (.long (((0 : Int64) + (own_lag o1 x1)) + (own_lag o2 x2))), .second, .val (.int (1 : Int32)), .val (.int (3 : Int32))] [(.ref cA), (.int (3 : Int32))])) rfl rfl (hb hby d7_14) _ (Steps.refl _))
        have S83 : Steps p.tables e below Ω (T80.setTop (mkF m 68 #[.val (.ref a), .val (.ref t), .val (.long (((0 : Int64) + (own_lag o1 x1)) + (own_lag o2 x2))), .second, .val (.int (1 : Int32)), .val (.int (3 : Int32))] [(.long (((0 : Int64) + (own_lag o1 x1)) + (own_lag o2 x2)))])) := by
          refine S82.trans ?_
          refine XS.icmpYes X80.here hx rfl (pc0 := 15) (pc' := 56) rfl (hb hby d7_15) rfl (XT.ii_ge_t (by decide)) (by decide) (by decide) ?_
          show Steps p.tables e below (T80.setTop (mkF m 56 #[.val (.ref a), .val (.ref t), .val (.long (((0 : Int64) + (own_lag o1 x1)) + (own_lag o2 x2))), .second, .val (.int (1 : Int32)), .val (.int (3 : Int32))] [])) _
          refine XS.iload X80.here hx rfl (hb hby d7_56) rfl ?_
          show Steps p.tables e below (T80.setTop (mkF m 58 #[.val (.ref a), .val (.ref t), .val (.long (((0 : Int64) + (own_lag o1 x1)) + (own_lag o2 x2))), .second, .val (.int (1 : Int32)), .val (.int (3 : Int32))] [(.int (1 : Int32))])) _
          refine XS.ifNo X80.here hx rfl (hb hby d7_58) rfl (XT.i0_eq_f (by decide)) ?_
          show Steps p.tables e below (T80.setTop (mkF m 61 #[.val (.ref a), .val (.ref t), .val (.long (((0 : Int64) + (own_lag o1 x1)) + (own_lag o2 x2))), .second, .val (.int (1 : Int32)), .val (.int (3 : Int32))] [])) _
          refine XS.lloadN X80.here hx rfl (hb hby d7_61) rfl ?_
          show Steps p.tables e below (T80.setTop (mkF m 62 #[.val (.ref a), .val (.ref t), .val (.long (((0 : Int64) + (own_lag o1 x1)) + (own_lag o2 x2))), .second, .val (.int (1 : Int32)), .val (.int (3 : Int32))] [(.long (((0 : Int64) + (own_lag o1 x1)) + (own_lag o2 x2)))])) _
          refine XS.goto X80.here hx rfl (pc0 := 62) (pc' := 68) rfl (hb hby d7_62) (by decide) (by decide) ?_
          exact Steps.refl _
        obtain ⟨fs, hr, hrun, hended, hW, hsame⟩ := X80.leave (v := some (.long (((0 : Int64) + (own_lag o1 x1)) + (own_lag o2 x2)))) (fun h => by rw [Bd.returns] at h; cases h)
        have hfin : Steps p.tables e below Ω (T80.setFrames fs) := by
          refine S83.trans ?_
          exact X80.lreturnOut hx Bd.returns (hb hby d7_68) hr
        rw [hΩ] at hfin
        refine ⟨_, _, hfin, hrun, hended, _, _, rfl, ?_, ⟨_, rfl⟩, hW, hsame.mono (by decide) (by decide)⟩
        show Q7 Z a t cA d o0 o1 o2 x0 x1 x2 h0 n0 _ T80.heap _
        rw [e80]
        exact ⟨by simp only [own_tot, own_s, own_f, if_pos g0, if_neg g1, if_neg g2, if_neg (by decide : ¬ (1 : Int32) = (0 : Int32))], N76, rfl⟩
  · have qg0 : ¬ o0.toInt = (-1) := fun q => g0 (Int64.toInt_inj.mp q)
    have S84 : Steps p.tables e below Ω (T7.setTop (mkF m 39 #[.val (.ref a), .val (.ref t), .val (.long (0 : Int64)), .second, .val (.int (0 : Int32)), .val (.int (0 : Int32))] [(.int (0 : Int32)), (.ref t), (.int (0 : Int32)), (.ref a), (.long (0 : Int64))])) := by
      refine S11.trans ?_
      refine XS.ifNo X7.here hx rfl (hb hby d7_29) rfl (XT.ll_eq_f g0) ?_
      show Steps p.tables e below (T7.setTop (mkF m 32 #[.val (.ref a), .val (.ref t), .val (.long (0 : Int64)), .second, .val (.int (0 : Int32)), .val (.int (0 : Int32))] [])) _
      refine XS.lloadN X7.here hx rfl (hb hby d7_32) rfl ?_
      show Steps p.tables e below (T7.setTop (mkF m 33 #[.val (.ref a), .val (.ref t), .val (.long (0 : Int64)), .second, .val (.int (0 : Int32)), .val (.int (0 : Int32))] [(.long (0 : Int64))])) _
      refine XS.aloadN X7.here hx rfl (hb hby d7_33) rfl rfl ?_
      show Steps p.tables e below (T7.setTop (mkF m 34 #[.val (.ref a), .val (.ref t), .val (.long (0 : Int64)), .second, .val (.int (0 : Int32)), .val (.int (0 : Int32))] [(.ref a), (.long (0 : Int64))])) _
      refine XS.iload X7.here hx rfl (hb hby d7_34) rfl ?_
      show Steps p.tables e below (T7.setTop (mkF m 36 #[.val (.ref a), .val (.ref t), .val (.long (0 : Int64)), .second, .val (.int (0 : Int32)), .val (.int (0 : Int32))] [(.int (0 : Int32)), (.ref a), (.long (0 : Int64))])) _
      refine XS.aloadN X7.here hx rfl (hb hby d7_36) rfl rfl ?_
      show Steps p.tables e below (T7.setTop (mkF m 37 #[.val (.ref a), .val (.ref t), .val (.long (0 : Int64)), .second, .val (.int (0 : Int32)), .val (.int (0 : Int32))] [(.ref t), (.int (0 : Int32)), (.ref a), (.long (0 : Int64))])) _
      refine XS.iload X7.here hx rfl (hb hby d7_37) rfl ?_
      exact Steps.refl _
    obtain ⟨cq85, kq85, q85a, q85b, q85c⟩ := isOf hZ e7 Et
    obtain ⟨_, _, ⟨T85, L85, k85, n85⟩, -, X85, ⟨Lc85, hQ85, l85, y85, z85⟩, st85⟩ := X7.virtualBack hx (y := (⟨"com/example/ingest/ingest/common/TopicInfo", "endOffset", "(I)J"⟩ : MethodName)) (z := (⟨"com/example/ingest/ingest/common/TopicInfo", "endOffset", "(I)J"⟩ : MethodName)) hown (mvT hZ (hw _ (List.mem_of_getElem? (i := 61) rfl))) (mvT hZ (hw _ (List.mem_of_getElem? (i := 62) rfl))) (notFace_of_selects (args := #[]) (mvT hZ (hw _ (List.mem_of_getElem? (i := 64) rfl)))) (mvT hZ (hw _ (List.mem_of_getElem? (i := 64) rfl))) (mvT hZ (hw _ (List.mem_of_getElem? (i := 63) rfl))) (by decide) (backOf (W := 4) (rm8 l Z a0 hw [] t (0 : Int32) d [x0, x1, x2] x0 h0 n0 Z0 F2 A2 (by decide) rfl) hZ (hw _ (List.mem_of_getElem? (i := 65) rfl)) (hw _ (List.mem_of_getElem? (i := 47) rfl)) (by decide) (by decide)) q85a q85c (g := (mkF m 39 #[.val (.ref a), .val (.ref t), .val (.long (0 : Int64)), .second, .val (.int (0 : Int32)), .val (.int (0 : Int32))] [(.int (0 : Int32)), (.ref t), (.int (0 : Int32)), (.ref a), (.long (0 : Int64))])) rfl (by rw [hml]; rfl) (Steps.refl _) (argsL := [(.int (0 : Int32))]) (rest := [(.int (0 : Int32)), (.ref a), (.long (0 : Int64))]) (lenOf pd_2 rfl) rfl (by show 2 * 0 + _ ≤ _; exact Nat.le_of_eq rfl) (hb hby d7_39) (fun _ _ => ⟨rfl, e7, (by decide : 0 + 0 ≤ _), (by decide : 0 + 0 ≤ _)⟩)
    dsimp only [Pt.U, Pt.locs, Pt.cells, Pt.slots] at X85 l85 y85 z85 st85 hQ85
    subst l85 y85 z85
    obtain ⟨rfl, N85q, e85⟩ := hQ85
    have N85 := Fr.app N0 N85q
    have S86 : Steps p.tables e below Ω (T85.setTop (mkF m 42 #[.val (.ref a), .val (.ref t), .val (.long (0 : Int64)), .second, .val (.int (0 : Int32)), .val (.int (0 : Int32))] [(.long x0), (.int (0 : Int32)), (.ref a), (.long (0 : Int64))])) := S84.trans st85
    obtain ⟨cq87, kq87, q87a, q87b, q87c⟩ := isOf hZ e85 Ea
    obtain ⟨_, _, ⟨T87, L87, k87, n87⟩, -, X87, ⟨Lc87, hQ87, l87, y87, z87⟩, st87⟩ := X85.virtualBack hx (y := (⟨"com/example/ingest/ingest/common/GroupProgress", "lag", "(IJ)J"⟩ : MethodName)) (z := (⟨"com/example/ingest/ingest/common/GroupProgress", "lag", "(IJ)J"⟩ : MethodName)) hown (mvT hZ (hw _ (List.mem_of_getElem? (i := 66) rfl))) (mvT hZ (hw _ (List.mem_of_getElem? (i := 67) rfl))) (notFace_of_selects (args := #[]) (mvT hZ (hw _ (List.mem_of_getElem? (i := 69) rfl)))) (mvT hZ (hw _ (List.mem_of_getElem? (i := 69) rfl))) (mvT hZ (hw _ (List.mem_of_getElem? (i := 68) rfl))) (by decide) (backOf (W := 2) (rm9 l Z a0 hw [] a (0 : Int32) x0 cA [o0, o1, o2] o0 h0 n0 Z0 F1 A1 (by decide) rfl) hZ (hw _ (List.mem_of_getElem? (i := 70) rfl)) (hw _ (List.mem_of_getElem? (i := 7) rfl)) (by decide) (by decide)) q87a q87c (g := (mkF m 42 #[.val (.ref a), .val (.ref t), .val (.long (0 : Int64)), .second, .val (.int (0 : Int32)), .val (.int (0 : Int32))] [(.long x0), (.int (0 : Int32)), (.ref a), (.long (0 : Int64))])) rfl (by rw [hml]; rfl) (Steps.refl _) (argsL := [(.int (0 : Int32)), (.long x0)]) (rest := [(.long (0 : Int64))]) (lenOf pd_3 rfl) rfl (by show 2 * 0 + _ ≤ _; exact Nat.le_of_eq rfl) (hb hby d7_42) (fun _ _ => ⟨rfl, e85, (by decide : 0 + 0 ≤ _), (by decide : 0 + 0 ≤ _)⟩)
    dsimp only [Pt.U, Pt.locs, Pt.cells, Pt.slots] at X87 l87 y87 z87 st87 hQ87
    subst l87 y87 z87
    obtain ⟨rfl, N87q, e87⟩ := hQ87
    have N87 := Fr.app N85 N87q
    have S88 : Steps p.tables e below Ω (T87.setTop (mkF m 45 #[.val (.ref a), .val (.ref t), .val (.long (0 : Int64)), .second, .val (.int (0 : Int32)), .val (.int (0 : Int32))] [(.long (own_lag o0 x0)), (.long (0 : Int64))])) := S86.trans st87
    have S89 : Steps p.tables e below Ω (T87.setTop (mkF m 8 #[.val (.ref a), .val (.ref t), .val (.long ((0 : Int64) + (own_lag o0 x0))), .second, .val (.int (1 : Int32)), .val (.int (1 : Int32))] [])) := by
      refine S88.trans ?_
      refine XS.ladd X87.here hx rfl (hb hby d7_45) rfl ?_
      show Steps p.tables e below (T87.setTop (mkF m 46 #[.val (.ref a), .val (.ref t), .val (.long (0 : Int64)), .second, .val (.int (0 : Int32)), .val (.int (0 : Int32))] [(.long ((0 : Int64) + (own_lag o0 x0)))])) _
      refine XS.lstoreN X87.here hx rfl (hb hby d7_46) rfl (l' := #[.val (.ref a), .val (.ref t), .val (.long ((0 : Int64) + (own_lag o0 x0))), .second, .val (.int (0 : Int32)), .val (.int (0 : Int32))]) rfl ?_
      show Steps p.tables e below (T87.setTop (mkF m 47 #[.val (.ref a), .val (.ref t), .val (.long ((0 : Int64) + (own_lag o0 x0))), .second, .val (.int (0 : Int32)), .val (.int (0 : Int32))] [])) _
      refine XS.iconst X87.here hx rfl (hb hby d7_47) ?_
      show Steps p.tables e below (T87.setTop (mkF m 48 #[.val (.ref a), .val (.ref t), .val (.long ((0 : Int64) + (own_lag o0 x0))), .second, .val (.int (0 : Int32)), .val (.int (0 : Int32))] [(.int (1 : Int32))])) _
      refine XS.istore X87.here hx rfl (hb hby d7_48) rfl (l' := #[.val (.ref a), .val (.ref t), .val (.long ((0 : Int64) + (own_lag o0 x0))), .second, .val (.int (1 : Int32)), .val (.int (0 : Int32))]) rfl ?_
      show Steps p.tables e below (T87.setTop (mkF m 50 #[.val (.ref a), .val (.ref t), .val (.long ((0 : Int64) + (own_lag o0 x0))), .second, .val (.int (1 : Int32)), .val (.int (0 : Int32))] [])) _
      refine XS.iinc X87.here hx rfl (hb hby d7_50) rfl (l' := #[.val (.ref a), .val (.ref t), .val (.long ((0 : Int64) + (own_lag o0 x0))), .second, .val (.int (1 : Int32)), .val (.int (1 : Int32))]) rfl ?_
      show Steps p.tables e below (T87.setTop (mkF m 53 #[.val (.ref a), .val (.ref t), .val (.long ((0 : Int64) + (own_lag o0 x0))), .second, .val (.int (1 : Int32)), .val (.int (1 : Int32))] [])) _
      refine XS.goto X87.here hx rfl (pc0 := 53) (pc' := 8) rfl (hb hby d7_53) (by decide) (by decide) ?_
      exact Steps.refl _
    have S90 : Steps p.tables e below Ω (T87.setTop (mkF m 11 #[.val (.ref a), .val (.ref t), .val (.long ((0 : Int64) + (own_lag o0 x0))), .second, .val (.int (1 : Int32)), .val (.int (1 : Int32))] [(.ref a), (.int (1 : Int32))])) := by
      refine S89.trans ?_
      refine XS.iload X87.here hx rfl (hb hby d7_8) rfl ?_
      show Steps p.tables e below (T87.setTop (mkF m 10 #[.val (.ref a), .val (.ref t), .val (.long ((0 : Int64) + (own_lag o0 x0))), .second, .val (.int (1 : Int32)), .val (.int (1 : Int32))] [(.int (1 : Int32))])) _
      refine XS.aloadN X87.here hx rfl (hb hby d7_10) rfl rfl ?_
      exact Steps.refl _
    obtain ⟨T91, X91, e91, st91⟩ := getF X87 hx hZ hown (host := "") (Or.inl (hw _ (List.mem_of_getElem? (i := 41) rfl))) Via.refl e87 F1 (g := (mkF m 11 #[.val (.ref a), .val (.ref t), .val (.long ((0 : Int64) + (own_lag o0 x0))), .second, .val (.int (1 : Int32)), .val (.int (1 : Int32))] [(.ref a), (.int (1 : Int32))])) rfl rfl (hb hby d7_11)
    have S92 : Steps p.tables e below Ω (T91.setTop (mkF m 14 #[.val (.ref a), .val (.ref t), .val (.long ((0 : Int64) + (own_lag o0 x0))), .second, .val (.int (1 : Int32)), .val (.int (1 : Int32))] [(.ref cA), (.int (1 : Int32))])) := S90.trans (st91 _ (Steps.refl _))
    have S93 : Steps p.tables e below Ω (T91.setTop (mkF m 15 #[.val (.ref a), .val (.ref t), .val (.long ((0 : Int64) + (own_lag o0 x0))), .second, .val (.int (1 : Int32)), .val (.int (1 : Int32))] [(.int (3 : Int32)), (.int (1 : Int32))])) := S92.trans (own_len X91 hx hZ e91 A1 (n := (3 : Int32)) rfl (g := (mkF m 14 #[.val (.ref a), .val (.ref t), .val (.long ((0 : Int64) + (own_lag o0 x0))), .second, .val (.int (1 : Int32)), .val (.int (1 : Int32))] [(.ref cA), (.int (1 : Int32))])) rfl rfl (hb hby d7_14) _ (Steps.refl _))
    have S94 : Steps p.tables e below Ω (T91.setTop (mkF m 19 #[.val (.ref a), .val (.ref t), .val (.long ((0 : Int64) + (own_lag o0 x0))), .second, .val (.int (1 : Int32)), .val (.int (1 : Int32))] [(.ref a)])) := by
      refine S93.trans ?_
      refine XS.icmpNo X91.here hx rfl (hb hby d7_15) rfl (XT.ii_ge_f (by decide)) ?_
      show Steps p.tables e below (T91.setTop (mkF m 18 #[.val (.ref a), .val (.ref t), .val (.long ((0 : Int64) + (own_lag o0 x0))), .second, .val (.int (1 : Int32)), .val (.int (1 : Int32))] [])) _
      refine XS.aloadN X91.here hx rfl (hb hby d7_18) rfl rfl ?_
      exact Steps.refl _
    obtain ⟨T95, X95, e95, st95⟩ := getF X91 hx hZ hown (host := "") (Or.inl (hw _ (List.mem_of_getElem? (i := 41) rfl))) Via.refl e91 F1 (g := (mkF m 19 #[.val (.ref a), .val (.ref t), .val (.long ((0 : Int64) + (own_lag o0 x0))), .second, .val (.int (1 : Int32)), .val (.int (1 : Int32))] [(.ref a)])) rfl rfl (hb hby d7_19)
    have S96 : Steps p.tables e below Ω (T95.setTop (mkF m 22 #[.val (.ref a), .val (.ref t), .val (.long ((0 : Int64) + (own_lag o0 x0))), .second, .val (.int (1 : Int32)), .val (.int (1 : Int32))] [(.ref cA)])) := S94.trans (st95 _ (Steps.refl _))
    have S97 : Steps p.tables e below Ω (T95.setTop (mkF m 24 #[.val (.ref a), .val (.ref t), .val (.long ((0 : Int64) + (own_lag o0 x0))), .second, .val (.int (1 : Int32)), .val (.int (1 : Int32))] [(.int (1 : Int32)), (.ref cA)])) := by
      refine S96.trans ?_
      refine XS.iload X95.here hx rfl (hb hby d7_22) rfl ?_
      exact Steps.refl _
    have S98 : Steps p.tables e below Ω (T95.setTop (mkF m 25 #[.val (.ref a), .val (.ref t), .val (.long ((0 : Int64) + (own_lag o0 x0))), .second, .val (.int (1 : Int32)), .val (.int (1 : Int32))] [(.long o1)])) := S97.trans (own_ldJ X95 hx hZ e95 A1 (j := (1 : Int32)) (x := o1) (by decide) rfl (g := (mkF m 24 #[.val (.ref a), .val (.ref t), .val (.long ((0 : Int64) + (own_lag o0 x0))), .second, .val (.int (1 : Int32)), .val (.int (1 : Int32))] [(.int (1 : Int32)), (.ref cA)])) rfl rfl (hb hby d7_24) _ (Steps.refl _))
    have S99 : Steps p.tables e below Ω (T95.setTop (mkF m 29 #[.val (.ref a), .val (.ref t), .val (.long ((0 : Int64) + (own_lag o0 x0))), .second, .val (.int (1 : Int32)), .val (.int (1 : Int32))] [(.int (lcmpW o1 (-1 : Int64)))])) := by
      refine S98.trans ?_
      refine X95.ldc2Long hx hown (mvT hZ (hw _ (List.mem_of_getElem? (i := 30) rfl))) (g := (mkF m 25 #[.val (.ref a), .val (.ref t), .val (.long ((0 : Int64) + (own_lag o0 x0))), .second, .val (.int (1 : Int32)), .val (.int (1 : Int32))] [(.long o1)])) rfl (hb hby d7_25) _ ?_
      show Steps p.tables e below (T95.setTop (mkF m 28 #[.val (.ref a), .val (.ref t), .val (.long ((0 : Int64) + (own_lag o0 x0))), .second, .val (.int (1 : Int32)), .val (.int (1 : Int32))] [(.long (-1 : Int64)), (.long o1)])) _
      refine XS.lcmp X95.here hx rfl (hb hby d7_28) rfl ?_
      exact Steps.refl _
    by_cases g1 : o1 = (-1 : Int64)
    · have qg1 : o1.toInt = (-1) := congrArg Int64.toInt g1
      have S100 : Steps p.tables e below Ω (T95.setTop (mkF m 8 #[.val (.ref a), .val (.ref t), .val (.long ((0 : Int64) + (own_lag o0 x0))), .second, .val (.int (1 : Int32)), .val (.int (2 : Int32))] [])) := by
        refine S99.trans ?_
        refine XS.ifYes X95.here hx rfl (pc0 := 29) (pc' := 50) rfl (hb hby d7_29) rfl (XT.ll_eq_t g1) (by decide) (by decide) ?_
        show Steps p.tables e below (T95.setTop (mkF m 50 #[.val (.ref a), .val (.ref t), .val (.long ((0 : Int64) + (own_lag o0 x0))), .second, .val (.int (1 : Int32)), .val (.int (1 : Int32))] [])) _
        refine XS.iinc X95.here hx rfl (hb hby d7_50) rfl (l' := #[.val (.ref a), .val (.ref t), .val (.long ((0 : Int64) + (own_lag o0 x0))), .second, .val (.int (1 : Int32)), .val (.int (2 : Int32))]) rfl ?_
        show Steps p.tables e below (T95.setTop (mkF m 53 #[.val (.ref a), .val (.ref t), .val (.long ((0 : Int64) + (own_lag o0 x0))), .second, .val (.int (1 : Int32)), .val (.int (2 : Int32))] [])) _
        refine XS.goto X95.here hx rfl (pc0 := 53) (pc' := 8) rfl (hb hby d7_53) (by decide) (by decide) ?_
        exact Steps.refl _
      have S101 : Steps p.tables e below Ω (T95.setTop (mkF m 11 #[.val (.ref a), .val (.ref t), .val (.long ((0 : Int64) + (own_lag o0 x0))), .second, .val (.int (1 : Int32)), .val (.int (2 : Int32))] [(.ref a), (.int (2 : Int32))])) := by
        refine S100.trans ?_
        refine XS.iload X95.here hx rfl (hb hby d7_8) rfl ?_
        show Steps p.tables e below (T95.setTop (mkF m 10 #[.val (.ref a), .val (.ref t), .val (.long ((0 : Int64) + (own_lag o0 x0))), .second, .val (.int (1 : Int32)), .val (.int (2 : Int32))] [(.int (2 : Int32))])) _
        refine XS.aloadN X95.here hx rfl (hb hby d7_10) rfl rfl ?_
        exact Steps.refl _
      obtain ⟨T102, X102, e102, st102⟩ := getF X95 hx hZ hown (host := "") (Or.inl (hw _ (List.mem_of_getElem? (i := 41) rfl))) Via.refl e95 F1 (g := (mkF m 11 #[.val (.ref a), .val (.ref t), .val (.long ((0 : Int64) + (own_lag o0 x0))), .second, .val (.int (1 : Int32)), .val (.int (2 : Int32))] [(.ref a), (.int (2 : Int32))])) rfl rfl (hb hby d7_11)
      have S103 : Steps p.tables e below Ω (T102.setTop (mkF m 14 #[.val (.ref a), .val (.ref t), .val (.long ((0 : Int64) + (own_lag o0 x0))), .second, .val (.int (1 : Int32)), .val (.int (2 : Int32))] [(.ref cA), (.int (2 : Int32))])) := S101.trans (st102 _ (Steps.refl _))
      have S104 : Steps p.tables e below Ω (T102.setTop (mkF m 15 #[.val (.ref a), .val (.ref t), .val (.long ((0 : Int64) + (own_lag o0 x0))), .second, .val (.int (1 : Int32)), .val (.int (2 : Int32))] [(.int (3 : Int32)), (.int (2 : Int32))])) := S103.trans (own_len X102 hx hZ e102 A1 (n := (3 : Int32)) rfl (g := (mkF m 14 #[.val (.ref a), .val (.ref t), .val (.long ((0 : Int64) + (own_lag o0 x0))), .second, .val (.int (1 : Int32)), .val (.int (2 : Int32))] [(.ref cA), (.int (2 : Int32))])) rfl rfl (hb hby d7_14) _ (Steps.refl _))
      have S105 : Steps p.tables e below Ω (T102.setTop (mkF m 19 #[.val (.ref a), .val (.ref t), .val (.long ((0 : Int64) + (own_lag o0 x0))), .second, .val (.int (1 : Int32)), .val (.int (2 : Int32))] [(.ref a)])) := by
        refine S104.trans ?_
        refine XS.icmpNo X102.here hx rfl (hb hby d7_15) rfl (XT.ii_ge_f (by decide)) ?_
        show Steps p.tables e below (T102.setTop (mkF m 18 #[.val (.ref a), .val (.ref t), .val (.long ((0 : Int64) + (own_lag o0 x0))), .second, .val (.int (1 : Int32)), .val (.int (2 : Int32))] [])) _
        refine XS.aloadN X102.here hx rfl (hb hby d7_18) rfl rfl ?_
        exact Steps.refl _
      obtain ⟨T106, X106, e106, st106⟩ := getF X102 hx hZ hown (host := "") (Or.inl (hw _ (List.mem_of_getElem? (i := 41) rfl))) Via.refl e102 F1 (g := (mkF m 19 #[.val (.ref a), .val (.ref t), .val (.long ((0 : Int64) + (own_lag o0 x0))), .second, .val (.int (1 : Int32)), .val (.int (2 : Int32))] [(.ref a)])) rfl rfl (hb hby d7_19)
      have S107 : Steps p.tables e below Ω (T106.setTop (mkF m 22 #[.val (.ref a), .val (.ref t), .val (.long ((0 : Int64) + (own_lag o0 x0))), .second, .val (.int (1 : Int32)), .val (.int (2 : Int32))] [(.ref cA)])) := S105.trans (st106 _ (Steps.refl _))
      have S108 : Steps p.tables e below Ω (T106.setTop (mkF m 24 #[.val (.ref a), .val (.ref t), .val (.long ((0 : Int64) + (own_lag o0 x0))), .second, .val (.int (1 : Int32)), .val (.int (2 : Int32))] [(.int (2 : Int32)), (.ref cA)])) := by
        refine S107.trans ?_
        refine XS.iload X106.here hx rfl (hb hby d7_22) rfl ?_
        exact Steps.refl _
      have S109 : Steps p.tables e below Ω (T106.setTop (mkF m 25 #[.val (.ref a), .val (.ref t), .val (.long ((0 : Int64) + (own_lag o0 x0))), .second, .val (.int (1 : Int32)), .val (.int (2 : Int32))] [(.long o2)])) := S108.trans (own_ldJ X106 hx hZ e106 A1 (j := (2 : Int32)) (x := o2) (by decide) rfl (g := (mkF m 24 #[.val (.ref a), .val (.ref t), .val (.long ((0 : Int64) + (own_lag o0 x0))), .second, .val (.int (1 : Int32)), .val (.int (2 : Int32))] [(.int (2 : Int32)), (.ref cA)])) rfl rfl (hb hby d7_24) _ (Steps.refl _))
      have S110 : Steps p.tables e below Ω (T106.setTop (mkF m 29 #[.val (.ref a), .val (.ref t), .val (.long ((0 : Int64) + (own_lag o0 x0))), .second, .val (.int (1 : Int32)), .val (.int (2 : Int32))] [(.int (lcmpW o2 (-1 : Int64)))])) := by
        refine S109.trans ?_
        refine X106.ldc2Long hx hown (mvT hZ (hw _ (List.mem_of_getElem? (i := 30) rfl))) (g := (mkF m 25 #[.val (.ref a), .val (.ref t), .val (.long ((0 : Int64) + (own_lag o0 x0))), .second, .val (.int (1 : Int32)), .val (.int (2 : Int32))] [(.long o2)])) rfl (hb hby d7_25) _ ?_
        show Steps p.tables e below (T106.setTop (mkF m 28 #[.val (.ref a), .val (.ref t), .val (.long ((0 : Int64) + (own_lag o0 x0))), .second, .val (.int (1 : Int32)), .val (.int (2 : Int32))] [(.long (-1 : Int64)), (.long o2)])) _
        refine XS.lcmp X106.here hx rfl (hb hby d7_28) rfl ?_
        exact Steps.refl _
      by_cases g2 : o2 = (-1 : Int64)
      · have qg2 : o2.toInt = (-1) := congrArg Int64.toInt g2
        have S111 : Steps p.tables e below Ω (T106.setTop (mkF m 8 #[.val (.ref a), .val (.ref t), .val (.long ((0 : Int64) + (own_lag o0 x0))), .second, .val (.int (1 : Int32)), .val (.int (3 : Int32))] [])) := by
          refine S110.trans ?_
          refine XS.ifYes X106.here hx rfl (pc0 := 29) (pc' := 50) rfl (hb hby d7_29) rfl (XT.ll_eq_t g2) (by decide) (by decide) ?_
          show Steps p.tables e below (T106.setTop (mkF m 50 #[.val (.ref a), .val (.ref t), .val (.long ((0 : Int64) + (own_lag o0 x0))), .second, .val (.int (1 : Int32)), .val (.int (2 : Int32))] [])) _
          refine XS.iinc X106.here hx rfl (hb hby d7_50) rfl (l' := #[.val (.ref a), .val (.ref t), .val (.long ((0 : Int64) + (own_lag o0 x0))), .second, .val (.int (1 : Int32)), .val (.int (3 : Int32))]) rfl ?_
          show Steps p.tables e below (T106.setTop (mkF m 53 #[.val (.ref a), .val (.ref t), .val (.long ((0 : Int64) + (own_lag o0 x0))), .second, .val (.int (1 : Int32)), .val (.int (3 : Int32))] [])) _
          refine XS.goto X106.here hx rfl (pc0 := 53) (pc' := 8) rfl (hb hby d7_53) (by decide) (by decide) ?_
          exact Steps.refl _
        have S112 : Steps p.tables e below Ω (T106.setTop (mkF m 11 #[.val (.ref a), .val (.ref t), .val (.long ((0 : Int64) + (own_lag o0 x0))), .second, .val (.int (1 : Int32)), .val (.int (3 : Int32))] [(.ref a), (.int (3 : Int32))])) := by
          refine S111.trans ?_
          refine XS.iload X106.here hx rfl (hb hby d7_8) rfl ?_
          show Steps p.tables e below (T106.setTop (mkF m 10 #[.val (.ref a), .val (.ref t), .val (.long ((0 : Int64) + (own_lag o0 x0))), .second, .val (.int (1 : Int32)), .val (.int (3 : Int32))] [(.int (3 : Int32))])) _
          refine XS.aloadN X106.here hx rfl (hb hby d7_10) rfl rfl ?_
          exact Steps.refl _
        obtain ⟨T113, X113, e113, st113⟩ := getF X106 hx hZ hown (host := "") (Or.inl (hw _ (List.mem_of_getElem? (i := 41) rfl))) Via.refl e106 F1 (g := (mkF m 11 #[.val (.ref a), .val (.ref t), .val (.long ((0 : Int64) + (own_lag o0 x0))), .second, .val (.int (1 : Int32)), .val (.int (3 : Int32))] [(.ref a), (.int (3 : Int32))])) rfl rfl (hb hby d7_11)
        have S114 : Steps p.tables e below Ω (T113.setTop (mkF m 14 #[.val (.ref a), .val (.ref t), .val (.long ((0 : Int64) + (own_lag o0 x0))), .second, .val (.int (1 : Int32)), .val (.int (3 : Int32))] [(.ref cA), (.int (3 : Int32))])) := S112.trans (st113 _ (Steps.refl _))
        have S115 : Steps p.tables e below Ω (T113.setTop (mkF m 15 #[.val (.ref a), .val (.ref t), .val (.long ((0 : Int64) + (own_lag o0 x0))), .second, .val (.int (1 : Int32)), .val (.int (3 : Int32))] [(.int (3 : Int32)), (.int (3 : Int32))])) := S114.trans (own_len X113 hx hZ e113 A1 (n := (3 : Int32)) rfl (g := (mkF m 14 #[.val (.ref a), .val (.ref t), .val (.long ((0 : Int64) + (own_lag o0 x0))), .second, .val (.int (1 : Int32)), .val (.int (3 : Int32))] [(.ref cA), (.int (3 : Int32))])) rfl rfl (hb hby d7_14) _ (Steps.refl _))
        have S116 : Steps p.tables e below Ω (T113.setTop (mkF m 68 #[.val (.ref a), .val (.ref t), .val (.long ((0 : Int64) + (own_lag o0 x0))), .second, .val (.int (1 : Int32)), .val (.int (3 : Int32))] [(.long ((0 : Int64) + (own_lag o0 x0)))])) := by
          refine S115.trans ?_
          refine XS.icmpYes X113.here hx rfl (pc0 := 15) (pc' := 56) rfl (hb hby d7_15) rfl (XT.ii_ge_t (by decide)) (by decide) (by decide) ?_
          show Steps p.tables e below (T113.setTop (mkF m 56 #[.val (.ref a), .val (.ref t), .val (.long ((0 : Int64) + (own_lag o0 x0))), .second, .val (.int (1 : Int32)), .val (.int (3 : Int32))] [])) _
          refine XS.iload X113.here hx rfl (hb hby d7_56) rfl ?_
          show Steps p.tables e below (T113.setTop (mkF m 58 #[.val (.ref a), .val (.ref t), .val (.long ((0 : Int64) + (own_lag o0 x0))), .second, .val (.int (1 : Int32)), .val (.int (3 : Int32))] [(.int (1 : Int32))])) _
          refine XS.ifNo X113.here hx rfl (hb hby d7_58) rfl (XT.i0_eq_f (by decide)) ?_
          show Steps p.tables e below (T113.setTop (mkF m 61 #[.val (.ref a), .val (.ref t), .val (.long ((0 : Int64) + (own_lag o0 x0))), .second, .val (.int (1 : Int32)), .val (.int (3 : Int32))] [])) _
          refine XS.lloadN X113.here hx rfl (hb hby d7_61) rfl ?_
          show Steps p.tables e below (T113.setTop (mkF m 62 #[.val (.ref a), .val (.ref t), .val (.long ((0 : Int64) + (own_lag o0 x0))), .second, .val (.int (1 : Int32)), .val (.int (3 : Int32))] [(.long ((0 : Int64) + (own_lag o0 x0)))])) _
          refine XS.goto X113.here hx rfl (pc0 := 62) (pc' := 68) rfl (hb hby d7_62) (by decide) (by decide) ?_
          exact Steps.refl _
        obtain ⟨fs, hr, hrun, hended, hW, hsame⟩ := X113.leave (v := some (.long ((0 : Int64) + (own_lag o0 x0)))) (fun h => by rw [Bd.returns] at h; cases h)
        have hfin : Steps p.tables e below Ω (T113.setFrames fs) := by
          refine S116.trans ?_
          exact X113.lreturnOut hx Bd.returns (hb hby d7_68) hr
        rw [hΩ] at hfin
        refine ⟨_, _, hfin, hrun, hended, _, _, rfl, ?_, ⟨_, rfl⟩, hW, hsame.mono (by decide) (by decide)⟩
        show Q7 Z a t cA d o0 o1 o2 x0 x1 x2 h0 n0 _ T113.heap _
        rw [e113]
        exact ⟨by simp only [own_tot, own_s, own_f, if_neg g0, if_pos g1, if_pos g2, if_neg (by decide : ¬ (1 : Int32) = (0 : Int32))], N87, rfl⟩
      · have qg2 : ¬ o2.toInt = (-1) := fun q => g2 (Int64.toInt_inj.mp q)
        have S117 : Steps p.tables e below Ω (T106.setTop (mkF m 39 #[.val (.ref a), .val (.ref t), .val (.long ((0 : Int64) + (own_lag o0 x0))), .second, .val (.int (1 : Int32)), .val (.int (2 : Int32))] [(.int (2 : Int32)), (.ref t), (.int (2 : Int32)), (.ref a), (.long ((0 : Int64) + (own_lag o0 x0)))])) := by
          refine S110.trans ?_
          refine XS.ifNo X106.here hx rfl (hb hby d7_29) rfl (XT.ll_eq_f g2) ?_
          show Steps p.tables e below (T106.setTop (mkF m 32 #[.val (.ref a), .val (.ref t), .val (.long ((0 : Int64) + (own_lag o0 x0))), .second, .val (.int (1 : Int32)), .val (.int (2 : Int32))] [])) _
          refine XS.lloadN X106.here hx rfl (hb hby d7_32) rfl ?_
          show Steps p.tables e below (T106.setTop (mkF m 33 #[.val (.ref a), .val (.ref t), .val (.long ((0 : Int64) + (own_lag o0 x0))), .second, .val (.int (1 : Int32)), .val (.int (2 : Int32))] [(.long ((0 : Int64) + (own_lag o0 x0)))])) _
          refine XS.aloadN X106.here hx rfl (hb hby d7_33) rfl rfl ?_
          show Steps p.tables e below (T106.setTop (mkF m 34 #[.val (.ref a), .val (.ref t), .val (.long ((0 : Int64) + (own_lag o0 x0))), .second, .val (.int (1 : Int32)), .val (.int (2 : Int32))] [(.ref a), (.long ((0 : Int64) + (own_lag o0 x0)))])) _
          refine XS.iload X106.here hx rfl (hb hby d7_34) rfl ?_
          show Steps p.tables e below (T106.setTop (mkF m 36 #[.val (.ref a), .val (.ref t), .val (.long ((0 : Int64) + (own_lag o0 x0))), .second, .val (.int (1 : Int32)), .val (.int (2 : Int32))] [(.int (2 : Int32)), (.ref a), (.long ((0 : Int64) + (own_lag o0 x0)))])) _
          refine XS.aloadN X106.here hx rfl (hb hby d7_36) rfl rfl ?_
          show Steps p.tables e below (T106.setTop (mkF m 37 #[.val (.ref a), .val (.ref t), .val (.long ((0 : Int64) + (own_lag o0 x0))), .second, .val (.int (1 : Int32)), .val (.int (2 : Int32))] [(.ref t), (.int (2 : Int32)), (.ref a), (.long ((0 : Int64) + (own_lag o0 x0)))])) _
          refine XS.iload X106.here hx rfl (hb hby d7_37) rfl ?_
          exact Steps.refl _
        obtain ⟨cq118, kq118, q118a, q118b, q118c⟩ := isOf hZ e106 Et
        obtain ⟨_, _, ⟨T118, L118, k118, n118⟩, -, X118, ⟨Lc118, hQ118, l118, y118, z118⟩, st118⟩ := X106.virtualBack hx (y := (⟨"com/example/ingest/ingest/common/TopicInfo", "endOffset", "(I)J"⟩ : MethodName)) (z := (⟨"com/example/ingest/ingest/common/TopicInfo", "endOffset", "(I)J"⟩ : MethodName)) hown (mvT hZ (hw _ (List.mem_of_getElem? (i := 61) rfl))) (mvT hZ (hw _ (List.mem_of_getElem? (i := 62) rfl))) (notFace_of_selects (args := #[]) (mvT hZ (hw _ (List.mem_of_getElem? (i := 64) rfl)))) (mvT hZ (hw _ (List.mem_of_getElem? (i := 64) rfl))) (mvT hZ (hw _ (List.mem_of_getElem? (i := 63) rfl))) (by decide) (backOf (W := 4) (rm8 l Z a0 hw [] t (2 : Int32) d [x0, x1, x2] x2 h0 n0 Z0 F2 A2 (by decide) rfl) hZ (hw _ (List.mem_of_getElem? (i := 65) rfl)) (hw _ (List.mem_of_getElem? (i := 47) rfl)) (by decide) (by decide)) q118a q118c (g := (mkF m 39 #[.val (.ref a), .val (.ref t), .val (.long ((0 : Int64) + (own_lag o0 x0))), .second, .val (.int (1 : Int32)), .val (.int (2 : Int32))] [(.int (2 : Int32)), (.ref t), (.int (2 : Int32)), (.ref a), (.long ((0 : Int64) + (own_lag o0 x0)))])) rfl (by rw [hml]; rfl) (Steps.refl _) (argsL := [(.int (2 : Int32))]) (rest := [(.int (2 : Int32)), (.ref a), (.long ((0 : Int64) + (own_lag o0 x0)))]) (lenOf pd_2 rfl) rfl (by show 2 * 0 + _ ≤ _; exact Nat.le_of_eq rfl) (hb hby d7_39) (fun _ _ => ⟨rfl, e106, (by decide : 0 + 0 ≤ _), (by decide : 0 + 0 ≤ _)⟩)
        dsimp only [Pt.U, Pt.locs, Pt.cells, Pt.slots] at X118 l118 y118 z118 st118 hQ118
        subst l118 y118 z118
        obtain ⟨rfl, N118q, e118⟩ := hQ118
        have N118 := Fr.app N87 N118q
        have S119 : Steps p.tables e below Ω (T118.setTop (mkF m 42 #[.val (.ref a), .val (.ref t), .val (.long ((0 : Int64) + (own_lag o0 x0))), .second, .val (.int (1 : Int32)), .val (.int (2 : Int32))] [(.long x2), (.int (2 : Int32)), (.ref a), (.long ((0 : Int64) + (own_lag o0 x0)))])) := S117.trans st118
        obtain ⟨cq120, kq120, q120a, q120b, q120c⟩ := isOf hZ e118 Ea
        obtain ⟨_, _, ⟨T120, L120, k120, n120⟩, -, X120, ⟨Lc120, hQ120, l120, y120, z120⟩, st120⟩ := X118.virtualBack hx (y := (⟨"com/example/ingest/ingest/common/GroupProgress", "lag", "(IJ)J"⟩ : MethodName)) (z := (⟨"com/example/ingest/ingest/common/GroupProgress", "lag", "(IJ)J"⟩ : MethodName)) hown (mvT hZ (hw _ (List.mem_of_getElem? (i := 66) rfl))) (mvT hZ (hw _ (List.mem_of_getElem? (i := 67) rfl))) (notFace_of_selects (args := #[]) (mvT hZ (hw _ (List.mem_of_getElem? (i := 69) rfl)))) (mvT hZ (hw _ (List.mem_of_getElem? (i := 69) rfl))) (mvT hZ (hw _ (List.mem_of_getElem? (i := 68) rfl))) (by decide) (backOf (W := 2) (rm9 l Z a0 hw [] a (2 : Int32) x2 cA [o0, o1, o2] o2 h0 n0 Z0 F1 A1 (by decide) rfl) hZ (hw _ (List.mem_of_getElem? (i := 70) rfl)) (hw _ (List.mem_of_getElem? (i := 7) rfl)) (by decide) (by decide)) q120a q120c (g := (mkF m 42 #[.val (.ref a), .val (.ref t), .val (.long ((0 : Int64) + (own_lag o0 x0))), .second, .val (.int (1 : Int32)), .val (.int (2 : Int32))] [(.long x2), (.int (2 : Int32)), (.ref a), (.long ((0 : Int64) + (own_lag o0 x0)))])) rfl (by rw [hml]; rfl) (Steps.refl _) (argsL := [(.int (2 : Int32)), (.long x2)]) (rest := [(.long ((0 : Int64) + (own_lag o0 x0)))]) (lenOf pd_3 rfl) rfl (by show 2 * 0 + _ ≤ _; exact Nat.le_of_eq rfl) (hb hby d7_42) (fun _ _ => ⟨rfl, e118, (by decide : 0 + 0 ≤ _), (by decide : 0 + 0 ≤ _)⟩)
        dsimp only [Pt.U, Pt.locs, Pt.cells, Pt.slots] at X120 l120 y120 z120 st120 hQ120
        subst l120 y120 z120
        obtain ⟨rfl, N120q, e120⟩ := hQ120
        have N120 := Fr.app N118 N120q
        have S121 : Steps p.tables e below Ω (T120.setTop (mkF m 45 #[.val (.ref a), .val (.ref t), .val (.long ((0 : Int64) + (own_lag o0 x0))), .second, .val (.int (1 : Int32)), .val (.int (2 : Int32))] [(.long (own_lag o2 x2)), (.long ((0 : Int64) + (own_lag o0 x0)))])) := S119.trans st120
        have S122 : Steps p.tables e below Ω (T120.setTop (mkF m 8 #[.val (.ref a), .val (.ref t), .val (.long (((0 : Int64) + (own_lag o0 x0)) + (own_lag o2 x2))), .second, .val (.int (1 : Int32)), .val (.int (3 : Int32))] [])) := by
          refine S121.trans ?_
          refine XS.ladd X120.here hx rfl (hb hby d7_45) rfl ?_
          show Steps p.tables e below (T120.setTop (mkF m 46 #[.val (.ref a), .val (.ref t), .val (.long ((0 : Int64) + (own_lag o0 x0))), .second, .val (.int (1 : Int32)), .val (.int (2 : Int32))] [(.long (((0 : Int64) + (own_lag o0 x0)) + (own_lag o2 x2)))])) _
          refine XS.lstoreN X120.here hx rfl (hb hby d7_46) rfl (l' := #[.val (.ref a), .val (.ref t), .val (.long (((0 : Int64) + (own_lag o0 x0)) + (own_lag o2 x2))), .second, .val (.int (1 : Int32)), .val (.int (2 : Int32))]) rfl ?_
          show Steps p.tables e below (T120.setTop (mkF m 47 #[.val (.ref a), .val (.ref t), .val (.long (((0 : Int64) + (own_lag o0 x0)) + (own_lag o2 x2))), .second, .val (.int (1 : Int32)), .val (.int (2 : Int32))] [])) _
          refine XS.iconst X120.here hx rfl (hb hby d7_47) ?_
          show Steps p.tables e below (T120.setTop (mkF m 48 #[.val (.ref a), .val (.ref t), .val (.long (((0 : Int64) + (own_lag o0 x0)) + (own_lag o2 x2))), .second, .val (.int (1 : Int32)), .val (.int (2 : Int32))] [(.int (1 : Int32))])) _
          refine XS.istore X120.here hx rfl (hb hby d7_48) rfl (l' := #[.val (.ref a), .val (.ref t), .val (.long (((0 : Int64) + (own_lag o0 x0)) + (own_lag o2 x2))), .second, .val (.int (1 : Int32)), .val (.int (2 : Int32))]) rfl ?_
          show Steps p.tables e below (T120.setTop (mkF m 50 #[.val (.ref a), .val (.ref t), .val (.long (((0 : Int64) + (own_lag o0 x0)) + (own_lag o2 x2))), .second, .val (.int (1 : Int32)), .val (.int (2 : Int32))] [])) _
          refine XS.iinc X120.here hx rfl (hb hby d7_50) rfl (l' := #[.val (.ref a), .val (.ref t), .val (.long (((0 : Int64) + (own_lag o0 x0)) + (own_lag o2 x2))), .second, .val (.int (1 : Int32)), .val (.int (3 : Int32))]) rfl ?_
          show Steps p.tables e below (T120.setTop (mkF m 53 #[.val (.ref a), .val (.ref t), .val (.long (((0 : Int64) + (own_lag o0 x0)) + (own_lag o2 x2))), .second, .val (.int (1 : Int32)), .val (.int (3 : Int32))] [])) _
          refine XS.goto X120.here hx rfl (pc0 := 53) (pc' := 8) rfl (hb hby d7_53) (by decide) (by decide) ?_
          exact Steps.refl _
        have S123 : Steps p.tables e below Ω (T120.setTop (mkF m 11 #[.val (.ref a), .val (.ref t), .val (.long (((0 : Int64) + (own_lag o0 x0)) + (own_lag o2 x2))), .second, .val (.int (1 : Int32)), .val (.int (3 : Int32))] [(.ref a), (.int (3 : Int32))])) := by
          refine S122.trans ?_
          refine XS.iload X120.here hx rfl (hb hby d7_8) rfl ?_
          show Steps p.tables e below (T120.setTop (mkF m 10 #[.val (.ref a), .val (.ref t), .val (.long (((0 : Int64) + (own_lag o0 x0)) + (own_lag o2 x2))), .second, .val (.int (1 : Int32)), .val (.int (3 : Int32))] [(.int (3 : Int32))])) _
          refine XS.aloadN X120.here hx rfl (hb hby d7_10) rfl rfl ?_
          exact Steps.refl _
        obtain ⟨T124, X124, e124, st124⟩ := getF X120 hx hZ hown (host := "") (Or.inl (hw _ (List.mem_of_getElem? (i := 41) rfl))) Via.refl e120 F1 (g := (mkF m 11 #[.val (.ref a), .val (.ref t), .val (.long (((0 : Int64) + (own_lag o0 x0)) + (own_lag o2 x2))), .second, .val (.int (1 : Int32)), .val (.int (3 : Int32))] [(.ref a), (.int (3 : Int32))])) rfl rfl (hb hby d7_11)
        have S125 : Steps p.tables e below Ω (T124.setTop (mkF m 14 #[.val (.ref a), .val (.ref t), .val (.long (((0 : Int64) + (own_lag o0 x0)) + (own_lag o2 x2))), .second, .val (.int (1 : Int32)), .val (.int (3 : Int32))] [(.ref cA), (.int (3 : Int32))])) := S123.trans (st124 _ (Steps.refl _))
        have S126 : Steps p.tables e below Ω (T124.setTop (mkF m 15 #[.val (.ref a), .val (.ref t), .val (.long (((0 : Int64) + (own_lag o0 x0)) + (own_lag o2 x2))), .second, .val (.int (1 : Int32)), .val (.int (3 : Int32))] [(.int (3 : Int32)), (.int (3 : Int32))])) := S125.trans (own_len X124 hx hZ e124 A1 (n := (3 : Int32)) rfl (g := (mkF m 14 #[.val (.ref a), .val (.ref t), .val (.long (((0 : Int64) + (own_lag o0 x0)) + (own_lag o2 x2))), .second, .val (.int (1 : Int32)), .val (.int (3 : Int32))] [(.ref cA), (.int (3 : Int32))])) rfl rfl (hb hby d7_14) _ (Steps.refl _))
        have S127 : Steps p.tables e below Ω (T124.setTop (mkF m 68 #[.val (.ref a), .val (.ref t), .val (.long (((0 : Int64) + (own_lag o0 x0)) + (own_lag o2 x2))), .second, .val (.int (1 : Int32)), .val (.int (3 : Int32))] [(.long (((0 : Int64) + (own_lag o0 x0)) + (own_lag o2 x2)))])) := by
          refine S126.trans ?_
          refine XS.icmpYes X124.here hx rfl (pc0 := 15) (pc' := 56) rfl (hb hby d7_15) rfl (XT.ii_ge_t (by decide)) (by decide) (by decide) ?_
          show Steps p.tables e below (T124.setTop (mkF m 56 #[.val (.ref a), .val (.ref t), .val (.long (((0 : Int64) + (own_lag o0 x0)) + (own_lag o2 x2))), .second, .val (.int (1 : Int32)), .val (.int (3 : Int32))] [])) _
          refine XS.iload X124.here hx rfl (hb hby d7_56) rfl ?_
          show Steps p.tables e below (T124.setTop (mkF m 58 #[.val (.ref a), .val (.ref t), .val (.long (((0 : Int64) + (own_lag o0 x0)) + (own_lag o2 x2))), .second, .val (.int (1 : Int32)), .val (.int (3 : Int32))] [(.int (1 : Int32))])) _
          refine XS.ifNo X124.here hx rfl (hb hby d7_58) rfl (XT.i0_eq_f (by decide)) ?_
          show Steps p.tables e below (T124.setTop (mkF m 61 #[.val (.ref a), .val (.ref t), .val (.long (((0 : Int64) + (own_lag o0 x0)) + (own_lag o2 x2))), .second, .val (.int (1 : Int32)), .val (.int (3 : Int32))] [])) _
          refine XS.lloadN X124.here hx rfl (hb hby d7_61) rfl ?_
          show Steps p.tables e below (T124.setTop (mkF m 62 #[.val (.ref a), .val (.ref t), .val (.long (((0 : Int64) + (own_lag o0 x0)) + (own_lag o2 x2))), .second, .val (.int (1 : Int32)), .val (.int (3 : Int32))] [(.long (((0 : Int64) + (own_lag o0 x0)) + (own_lag o2 x2)))])) _
          refine XS.goto X124.here hx rfl (pc0 := 62) (pc' := 68) rfl (hb hby d7_62) (by decide) (by decide) ?_
          exact Steps.refl _
        obtain ⟨fs, hr, hrun, hended, hW, hsame⟩ := X124.leave (v := some (.long (((0 : Int64) + (own_lag o0 x0)) + (own_lag o2 x2)))) (fun h => by rw [Bd.returns] at h; cases h)
        have hfin : Steps p.tables e below Ω (T124.setFrames fs) := by
          refine S127.trans ?_
          exact X124.lreturnOut hx Bd.returns (hb hby d7_68) hr
        rw [hΩ] at hfin
        refine ⟨_, _, hfin, hrun, hended, _, _, rfl, ?_, ⟨_, rfl⟩, hW, hsame.mono (by decide) (by decide)⟩
        show Q7 Z a t cA d o0 o1 o2 x0 x1 x2 h0 n0 _ T124.heap _
        rw [e124]
        exact ⟨by simp only [own_tot, own_s, own_f, if_neg g0, if_pos g1, if_neg g2, if_neg (by decide : ¬ (1 : Int32) = (0 : Int32))], N120, rfl⟩
    · have qg1 : ¬ o1.toInt = (-1) := fun q => g1 (Int64.toInt_inj.mp q)
      have S128 : Steps p.tables e below Ω (T95.setTop (mkF m 39 #[.val (.ref a), .val (.ref t), .val (.long ((0 : Int64) + (own_lag o0 x0))), .second, .val (.int (1 : Int32)), .val (.int (1 : Int32))] [(.int (1 : Int32)), (.ref t), (.int (1 : Int32)), (.ref a), (.long ((0 : Int64) + (own_lag o0 x0)))])) := by
        refine S99.trans ?_
        refine XS.ifNo X95.here hx rfl (hb hby d7_29) rfl (XT.ll_eq_f g1) ?_
        show Steps p.tables e below (T95.setTop (mkF m 32 #[.val (.ref a), .val (.ref t), .val (.long ((0 : Int64) + (own_lag o0 x0))), .second, .val (.int (1 : Int32)), .val (.int (1 : Int32))] [])) _
        refine XS.lloadN X95.here hx rfl (hb hby d7_32) rfl ?_
        show Steps p.tables e below (T95.setTop (mkF m 33 #[.val (.ref a), .val (.ref t), .val (.long ((0 : Int64) + (own_lag o0 x0))), .second, .val (.int (1 : Int32)), .val (.int (1 : Int32))] [(.long ((0 : Int64) + (own_lag o0 x0)))])) _
        refine XS.aloadN X95.here hx rfl (hb hby d7_33) rfl rfl ?_
        show Steps p.tables e below (T95.setTop (mkF m 34 #[.val (.ref a), .val (.ref t), .val (.long ((0 : Int64) + (own_lag o0 x0))), .second, .val (.int (1 : Int32)), .val (.int (1 : Int32))] [(.ref a), (.long ((0 : Int64) + (own_lag o0 x0)))])) _
        refine XS.iload X95.here hx rfl (hb hby d7_34) rfl ?_
        show Steps p.tables e below (T95.setTop (mkF m 36 #[.val (.ref a), .val (.ref t), .val (.long ((0 : Int64) + (own_lag o0 x0))), .second, .val (.int (1 : Int32)), .val (.int (1 : Int32))] [(.int (1 : Int32)), (.ref a), (.long ((0 : Int64) + (own_lag o0 x0)))])) _
        refine XS.aloadN X95.here hx rfl (hb hby d7_36) rfl rfl ?_
        show Steps p.tables e below (T95.setTop (mkF m 37 #[.val (.ref a), .val (.ref t), .val (.long ((0 : Int64) + (own_lag o0 x0))), .second, .val (.int (1 : Int32)), .val (.int (1 : Int32))] [(.ref t), (.int (1 : Int32)), (.ref a), (.long ((0 : Int64) + (own_lag o0 x0)))])) _
        refine XS.iload X95.here hx rfl (hb hby d7_37) rfl ?_
        exact Steps.refl _
      obtain ⟨cq129, kq129, q129a, q129b, q129c⟩ := isOf hZ e95 Et
      obtain ⟨_, _, ⟨T129, L129, k129, n129⟩, -, X129, ⟨Lc129, hQ129, l129, y129, z129⟩, st129⟩ := X95.virtualBack hx (y := (⟨"com/example/ingest/ingest/common/TopicInfo", "endOffset", "(I)J"⟩ : MethodName)) (z := (⟨"com/example/ingest/ingest/common/TopicInfo", "endOffset", "(I)J"⟩ : MethodName)) hown (mvT hZ (hw _ (List.mem_of_getElem? (i := 61) rfl))) (mvT hZ (hw _ (List.mem_of_getElem? (i := 62) rfl))) (notFace_of_selects (args := #[]) (mvT hZ (hw _ (List.mem_of_getElem? (i := 64) rfl)))) (mvT hZ (hw _ (List.mem_of_getElem? (i := 64) rfl))) (mvT hZ (hw _ (List.mem_of_getElem? (i := 63) rfl))) (by decide) (backOf (W := 4) (rm8 l Z a0 hw [] t (1 : Int32) d [x0, x1, x2] x1 h0 n0 Z0 F2 A2 (by decide) rfl) hZ (hw _ (List.mem_of_getElem? (i := 65) rfl)) (hw _ (List.mem_of_getElem? (i := 47) rfl)) (by decide) (by decide)) q129a q129c (g := (mkF m 39 #[.val (.ref a), .val (.ref t), .val (.long ((0 : Int64) + (own_lag o0 x0))), .second, .val (.int (1 : Int32)), .val (.int (1 : Int32))] [(.int (1 : Int32)), (.ref t), (.int (1 : Int32)), (.ref a), (.long ((0 : Int64) + (own_lag o0 x0)))])) rfl (by rw [hml]; rfl) (Steps.refl _) (argsL := [(.int (1 : Int32))]) (rest := [(.int (1 : Int32)), (.ref a), (.long ((0 : Int64) + (own_lag o0 x0)))]) (lenOf pd_2 rfl) rfl (by show 2 * 0 + _ ≤ _; exact Nat.le_of_eq rfl) (hb hby d7_39) (fun _ _ => ⟨rfl, e95, (by decide : 0 + 0 ≤ _), (by decide : 0 + 0 ≤ _)⟩)
      dsimp only [Pt.U, Pt.locs, Pt.cells, Pt.slots] at X129 l129 y129 z129 st129 hQ129
      subst l129 y129 z129
      obtain ⟨rfl, N129q, e129⟩ := hQ129
      have N129 := Fr.app N87 N129q
      have S130 : Steps p.tables e below Ω (T129.setTop (mkF m 42 #[.val (.ref a), .val (.ref t), .val (.long ((0 : Int64) + (own_lag o0 x0))), .second, .val (.int (1 : Int32)), .val (.int (1 : Int32))] [(.long x1), (.int (1 : Int32)), (.ref a), (.long ((0 : Int64) + (own_lag o0 x0)))])) := S128.trans st129
      obtain ⟨cq131, kq131, q131a, q131b, q131c⟩ := isOf hZ e129 Ea
      obtain ⟨_, _, ⟨T131, L131, k131, n131⟩, -, X131, ⟨Lc131, hQ131, l131, y131, z131⟩, st131⟩ := X129.virtualBack hx (y := (⟨"com/example/ingest/ingest/common/GroupProgress", "lag", "(IJ)J"⟩ : MethodName)) (z := (⟨"com/example/ingest/ingest/common/GroupProgress", "lag", "(IJ)J"⟩ : MethodName)) hown (mvT hZ (hw _ (List.mem_of_getElem? (i := 66) rfl))) (mvT hZ (hw _ (List.mem_of_getElem? (i := 67) rfl))) (notFace_of_selects (args := #[]) (mvT hZ (hw _ (List.mem_of_getElem? (i := 69) rfl)))) (mvT hZ (hw _ (List.mem_of_getElem? (i := 69) rfl))) (mvT hZ (hw _ (List.mem_of_getElem? (i := 68) rfl))) (by decide) (backOf (W := 2) (rm9 l Z a0 hw [] a (1 : Int32) x1 cA [o0, o1, o2] o1 h0 n0 Z0 F1 A1 (by decide) rfl) hZ (hw _ (List.mem_of_getElem? (i := 70) rfl)) (hw _ (List.mem_of_getElem? (i := 7) rfl)) (by decide) (by decide)) q131a q131c (g := (mkF m 42 #[.val (.ref a), .val (.ref t), .val (.long ((0 : Int64) + (own_lag o0 x0))), .second, .val (.int (1 : Int32)), .val (.int (1 : Int32))] [(.long x1), (.int (1 : Int32)), (.ref a), (.long ((0 : Int64) + (own_lag o0 x0)))])) rfl (by rw [hml]; rfl) (Steps.refl _) (argsL := [(.int (1 : Int32)), (.long x1)]) (rest := [(.long ((0 : Int64) + (own_lag o0 x0)))]) (lenOf pd_3 rfl) rfl (by show 2 * 0 + _ ≤ _; exact Nat.le_of_eq rfl) (hb hby d7_42) (fun _ _ => ⟨rfl, e129, (by decide : 0 + 0 ≤ _), (by decide : 0 + 0 ≤ _)⟩)
      dsimp only [Pt.U, Pt.locs, Pt.cells, Pt.slots] at X131 l131 y131 z131 st131 hQ131
      subst l131 y131 z131
      obtain ⟨rfl, N131q, e131⟩ := hQ131
      have N131 := Fr.app N129 N131q
      have S132 : Steps p.tables e below Ω (T131.setTop (mkF m 45 #[.val (.ref a), .val (.ref t), .val (.long ((0 : Int64) + (own_lag o0 x0))), .second, .val (.int (1 : Int32)), .val (.int (1 : Int32))] [(.long (own_lag o1 x1)), (.long ((0 : Int64) + (own_lag o0 x0)))])) := S130.trans st131
      have S133 : Steps p.tables e below Ω (T131.setTop (mkF m 8 #[.val (.ref a), .val (.ref t), .val (.long (((0 : Int64) + (own_lag o0 x0)) + (own_lag o1 x1))), .second, .val (.int (1 : Int32)), .val (.int (2 : Int32))] [])) := by
        refine S132.trans ?_
        refine XS.ladd X131.here hx rfl (hb hby d7_45) rfl ?_
        show Steps p.tables e below (T131.setTop (mkF m 46 #[.val (.ref a), .val (.ref t), .val (.long ((0 : Int64) + (own_lag o0 x0))), .second, .val (.int (1 : Int32)), .val (.int (1 : Int32))] [(.long (((0 : Int64) + (own_lag o0 x0)) + (own_lag o1 x1)))])) _
        refine XS.lstoreN X131.here hx rfl (hb hby d7_46) rfl (l' := #[.val (.ref a), .val (.ref t), .val (.long (((0 : Int64) + (own_lag o0 x0)) + (own_lag o1 x1))), .second, .val (.int (1 : Int32)), .val (.int (1 : Int32))]) rfl ?_
        show Steps p.tables e below (T131.setTop (mkF m 47 #[.val (.ref a), .val (.ref t), .val (.long (((0 : Int64) + (own_lag o0 x0)) + (own_lag o1 x1))), .second, .val (.int (1 : Int32)), .val (.int (1 : Int32))] [])) _
        refine XS.iconst X131.here hx rfl (hb hby d7_47) ?_
        show Steps p.tables e below (T131.setTop (mkF m 48 #[.val (.ref a), .val (.ref t), .val (.long (((0 : Int64) + (own_lag o0 x0)) + (own_lag o1 x1))), .second, .val (.int (1 : Int32)), .val (.int (1 : Int32))] [(.int (1 : Int32))])) _
        refine XS.istore X131.here hx rfl (hb hby d7_48) rfl (l' := #[.val (.ref a), .val (.ref t), .val (.long (((0 : Int64) + (own_lag o0 x0)) + (own_lag o1 x1))), .second, .val (.int (1 : Int32)), .val (.int (1 : Int32))]) rfl ?_
        show Steps p.tables e below (T131.setTop (mkF m 50 #[.val (.ref a), .val (.ref t), .val (.long (((0 : Int64) + (own_lag o0 x0)) + (own_lag o1 x1))), .second, .val (.int (1 : Int32)), .val (.int (1 : Int32))] [])) _
        refine XS.iinc X131.here hx rfl (hb hby d7_50) rfl (l' := #[.val (.ref a), .val (.ref t), .val (.long (((0 : Int64) + (own_lag o0 x0)) + (own_lag o1 x1))), .second, .val (.int (1 : Int32)), .val (.int (2 : Int32))]) rfl ?_
        show Steps p.tables e below (T131.setTop (mkF m 53 #[.val (.ref a), .val (.ref t), .val (.long (((0 : Int64) + (own_lag o0 x0)) + (own_lag o1 x1))), .second, .val (.int (1 : Int32)), .val (.int (2 : Int32))] [])) _
        refine XS.goto X131.here hx rfl (pc0 := 53) (pc' := 8) rfl (hb hby d7_53) (by decide) (by decide) ?_
        exact Steps.refl _
      have S134 : Steps p.tables e below Ω (T131.setTop (mkF m 11 #[.val (.ref a), .val (.ref t), .val (.long (((0 : Int64) + (own_lag o0 x0)) + (own_lag o1 x1))), .second, .val (.int (1 : Int32)), .val (.int (2 : Int32))] [(.ref a), (.int (2 : Int32))])) := by
        refine S133.trans ?_
        refine XS.iload X131.here hx rfl (hb hby d7_8) rfl ?_
        show Steps p.tables e below (T131.setTop (mkF m 10 #[.val (.ref a), .val (.ref t), .val (.long (((0 : Int64) + (own_lag o0 x0)) + (own_lag o1 x1))), .second, .val (.int (1 : Int32)), .val (.int (2 : Int32))] [(.int (2 : Int32))])) _
        refine XS.aloadN X131.here hx rfl (hb hby d7_10) rfl rfl ?_
        exact Steps.refl _
      obtain ⟨T135, X135, e135, st135⟩ := getF X131 hx hZ hown (host := "") (Or.inl (hw _ (List.mem_of_getElem? (i := 41) rfl))) Via.refl e131 F1 (g := (mkF m 11 #[.val (.ref a), .val (.ref t), .val (.long (((0 : Int64) + (own_lag o0 x0)) + (own_lag o1 x1))), .second, .val (.int (1 : Int32)), .val (.int (2 : Int32))] [(.ref a), (.int (2 : Int32))])) rfl rfl (hb hby d7_11)
      have S136 : Steps p.tables e below Ω (T135.setTop (mkF m 14 #[.val (.ref a), .val (.ref t), .val (.long (((0 : Int64) + (own_lag o0 x0)) + (own_lag o1 x1))), .second, .val (.int (1 : Int32)), .val (.int (2 : Int32))] [(.ref cA), (.int (2 : Int32))])) := S134.trans (st135 _ (Steps.refl _))
      have S137 : Steps p.tables e below Ω (T135.setTop (mkF m 15 #[.val (.ref a), .val (.ref t), .val (.long (((0 : Int64) + (own_lag o0 x0)) + (own_lag o1 x1))), .second, .val (.int (1 : Int32)), .val (.int (2 : Int32))] [(.int (3 : Int32)), (.int (2 : Int32))])) := S136.trans (own_len X135 hx hZ e135 A1 (n := (3 : Int32)) rfl (g := (mkF m 14 #[.val (.ref a), .val (.ref t), .val (.long (((0 : Int64) + (own_lag o0 x0)) + (own_lag o1 x1))), .second, .val (.int (1 : Int32)), .val (.int (2 : Int32))] [(.ref cA), (.int (2 : Int32))])) rfl rfl (hb hby d7_14) _ (Steps.refl _))
      have S138 : Steps p.tables e below Ω (T135.setTop (mkF m 19 #[.val (.ref a), .val (.ref t), .val (.long (((0 : Int64) + (own_lag o0 x0)) + (own_lag o1 x1))), .second, .val (.int (1 : Int32)), .val (.int (2 : Int32))] [(.ref a)])) := by
        refine S137.trans ?_
        refine XS.icmpNo X135.here hx rfl (hb hby d7_15) rfl (XT.ii_ge_f (by decide)) ?_
        show Steps p.tables e below (T135.setTop (mkF m 18 #[.val (.ref a), .val (.ref t), .val (.long (((0 : Int64) + (own_lag o0 x0)) + (own_lag o1 x1))), .second, .val (.int (1 : Int32)), .val (.int (2 : Int32))] [])) _
        refine XS.aloadN X135.here hx rfl (hb hby d7_18) rfl rfl ?_
        exact Steps.refl _
      obtain ⟨T139, X139, e139, st139⟩ := getF X135 hx hZ hown (host := "") (Or.inl (hw _ (List.mem_of_getElem? (i := 41) rfl))) Via.refl e135 F1 (g := (mkF m 19 #[.val (.ref a), .val (.ref t), .val (.long (((0 : Int64) + (own_lag o0 x0)) + (own_lag o1 x1))), .second, .val (.int (1 : Int32)), .val (.int (2 : Int32))] [(.ref a)])) rfl rfl (hb hby d7_19)
      have S140 : Steps p.tables e below Ω (T139.setTop (mkF m 22 #[.val (.ref a), .val (.ref t), .val (.long (((0 : Int64) + (own_lag o0 x0)) + (own_lag o1 x1))), .second, .val (.int (1 : Int32)), .val (.int (2 : Int32))] [(.ref cA)])) := S138.trans (st139 _ (Steps.refl _))
      have S141 : Steps p.tables e below Ω (T139.setTop (mkF m 24 #[.val (.ref a), .val (.ref t), .val (.long (((0 : Int64) + (own_lag o0 x0)) + (own_lag o1 x1))), .second, .val (.int (1 : Int32)), .val (.int (2 : Int32))] [(.int (2 : Int32)), (.ref cA)])) := by
        refine S140.trans ?_
        refine XS.iload X139.here hx rfl (hb hby d7_22) rfl ?_
        exact Steps.refl _
      have S142 : Steps p.tables e below Ω (T139.setTop (mkF m 25 #[.val (.ref a), .val (.ref t), .val (.long (((0 : Int64) + (own_lag o0 x0)) + (own_lag o1 x1))), .second, .val (.int (1 : Int32)), .val (.int (2 : Int32))] [(.long o2)])) := S141.trans (own_ldJ X139 hx hZ e139 A1 (j := (2 : Int32)) (x := o2) (by decide) rfl (g := (mkF m 24 #[.val (.ref a), .val (.ref t), .val (.long (((0 : Int64) + (own_lag o0 x0)) + (own_lag o1 x1))), .second, .val (.int (1 : Int32)), .val (.int (2 : Int32))] [(.int (2 : Int32)), (.ref cA)])) rfl rfl (hb hby d7_24) _ (Steps.refl _))
      have S143 : Steps p.tables e below Ω (T139.setTop (mkF m 29 #[.val (.ref a), .val (.ref t), .val (.long (((0 : Int64) + (own_lag o0 x0)) + (own_lag o1 x1))), .second, .val (.int (1 : Int32)), .val (.int (2 : Int32))] [(.int (lcmpW o2 (-1 : Int64)))])) := by
        refine S142.trans ?_
        refine X139.ldc2Long hx hown (mvT hZ (hw _ (List.mem_of_getElem? (i := 30) rfl))) (g := (mkF m 25 #[.val (.ref a), .val (.ref t), .val (.long (((0 : Int64) + (own_lag o0 x0)) + (own_lag o1 x1))), .second, .val (.int (1 : Int32)), .val (.int (2 : Int32))] [(.long o2)])) rfl (hb hby d7_25) _ ?_
        show Steps p.tables e below (T139.setTop (mkF m 28 #[.val (.ref a), .val (.ref t), .val (.long (((0 : Int64) + (own_lag o0 x0)) + (own_lag o1 x1))), .second, .val (.int (1 : Int32)), .val (.int (2 : Int32))] [(.long (-1 : Int64)), (.long o2)])) _
        refine XS.lcmp X139.here hx rfl (hb hby d7_28) rfl ?_
        exact Steps.refl _
      by_cases g2 : o2 = (-1 : Int64)
      · have qg2 : o2.toInt = (-1) := congrArg Int64.toInt g2
        have S144 : Steps p.tables e below Ω (T139.setTop (mkF m 8 #[.val (.ref a), .val (.ref t), .val (.long (((0 : Int64) + (own_lag o0 x0)) + (own_lag o1 x1))), .second, .val (.int (1 : Int32)), .val (.int (3 : Int32))] [])) := by
          refine S143.trans ?_
          refine XS.ifYes X139.here hx rfl (pc0 := 29) (pc' := 50) rfl (hb hby d7_29) rfl (XT.ll_eq_t g2) (by decide) (by decide) ?_
          show Steps p.tables e below (T139.setTop (mkF m 50 #[.val (.ref a), .val (.ref t), .val (.long (((0 : Int64) + (own_lag o0 x0)) + (own_lag o1 x1))), .second, .val (.int (1 : Int32)), .val (.int (2 : Int32))] [])) _
          refine XS.iinc X139.here hx rfl (hb hby d7_50) rfl (l' := #[.val (.ref a), .val (.ref t), .val (.long (((0 : Int64) + (own_lag o0 x0)) + (own_lag o1 x1))), .second, .val (.int (1 : Int32)), .val (.int (3 : Int32))]) rfl ?_
          show Steps p.tables e below (T139.setTop (mkF m 53 #[.val (.ref a), .val (.ref t), .val (.long (((0 : Int64) + (own_lag o0 x0)) + (own_lag o1 x1))), .second, .val (.int (1 : Int32)), .val (.int (3 : Int32))] [])) _
          refine XS.goto X139.here hx rfl (pc0 := 53) (pc' := 8) rfl (hb hby d7_53) (by decide) (by decide) ?_
          exact Steps.refl _
        have S145 : Steps p.tables e below Ω (T139.setTop (mkF m 11 #[.val (.ref a), .val (.ref t), .val (.long (((0 : Int64) + (own_lag o0 x0)) + (own_lag o1 x1))), .second, .val (.int (1 : Int32)), .val (.int (3 : Int32))] [(.ref a), (.int (3 : Int32))])) := by
          refine S144.trans ?_
          refine XS.iload X139.here hx rfl (hb hby d7_8) rfl ?_
          show Steps p.tables e below (T139.setTop (mkF m 10 #[.val (.ref a), .val (.ref t), .val (.long (((0 : Int64) + (own_lag o0 x0)) + (own_lag o1 x1))), .second, .val (.int (1 : Int32)), .val (.int (3 : Int32))] [(.int (3 : Int32))])) _
          refine XS.aloadN X139.here hx rfl (hb hby d7_10) rfl rfl ?_
          exact Steps.refl _
        obtain ⟨T146, X146, e146, st146⟩ := getF X139 hx hZ hown (host := "") (Or.inl (hw _ (List.mem_of_getElem? (i := 41) rfl))) Via.refl e139 F1 (g := (mkF m 11 #[.val (.ref a), .val (.ref t), .val (.long (((0 : Int64) + (own_lag o0 x0)) + (own_lag o1 x1))), .second, .val (.int (1 : Int32)), .val (.int (3 : Int32))] [(.ref a), (.int (3 : Int32))])) rfl rfl (hb hby d7_11)
        have S147 : Steps p.tables e below Ω (T146.setTop (mkF m 14 #[.val (.ref a), .val (.ref t), .val (.long (((0 : Int64) + (own_lag o0 x0)) + (own_lag o1 x1))), .second, .val (.int (1 : Int32)), .val (.int (3 : Int32))] [(.ref cA), (.int (3 : Int32))])) := S145.trans (st146 _ (Steps.refl _))
        have S148 : Steps p.tables e below Ω (T146.setTop (mkF m 15 #[.val (.ref a), .val (.ref t), .val (.long (((0 : Int64) + (own_lag o0 x0)) + (own_lag o1 x1))), .second, .val (.int (1 : Int32)), .val (.int (3 : Int32))] [(.int (3 : Int32)), (.int (3 : Int32))])) := S147.trans (own_len X146 hx hZ e146 A1 (n := (3 : Int32)) rfl (g := (mkF m 14 #[.val (.ref a), .val (.ref t), .val (.long (((0 : Int64) + (own_lag o0 x0)) + (own_lag o1 x1))), .second, .val (.int (1 : Int32)), .val (.int (3 : Int32))] [(.ref cA), (.int (3 : Int32))])) rfl rfl (hb hby d7_14) _ (Steps.refl _))
        have S149 : Steps p.tables e below Ω (T146.setTop (mkF m 68 #[.val (.ref a), .val (.ref t), .val (.long (((0 : Int64) + (own_lag o0 x0)) + (own_lag o1 x1))), .second, .val (.int (1 : Int32)), .val (.int (3 : Int32))] [(.long (((0 : Int64) + (own_lag o0 x0)) + (own_lag o1 x1)))])) := by
          refine S148.trans ?_
          refine XS.icmpYes X146.here hx rfl (pc0 := 15) (pc' := 56) rfl (hb hby d7_15) rfl (XT.ii_ge_t (by decide)) (by decide) (by decide) ?_
          show Steps p.tables e below (T146.setTop (mkF m 56 #[.val (.ref a), .val (.ref t), .val (.long (((0 : Int64) + (own_lag o0 x0)) + (own_lag o1 x1))), .second, .val (.int (1 : Int32)), .val (.int (3 : Int32))] [])) _
          refine XS.iload X146.here hx rfl (hb hby d7_56) rfl ?_
          show Steps p.tables e below (T146.setTop (mkF m 58 #[.val (.ref a), .val (.ref t), .val (.long (((0 : Int64) + (own_lag o0 x0)) + (own_lag o1 x1))), .second, .val (.int (1 : Int32)), .val (.int (3 : Int32))] [(.int (1 : Int32))])) _
          refine XS.ifNo X146.here hx rfl (hb hby d7_58) rfl (XT.i0_eq_f (by decide)) ?_
          show Steps p.tables e below (T146.setTop (mkF m 61 #[.val (.ref a), .val (.ref t), .val (.long (((0 : Int64) + (own_lag o0 x0)) + (own_lag o1 x1))), .second, .val (.int (1 : Int32)), .val (.int (3 : Int32))] [])) _
          refine XS.lloadN X146.here hx rfl (hb hby d7_61) rfl ?_
          show Steps p.tables e below (T146.setTop (mkF m 62 #[.val (.ref a), .val (.ref t), .val (.long (((0 : Int64) + (own_lag o0 x0)) + (own_lag o1 x1))), .second, .val (.int (1 : Int32)), .val (.int (3 : Int32))] [(.long (((0 : Int64) + (own_lag o0 x0)) + (own_lag o1 x1)))])) _
          refine XS.goto X146.here hx rfl (pc0 := 62) (pc' := 68) rfl (hb hby d7_62) (by decide) (by decide) ?_
          exact Steps.refl _
        obtain ⟨fs, hr, hrun, hended, hW, hsame⟩ := X146.leave (v := some (.long (((0 : Int64) + (own_lag o0 x0)) + (own_lag o1 x1)))) (fun h => by rw [Bd.returns] at h; cases h)
        have hfin : Steps p.tables e below Ω (T146.setFrames fs) := by
          refine S149.trans ?_
          exact X146.lreturnOut hx Bd.returns (hb hby d7_68) hr
        rw [hΩ] at hfin
        refine ⟨_, _, hfin, hrun, hended, _, _, rfl, ?_, ⟨_, rfl⟩, hW, hsame.mono (by decide) (by decide)⟩
        show Q7 Z a t cA d o0 o1 o2 x0 x1 x2 h0 n0 _ T146.heap _
        rw [e146]
        exact ⟨by simp only [own_tot, own_s, own_f, if_neg g0, if_neg g1, if_pos g2, if_neg (by decide : ¬ (1 : Int32) = (0 : Int32))], N131, rfl⟩
      · have qg2 : ¬ o2.toInt = (-1) := fun q => g2 (Int64.toInt_inj.mp q)
        have S150 : Steps p.tables e below Ω (T139.setTop (mkF m 39 #[.val (.ref a), .val (.ref t), .val (.long (((0 : Int64) + (own_lag o0 x0)) + (own_lag o1 x1))), .second, .val (.int (1 : Int32)), .val (.int (2 : Int32))] [(.int (2 : Int32)), (.ref t), (.int (2 : Int32)), (.ref a), (.long (((0 : Int64) + (own_lag o0 x0)) + (own_lag o1 x1)))])) := by
          refine S143.trans ?_
          refine XS.ifNo X139.here hx rfl (hb hby d7_29) rfl (XT.ll_eq_f g2) ?_
          show Steps p.tables e below (T139.setTop (mkF m 32 #[.val (.ref a), .val (.ref t), .val (.long (((0 : Int64) + (own_lag o0 x0)) + (own_lag o1 x1))), .second, .val (.int (1 : Int32)), .val (.int (2 : Int32))] [])) _
          refine XS.lloadN X139.here hx rfl (hb hby d7_32) rfl ?_
          show Steps p.tables e below (T139.setTop (mkF m 33 #[.val (.ref a), .val (.ref t), .val (.long (((0 : Int64) + (own_lag o0 x0)) + (own_lag o1 x1))), .second, .val (.int (1 : Int32)), .val (.int (2 : Int32))] [(.long (((0 : Int64) + (own_lag o0 x0)) + (own_lag o1 x1)))])) _
          refine XS.aloadN X139.here hx rfl (hb hby d7_33) rfl rfl ?_
          show Steps p.tables e below (T139.setTop (mkF m 34 #[.val (.ref a), .val (.ref t), .val (.long (((0 : Int64) + (own_lag o0 x0)) + (own_lag o1 x1))), .second, .val (.int (1 : Int32)), .val (.int (2 : Int32))] [(.ref a), (.long (((0 : Int64) + (own_lag o0 x0)) + (own_lag o1 x1)))])) _
          refine XS.iload X139.here hx rfl (hb hby d7_34) rfl ?_
          show Steps p.tables e below (T139.setTop (mkF m 36 #[.val (.ref a), .val (.ref t), .val (.long (((0 : Int64) + (own_lag o0 x0)) + (own_lag o1 x1))), .second, .val (.int (1 : Int32)), .val (.int (2 : Int32))] [(.int (2 : Int32)), (.ref a), (.long (((0 : Int64) + (own_lag o0 x0)) + (own_lag o1 x1)))])) _
          refine XS.aloadN X139.here hx rfl (hb hby d7_36) rfl rfl ?_
          show Steps p.tables e below (T139.setTop (mkF m 37 #[.val (.ref a), .val (.ref t), .val (.long (((0 : Int64) + (own_lag o0 x0)) + (own_lag o1 x1))), .second, .val (.int (1 : Int32)), .val (.int (2 : Int32))] [(.ref t), (.int (2 : Int32)), (.ref a), (.long (((0 : Int64) + (own_lag o0 x0)) + (own_lag o1 x1)))])) _
          refine XS.iload X139.here hx rfl (hb hby d7_37) rfl ?_
          exact Steps.refl _
        obtain ⟨cq151, kq151, q151a, q151b, q151c⟩ := isOf hZ e139 Et
        obtain ⟨_, _, ⟨T151, L151, k151, n151⟩, -, X151, ⟨Lc151, hQ151, l151, y151, z151⟩, st151⟩ := X139.virtualBack hx (y := (⟨"com/example/ingest/ingest/common/TopicInfo", "endOffset", "(I)J"⟩ : MethodName)) (z := (⟨"com/example/ingest/ingest/common/TopicInfo", "endOffset", "(I)J"⟩ : MethodName)) hown (mvT hZ (hw _ (List.mem_of_getElem? (i := 61) rfl))) (mvT hZ (hw _ (List.mem_of_getElem? (i := 62) rfl))) (notFace_of_selects (args := #[]) (mvT hZ (hw _ (List.mem_of_getElem? (i := 64) rfl)))) (mvT hZ (hw _ (List.mem_of_getElem? (i := 64) rfl))) (mvT hZ (hw _ (List.mem_of_getElem? (i := 63) rfl))) (by decide) (backOf (W := 4) (rm8 l Z a0 hw [] t (2 : Int32) d [x0, x1, x2] x2 h0 n0 Z0 F2 A2 (by decide) rfl) hZ (hw _ (List.mem_of_getElem? (i := 65) rfl)) (hw _ (List.mem_of_getElem? (i := 47) rfl)) (by decide) (by decide)) q151a q151c (g := (mkF m 39 #[.val (.ref a), .val (.ref t), .val (.long (((0 : Int64) + (own_lag o0 x0)) + (own_lag o1 x1))), .second, .val (.int (1 : Int32)), .val (.int (2 : Int32))] [(.int (2 : Int32)), (.ref t), (.int (2 : Int32)), (.ref a), (.long (((0 : Int64) + (own_lag o0 x0)) + (own_lag o1 x1)))])) rfl (by rw [hml]; rfl) (Steps.refl _) (argsL := [(.int (2 : Int32))]) (rest := [(.int (2 : Int32)), (.ref a), (.long (((0 : Int64) + (own_lag o0 x0)) + (own_lag o1 x1)))]) (lenOf pd_2 rfl) rfl (by show 2 * 0 + _ ≤ _; exact Nat.le_of_eq rfl) (hb hby d7_39) (fun _ _ => ⟨rfl, e139, (by decide : 0 + 0 ≤ _), (by decide : 0 + 0 ≤ _)⟩)
        dsimp only [Pt.U, Pt.locs, Pt.cells, Pt.slots] at X151 l151 y151 z151 st151 hQ151
        subst l151 y151 z151
        obtain ⟨rfl, N151q, e151⟩ := hQ151
        have N151 := Fr.app N131 N151q
        have S152 : Steps p.tables e below Ω (T151.setTop (mkF m 42 #[.val (.ref a), .val (.ref t), .val (.long (((0 : Int64) + (own_lag o0 x0)) + (own_lag o1 x1))), .second, .val (.int (1 : Int32)), .val (.int (2 : Int32))] [(.long x2), (.int (2 : Int32)), (.ref a), (.long (((0 : Int64) + (own_lag o0 x0)) + (own_lag o1 x1)))])) := S150.trans st151
        obtain ⟨cq153, kq153, q153a, q153b, q153c⟩ := isOf hZ e151 Ea
        obtain ⟨_, _, ⟨T153, L153, k153, n153⟩, -, X153, ⟨Lc153, hQ153, l153, y153, z153⟩, st153⟩ := X151.virtualBack hx (y := (⟨"com/example/ingest/ingest/common/GroupProgress", "lag", "(IJ)J"⟩ : MethodName)) (z := (⟨"com/example/ingest/ingest/common/GroupProgress", "lag", "(IJ)J"⟩ : MethodName)) hown (mvT hZ (hw _ (List.mem_of_getElem? (i := 66) rfl))) (mvT hZ (hw _ (List.mem_of_getElem? (i := 67) rfl))) (notFace_of_selects (args := #[]) (mvT hZ (hw _ (List.mem_of_getElem? (i := 69) rfl)))) (mvT hZ (hw _ (List.mem_of_getElem? (i := 69) rfl))) (mvT hZ (hw _ (List.mem_of_getElem? (i := 68) rfl))) (by decide) (backOf (W := 2) (rm9 l Z a0 hw [] a (2 : Int32) x2 cA [o0, o1, o2] o2 h0 n0 Z0 F1 A1 (by decide) rfl) hZ (hw _ (List.mem_of_getElem? (i := 70) rfl)) (hw _ (List.mem_of_getElem? (i := 7) rfl)) (by decide) (by decide)) q153a q153c (g := (mkF m 42 #[.val (.ref a), .val (.ref t), .val (.long (((0 : Int64) + (own_lag o0 x0)) + (own_lag o1 x1))), .second, .val (.int (1 : Int32)), .val (.int (2 : Int32))] [(.long x2), (.int (2 : Int32)), (.ref a), (.long (((0 : Int64) + (own_lag o0 x0)) + (own_lag o1 x1)))])) rfl (by rw [hml]; rfl) (Steps.refl _) (argsL := [(.int (2 : Int32)), (.long x2)]) (rest := [(.long (((0 : Int64) + (own_lag o0 x0)) + (own_lag o1 x1)))]) (lenOf pd_3 rfl) rfl (by show 2 * 0 + _ ≤ _; exact Nat.le_of_eq rfl) (hb hby d7_42) (fun _ _ => ⟨rfl, e151, (by decide : 0 + 0 ≤ _), (by decide : 0 + 0 ≤ _)⟩)
        dsimp only [Pt.U, Pt.locs, Pt.cells, Pt.slots] at X153 l153 y153 z153 st153 hQ153
        subst l153 y153 z153
        obtain ⟨rfl, N153q, e153⟩ := hQ153
        have N153 := Fr.app N151 N153q
        have S154 : Steps p.tables e below Ω (T153.setTop (mkF m 45 #[.val (.ref a), .val (.ref t), .val (.long (((0 : Int64) + (own_lag o0 x0)) + (own_lag o1 x1))), .second, .val (.int (1 : Int32)), .val (.int (2 : Int32))] [(.long (own_lag o2 x2)), (.long (((0 : Int64) + (own_lag o0 x0)) + (own_lag o1 x1)))])) := S152.trans st153
        have S155 : Steps p.tables e below Ω (T153.setTop (mkF m 8 #[.val (.ref a), .val (.ref t), .val (.long ((((0 : Int64) + (own_lag o0 x0)) + (own_lag o1 x1)) + (own_lag o2 x2))), .second, .val (.int (1 : Int32)), .val (.int (3 : Int32))] [])) := by
          refine S154.trans ?_
          refine XS.ladd X153.here hx rfl (hb hby d7_45) rfl ?_
          show Steps p.tables e below (T153.setTop (mkF m 46 #[.val (.ref a), .val (.ref t), .val (.long (((0 : Int64) + (own_lag o0 x0)) + (own_lag o1 x1))), .second, .val (.int (1 : Int32)), .val (.int (2 : Int32))] [(.long ((((0 : Int64) + (own_lag o0 x0)) + (own_lag o1 x1)) + (own_lag o2 x2)))])) _
          refine XS.lstoreN X153.here hx rfl (hb hby d7_46) rfl (l' := #[.val (.ref a), .val (.ref t), .val (.long ((((0 : Int64) + (own_lag o0 x0)) + (own_lag o1 x1)) + (own_lag o2 x2))), .second, .val (.int (1 : Int32)), .val (.int (2 : Int32))]) rfl ?_
          show Steps p.tables e below (T153.setTop (mkF m 47 #[.val (.ref a), .val (.ref t), .val (.long ((((0 : Int64) + (own_lag o0 x0)) + (own_lag o1 x1)) + (own_lag o2 x2))), .second, .val (.int (1 : Int32)), .val (.int (2 : Int32))] [])) _
          refine XS.iconst X153.here hx rfl (hb hby d7_47) ?_
          show Steps p.tables e below (T153.setTop (mkF m 48 #[.val (.ref a), .val (.ref t), .val (.long ((((0 : Int64) + (own_lag o0 x0)) + (own_lag o1 x1)) + (own_lag o2 x2))), .second, .val (.int (1 : Int32)), .val (.int (2 : Int32))] [(.int (1 : Int32))])) _
          refine XS.istore X153.here hx rfl (hb hby d7_48) rfl (l' := #[.val (.ref a), .val (.ref t), .val (.long ((((0 : Int64) + (own_lag o0 x0)) + (own_lag o1 x1)) + (own_lag o2 x2))), .second, .val (.int (1 : Int32)), .val (.int (2 : Int32))]) rfl ?_
          show Steps p.tables e below (T153.setTop (mkF m 50 #[.val (.ref a), .val (.ref t), .val (.long ((((0 : Int64) + (own_lag o0 x0)) + (own_lag o1 x1)) + (own_lag o2 x2))), .second, .val (.int (1 : Int32)), .val (.int (2 : Int32))] [])) _
          refine XS.iinc X153.here hx rfl (hb hby d7_50) rfl (l' := #[.val (.ref a), .val (.ref t), .val (.long ((((0 : Int64) + (own_lag o0 x0)) + (own_lag o1 x1)) + (own_lag o2 x2))), .second, .val (.int (1 : Int32)), .val (.int (3 : Int32))]) rfl ?_
          show Steps p.tables e below (T153.setTop (mkF m 53 #[.val (.ref a), .val (.ref t), .val (.long ((((0 : Int64) + (own_lag o0 x0)) + (own_lag o1 x1)) + (own_lag o2 x2))), .second, .val (.int (1 : Int32)), .val (.int (3 : Int32))] [])) _
          refine XS.goto X153.here hx rfl (pc0 := 53) (pc' := 8) rfl (hb hby d7_53) (by decide) (by decide) ?_
          exact Steps.refl _
        have S156 : Steps p.tables e below Ω (T153.setTop (mkF m 11 #[.val (.ref a), .val (.ref t), .val (.long ((((0 : Int64) + (own_lag o0 x0)) + (own_lag o1 x1)) + (own_lag o2 x2))), .second, .val (.int (1 : Int32)), .val (.int (3 : Int32))] [(.ref a), (.int (3 : Int32))])) := by
          refine S155.trans ?_
          refine XS.iload X153.here hx rfl (hb hby d7_8) rfl ?_
          show Steps p.tables e below (T153.setTop (mkF m 10 #[.val (.ref a), .val (.ref t), .val (.long ((((0 : Int64) + (own_lag o0 x0)) + (own_lag o1 x1)) + (own_lag o2 x2))), .second, .val (.int (1 : Int32)), .val (.int (3 : Int32))] [(.int (3 : Int32))])) _
          refine XS.aloadN X153.here hx rfl (hb hby d7_10) rfl rfl ?_
          exact Steps.refl _
        obtain ⟨T157, X157, e157, st157⟩ := getF X153 hx hZ hown (host := "") (Or.inl (hw _ (List.mem_of_getElem? (i := 41) rfl))) Via.refl e153 F1 (g := (mkF m 11 #[.val (.ref a), .val (.ref t), .val (.long ((((0 : Int64) + (own_lag o0 x0)) + (own_lag o1 x1)) + (own_lag o2 x2))), .second, .val (.int (1 : Int32)), .val (.int (3 : Int32))] [(.ref a), (.int (3 : Int32))])) rfl rfl (hb hby d7_11)
        have S158 : Steps p.tables e below Ω (T157.setTop (mkF m 14 #[.val (.ref a), .val (.ref t), .val (.long ((((0 : Int64) + (own_lag o0 x0)) + (own_lag o1 x1)) + (own_lag o2 x2))), .second, .val (.int (1 : Int32)), .val (.int (3 : Int32))] [(.ref cA), (.int (3 : Int32))])) := S156.trans (st157 _ (Steps.refl _))
        have S159 : Steps p.tables e below Ω (T157.setTop (mkF m 15 #[.val (.ref a), .val (.ref t), .val (.long ((((0 : Int64) + (own_lag o0 x0)) + (own_lag o1 x1)) + (own_lag o2 x2))), .second, .val (.int (1 : Int32)), .val (.int (3 : Int32))] [(.int (3 : Int32)), (.int (3 : Int32))])) := S158.trans (own_len X157 hx hZ e157 A1 (n := (3 : Int32)) rfl (g := (mkF m 14 #[.val (.ref a), .val (.ref t), .val (.long ((((0 : Int64) + (own_lag o0 x0)) + (own_lag o1 x1)) + (own_lag o2 x2))), .second, .val (.int (1 : Int32)), .val (.int (3 : Int32))] [(.ref cA), (.int (3 : Int32))])) rfl rfl (hb hby d7_14) _ (Steps.refl _))
        have S160 : Steps p.tables e below Ω (T157.setTop (mkF m 68 #[.val (.ref a), .val (.ref t), .val (.long ((((0 : Int64) + (own_lag o0 x0)) + (own_lag o1 x1)) + (own_lag o2 x2))), .second, .val (.int (1 : Int32)), .val (.int (3 : Int32))] [(.long ((((0 : Int64) + (own_lag o0 x0)) + (own_lag o1 x1)) + (own_lag o2 x2)))])) := by
          refine S159.trans ?_
          refine XS.icmpYes X157.here hx rfl (pc0 := 15) (pc' := 56) rfl (hb hby d7_15) rfl (XT.ii_ge_t (by decide)) (by decide) (by decide) ?_
          show Steps p.tables e below (T157.setTop (mkF m 56 #[.val (.ref a), .val (.ref t), .val (.long ((((0 : Int64) + (own_lag o0 x0)) + (own_lag o1 x1)) + (own_lag o2 x2))), .second, .val (.int (1 : Int32)), .val (.int (3 : Int32))] [])) _
          refine XS.iload X157.here hx rfl (hb hby d7_56) rfl ?_
          show Steps p.tables e below (T157.setTop (mkF m 58 #[.val (.ref a), .val (.ref t), .val (.long ((((0 : Int64) + (own_lag o0 x0)) + (own_lag o1 x1)) + (own_lag o2 x2))), .second, .val (.int (1 : Int32)), .val (.int (3 : Int32))] [(.int (1 : Int32))])) _
          refine XS.ifNo X157.here hx rfl (hb hby d7_58) rfl (XT.i0_eq_f (by decide)) ?_
          show Steps p.tables e below (T157.setTop (mkF m 61 #[.val (.ref a), .val (.ref t), .val (.long ((((0 : Int64) + (own_lag o0 x0)) + (own_lag o1 x1)) + (own_lag o2 x2))), .second, .val (.int (1 : Int32)), .val (.int (3 : Int32))] [])) _
          refine XS.lloadN X157.here hx rfl (hb hby d7_61) rfl ?_
          show Steps p.tables e below (T157.setTop (mkF m 62 #[.val (.ref a), .val (.ref t), .val (.long ((((0 : Int64) + (own_lag o0 x0)) + (own_lag o1 x1)) + (own_lag o2 x2))), .second, .val (.int (1 : Int32)), .val (.int (3 : Int32))] [(.long ((((0 : Int64) + (own_lag o0 x0)) + (own_lag o1 x1)) + (own_lag o2 x2)))])) _
          refine XS.goto X157.here hx rfl (pc0 := 62) (pc' := 68) rfl (hb hby d7_62) (by decide) (by decide) ?_
          exact Steps.refl _
        obtain ⟨fs, hr, hrun, hended, hW, hsame⟩ := X157.leave (v := some (.long ((((0 : Int64) + (own_lag o0 x0)) + (own_lag o1 x1)) + (own_lag o2 x2)))) (fun h => by rw [Bd.returns] at h; cases h)
        have hfin : Steps p.tables e below Ω (T157.setFrames fs) := by
          refine S160.trans ?_
          exact X157.lreturnOut hx Bd.returns (hb hby d7_68) hr
        rw [hΩ] at hfin
        refine ⟨_, _, hfin, hrun, hended, _, _, rfl, ?_, ⟨_, rfl⟩, hW, hsame.mono (by decide) (by decide)⟩
        show Q7 Z a t cA d o0 o1 o2 x0 x1 x2 h0 n0 _ T157.heap _
        rw [e157]
        exact ⟨by simp only [own_tot, own_s, own_f, if_neg g0, if_neg g1, if_neg g2, if_neg (by decide : ¬ (1 : Int32) = (0 : Int32))], N153, rfl⟩
theorem pd_4 : parseMethodDescriptor "(J)J" = some ⟨[.long], some .long⟩ := by decide +kernel
theorem pd_5 : parseMethodDescriptor "([J[J)V" = some ⟨[(.array .long), (.array .long)], none⟩ := by decide +kernel
theorem pd_6 : parseMethodDescriptor "([J)V" = some ⟨[(.array .long)], none⟩ := by decide +kernel
theorem pd_7 : parseMethodDescriptor "(Lcom/example/ingest/ingest/common/TopicInfo;)J" = some ⟨[(.object "com/example/ingest/ingest/common/TopicInfo")], some .long⟩ := by decide +kernel
theorem pd_8 : parseMethodDescriptor "(JJ)J" = some ⟨[.long, .long], some .long⟩ := by decide +kernel
theorem ef_rm0 (m : MethodId) (x0 : Int64) (x1 : Int64) (x2 : Int64) (x3 : Int64) (x4 : Int64) (x5 : Int64) : entryFrame m #[(.long x0), (.long x1), (.long x2), (.long x3), (.long x4), (.long x5)] maxLocals = mkF m 0 #[.val (.long x0), .second, .val (.long x1), .second, .val (.long x2), .second, .val (.long x3), .second, .val (.long x4), .second, .val (.long x5), .second, .unset, .unset, .unset, .unset, .unset, .unset, .unset, .unset, .unset, .unset, .unset, .unset, .unset, .unset, .unset] [] := by first | (simp [entryFrame, mkF, argsToLocals, Value.category, maxLocals]; done) | rfl
def Q0 (Z : State) (x0 : Int64) (x1 : Int64) (x2 : Int64) (y0 : Int64) (y1 : Int64) (y2 : Int64) (h0 : Heap) (n0 : Nat) (v : Option Value) (h : Heap) (L : List Loc) : Prop := v = some (.int 1) ∧ Fr n0 L
set_option maxRecDepth 65536 in
set_option maxHeartbeats 40000000 in
theorem rm0 (l : Launch) (Z : State) (a0 : Array Value) (hw : ∀ d ∈ tables_1, d.before a0 Z = true) (ws : List Jvm.Cond) (x0 : Int64) (x1 : Int64) (x2 : Int64) (y0 : Int64) (y1 : Int64) (y2 : Int64) (h0 : Heap) (n0 : Nat) (Z0 : n0 ≤ h0.size) :
    MetFree l x (head1 (Jvm.Cond.code x code maxLocals ret :: ws) room_1) (fun aa U => aa = #[(.long x0), (.long x1), (.long x2), (.long y0), (.long y1), (.long y2)] ∧ Z.Warmed39 U.vm ∧ U.heap = h0) (fun _ _ _ _ _ => True) (fun _ U o U' => ∃ v L, o = .returned v ∧ Q0 Z x0 x1 x2 y0 y1 y2 h0 n0 v U'.heap L ∧ ReturnedEndW U o U' L room_1.cells room_1.slots) := by
  refine MetFree.of_bodySF (plainFor_of_name pn_0) hisR ?_
  intro p e s m args below meth c s₁ Bd hml0 hP hK
  obtain ⟨rfl, hZ, hh⟩ := hP
  have hx := Bd.exec
  have hby := Bd.bytes
  have hml : c.maxLocals = 27 := hml0
  have hown : s.vm.findClass "com/example/ingest/ingest/common/GroupProgressLag275PinLaw" = some m.cls := findClass_of_methodNamed Bd.named
  have hnm := (name_of_methodNamed Bd.named Bd.method).1
  have X0 : Stand p l e room_1 s m #[(.long x0), (.long x1), (.long x2), (.long y0), (.long y1), (.long y2)] below meth c s₁ [] 0 0 := Stand.of_body Bd
  have e0 : s₁.heap = h0 := by rw [← hh, Bd.state]; rfl
  have N0 := Fr.nil n0
  obtain ⟨Ω, hΩ⟩ : ∃ z, z = s₁.setTop (entryFrame m #[(.long x0), (.long x1), (.long x2), (.long y0), (.long y1), (.long y2)] maxLocals) := ⟨_, rfl⟩
  have S0 : Steps p.tables e below Ω (s₁.setTop (mkF m 0 #[.val (.long x0), .second, .val (.long x1), .second, .val (.long x2), .second, .val (.long y0), .second, .val (.long y1), .second, .val (.long y2), .second, .unset, .unset, .unset, .unset, .unset, .unset, .unset, .unset, .unset, .unset, .unset, .unset, .unset, .unset, .unset] [])) := by rw [hΩ]; exact castTop (ef_rm0 m x0 x1 x2 y0 y1 y2) (Steps.refl _)
  have hS0 : s.Since s.vm h0.size := (State.WarmedH.refl s).since _
  have S1 : Steps p.tables e below Ω (s₁.setTop (mkF m 1 #[.val (.long x0), .second, .val (.long x1), .second, .val (.long x2), .second, .val (.long y0), .second, .val (.long y1), .second, .val (.long y2), .second, .unset, .unset, .unset, .unset, .unset, .unset, .unset, .unset, .unset, .unset, .unset, .unset, .unset, .unset, .unset] [(.long x0)])) := by
    refine S0.trans ?_
    refine XS.lloadN X0.here hx rfl (hb hby at_0) rfl ?_
    exact Steps.refl _
  obtain ⟨_, _, ⟨T2, L2, k2, n2⟩, -, X2, ⟨Lc2, hQ2, l2, y2, z2⟩, st2⟩ := Jvm.LawKit.callS X0 hx (y := (⟨"com/example/ingest/ingest/common/GroupProgressLag275PinLaw", "off", "(J)J"⟩ : MethodName)) hown (mvT hZ (hw _ (List.mem_of_getElem? (i := 0) rfl))) (mvT hZ (hw _ (List.mem_of_getElem? (i := 1) rfl))) (mvT hZ (hw _ (List.mem_of_getElem? (i := 2) rfl))) (mvT hZ (hw _ (List.mem_of_getElem? (i := 3) rfl))) (by decide) (backOf (W := 0) (rm1 l Z a0 hw [] x0  h0 n0 Z0 ) hZ (hw _ (List.mem_of_getElem? (i := 3) rfl)) (hw _ (List.mem_of_getElem? (i := 2) rfl)) (by decide) (by decide)) (g := (mkF m 1 #[.val (.long x0), .second, .val (.long x1), .second, .val (.long x2), .second, .val (.long y0), .second, .val (.long y1), .second, .val (.long y2), .second, .unset, .unset, .unset, .unset, .unset, .unset, .unset, .unset, .unset, .unset, .unset, .unset, .unset, .unset, .unset] [(.long x0)])) rfl (by rw [hml]; rfl) (argsL := [(.long x0)]) (rest := []) (lenOf pd_4 rfl) rfl (by show 2 * 0 + _ ≤ _; exact Nat.le_of_eq rfl) (hb hby at_1) (fun _ _ => ⟨rfl, e0, (by decide : 0 + 0 ≤ _), (by decide : 0 + 0 ≤ _)⟩)
  dsimp only [Pt.U, Pt.locs, Pt.cells, Pt.slots] at X2 l2 y2 z2 st2 hQ2
  subst l2 y2 z2
  obtain ⟨rfl, N2q, e2⟩ := hQ2
  have N2 := Fr.app N0 N2q
  have S3 : Steps p.tables e below Ω (T2.setTop (mkF m 4 #[.val (.long x0), .second, .val (.long x1), .second, .val (.long x2), .second, .val (.long y0), .second, .val (.long y1), .second, .val (.long y2), .second, .unset, .unset, .unset, .unset, .unset, .unset, .unset, .unset, .unset, .unset, .unset, .unset, .unset, .unset, .unset] [(.long (own_off x0))])) := S1.trans (st2 _ (Steps.refl _))
  obtain ⟨o0, h_o0⟩ : ∃ z : Int64, z = (own_off x0) := ⟨_, rfl⟩
  rw [← h_o0] at S3
  have ho0 := own_offI x0
  rw [← h_o0] at ho0
  have S4 : Steps p.tables e below Ω (T2.setTop (mkF m 7 #[.val (.long x0), .second, .val (.long x1), .second, .val (.long x2), .second, .val (.long y0), .second, .val (.long y1), .second, .val (.long y2), .second, .val (.long o0), .second, .unset, .unset, .unset, .unset, .unset, .unset, .unset, .unset, .unset, .unset, .unset, .unset, .unset] [(.long x1)])) := by
    refine S3.trans ?_
    refine XS.lstore X2.here hx rfl (hb hby at_4) rfl (l' := #[.val (.long x0), .second, .val (.long x1), .second, .val (.long x2), .second, .val (.long y0), .second, .val (.long y1), .second, .val (.long y2), .second, .val (.long o0), .second, .unset, .unset, .unset, .unset, .unset, .unset, .unset, .unset, .unset, .unset, .unset, .unset, .unset]) rfl ?_
    show Steps p.tables e below (T2.setTop (mkF m 6 #[.val (.long x0), .second, .val (.long x1), .second, .val (.long x2), .second, .val (.long y0), .second, .val (.long y1), .second, .val (.long y2), .second, .val (.long o0), .second, .unset, .unset, .unset, .unset, .unset, .unset, .unset, .unset, .unset, .unset, .unset, .unset, .unset] [])) _
    refine XS.lloadN X2.here hx rfl (hb hby at_6) rfl ?_
    exact Steps.refl _
  obtain ⟨_, _, ⟨T5, L5, k5, n5⟩, -, X5, ⟨Lc5, hQ5, l5, y5, z5⟩, st5⟩ := Jvm.LawKit.callS X2 hx (y := (⟨"com/example/ingest/ingest/common/GroupProgressLag275PinLaw", "off", "(J)J"⟩ : MethodName)) hown (mvT hZ (hw _ (List.mem_of_getElem? (i := 0) rfl))) (mvT hZ (hw _ (List.mem_of_getElem? (i := 1) rfl))) (mvT hZ (hw _ (List.mem_of_getElem? (i := 2) rfl))) (mvT hZ (hw _ (List.mem_of_getElem? (i := 3) rfl))) (by decide) (backOf (W := 0) (rm1 l Z a0 hw [] x1  h0 n0 Z0 ) hZ (hw _ (List.mem_of_getElem? (i := 3) rfl)) (hw _ (List.mem_of_getElem? (i := 2) rfl)) (by decide) (by decide)) (g := (mkF m 7 #[.val (.long x0), .second, .val (.long x1), .second, .val (.long x2), .second, .val (.long y0), .second, .val (.long y1), .second, .val (.long y2), .second, .val (.long o0), .second, .unset, .unset, .unset, .unset, .unset, .unset, .unset, .unset, .unset, .unset, .unset, .unset, .unset] [(.long x1)])) rfl (by rw [hml]; rfl) (argsL := [(.long x1)]) (rest := []) (lenOf pd_4 rfl) rfl (by show 2 * 0 + _ ≤ _; exact Nat.le_of_eq rfl) (hb hby at_7) (fun _ _ => ⟨rfl, e2, (by decide : 0 + 0 ≤ _), (by decide : 0 + 0 ≤ _)⟩)
  dsimp only [Pt.U, Pt.locs, Pt.cells, Pt.slots] at X5 l5 y5 z5 st5 hQ5
  subst l5 y5 z5
  obtain ⟨rfl, N5q, e5⟩ := hQ5
  have N5 := Fr.app N2 N5q
  have S6 : Steps p.tables e below Ω (T5.setTop (mkF m 10 #[.val (.long x0), .second, .val (.long x1), .second, .val (.long x2), .second, .val (.long y0), .second, .val (.long y1), .second, .val (.long y2), .second, .val (.long o0), .second, .unset, .unset, .unset, .unset, .unset, .unset, .unset, .unset, .unset, .unset, .unset, .unset, .unset] [(.long (own_off x1))])) := S4.trans (st5 _ (Steps.refl _))
  obtain ⟨o1, h_o1⟩ : ∃ z : Int64, z = (own_off x1) := ⟨_, rfl⟩
  rw [← h_o1] at S6
  have ho1 := own_offI x1
  rw [← h_o1] at ho1
  have S7 : Steps p.tables e below Ω (T5.setTop (mkF m 14 #[.val (.long x0), .second, .val (.long x1), .second, .val (.long x2), .second, .val (.long y0), .second, .val (.long y1), .second, .val (.long y2), .second, .val (.long o0), .second, .val (.long o1), .second, .unset, .unset, .unset, .unset, .unset, .unset, .unset, .unset, .unset, .unset, .unset] [(.long x2)])) := by
    refine S6.trans ?_
    refine XS.lstore X5.here hx rfl (hb hby at_10) rfl (l' := #[.val (.long x0), .second, .val (.long x1), .second, .val (.long x2), .second, .val (.long y0), .second, .val (.long y1), .second, .val (.long y2), .second, .val (.long o0), .second, .val (.long o1), .second, .unset, .unset, .unset, .unset, .unset, .unset, .unset, .unset, .unset, .unset, .unset]) rfl ?_
    show Steps p.tables e below (T5.setTop (mkF m 12 #[.val (.long x0), .second, .val (.long x1), .second, .val (.long x2), .second, .val (.long y0), .second, .val (.long y1), .second, .val (.long y2), .second, .val (.long o0), .second, .val (.long o1), .second, .unset, .unset, .unset, .unset, .unset, .unset, .unset, .unset, .unset, .unset, .unset] [])) _
    refine XS.lload X5.here hx rfl (hb hby at_12) rfl ?_
    exact Steps.refl _
  obtain ⟨_, _, ⟨T8, L8, k8, n8⟩, -, X8, ⟨Lc8, hQ8, l8, y8, z8⟩, st8⟩ := Jvm.LawKit.callS X5 hx (y := (⟨"com/example/ingest/ingest/common/GroupProgressLag275PinLaw", "off", "(J)J"⟩ : MethodName)) hown (mvT hZ (hw _ (List.mem_of_getElem? (i := 0) rfl))) (mvT hZ (hw _ (List.mem_of_getElem? (i := 1) rfl))) (mvT hZ (hw _ (List.mem_of_getElem? (i := 2) rfl))) (mvT hZ (hw _ (List.mem_of_getElem? (i := 3) rfl))) (by decide) (backOf (W := 0) (rm1 l Z a0 hw [] x2  h0 n0 Z0 ) hZ (hw _ (List.mem_of_getElem? (i := 3) rfl)) (hw _ (List.mem_of_getElem? (i := 2) rfl)) (by decide) (by decide)) (g := (mkF m 14 #[.val (.long x0), .second, .val (.long x1), .second, .val (.long x2), .second, .val (.long y0), .second, .val (.long y1), .second, .val (.long y2), .second, .val (.long o0), .second, .val (.long o1), .second, .unset, .unset, .unset, .unset, .unset, .unset, .unset, .unset, .unset, .unset, .unset] [(.long x2)])) rfl (by rw [hml]; rfl) (argsL := [(.long x2)]) (rest := []) (lenOf pd_4 rfl) rfl (by show 2 * 0 + _ ≤ _; exact Nat.le_of_eq rfl) (hb hby at_14) (fun _ _ => ⟨rfl, e5, (by decide : 0 + 0 ≤ _), (by decide : 0 + 0 ≤ _)⟩)
  dsimp only [Pt.U, Pt.locs, Pt.cells, Pt.slots] at X8 l8 y8 z8 st8 hQ8
  subst l8 y8 z8
  obtain ⟨rfl, N8q, e8⟩ := hQ8
  have N8 := Fr.app N5 N8q
  have S9 : Steps p.tables e below Ω (T8.setTop (mkF m 17 #[.val (.long x0), .second, .val (.long x1), .second, .val (.long x2), .second, .val (.long y0), .second, .val (.long y1), .second, .val (.long y2), .second, .val (.long o0), .second, .val (.long o1), .second, .unset, .unset, .unset, .unset, .unset, .unset, .unset, .unset, .unset, .unset, .unset] [(.long (own_off x2))])) := S7.trans (st8 _ (Steps.refl _))
  obtain ⟨o2, h_o2⟩ : ∃ z : Int64, z = (own_off x2) := ⟨_, rfl⟩
  rw [← h_o2] at S9
  have ho2 := own_offI x2
  rw [← h_o2] at ho2
  have S10 : Steps p.tables e below Ω (T8.setTop (mkF m 19 #[.val (.long x0), .second, .val (.long x1), .second, .val (.long x2), .second, .val (.long y0), .second, .val (.long y1), .second, .val (.long y2), .second, .val (.long o0), .second, .val (.long o1), .second, .val (.long o2), .second, .unset, .unset, .unset, .unset, .unset, .unset, .unset, .unset, .unset] [])) := by
    refine S9.trans ?_
    refine XS.lstore X8.here hx rfl (hb hby at_17) rfl (l' := #[.val (.long x0), .second, .val (.long x1), .second, .val (.long x2), .second, .val (.long y0), .second, .val (.long y1), .second, .val (.long y2), .second, .val (.long o0), .second, .val (.long o1), .second, .val (.long o2), .second, .unset, .unset, .unset, .unset, .unset, .unset, .unset, .unset, .unset]) rfl ?_
    exact Steps.refl _
  obtain ⟨T11, h11, X11, e11, E11, A11, D11, -, st11⟩ := newO X8 hx hZ hown (hw _ (List.mem_of_getElem? (i := 5) rfl)) (hw _ (List.mem_of_getElem? (i := 6) rfl)) (hw _ (List.mem_of_getElem? (i := 7) rfl)) e8 (g := (mkF m 19 #[.val (.long x0), .second, .val (.long x1), .second, .val (.long x2), .second, .val (.long y0), .second, .val (.long y1), .second, .val (.long y2), .second, .val (.long o0), .second, .val (.long o1), .second, .val (.long o2), .second, .unset, .unset, .unset, .unset, .unset, .unset, .unset, .unset, .unset] [])) rfl (hb hby at_19) (by decide) (by decide)
  obtain ⟨t, s_t⟩ : ∃ z, z = h0.size := ⟨_, rfl⟩
  rw [← s_t] at A11 D11 st11
  have g_t : n0 ≤ t := Nat.le_trans Z0 (Nat.le_of_eq s_t.symm)
  have F_offsets_t : Fld Z h11 t "com/example/ingest/ingest/common/GroupProgress" "offsets" "[J" .null := D11 (Or.inr (hw _ (List.mem_of_getElem? (i := 42) rfl))) (ty := (.array .long)) (by decide)
  have F_retryOffsets_t : Fld Z h11 t "com/example/ingest/ingest/common/GroupProgress" "retryOffsets" "[J" .null := D11 (Or.inr (hw _ (List.mem_of_getElem? (i := 44) rfl))) (ty := (.array .long)) (by decide)
  have S12 : Steps p.tables e below Ω (T11.setTop (mkF m 22 #[.val (.long x0), .second, .val (.long x1), .second, .val (.long x2), .second, .val (.long y0), .second, .val (.long y1), .second, .val (.long y2), .second, .val (.long o0), .second, .val (.long o1), .second, .val (.long o2), .second, .unset, .unset, .unset, .unset, .unset, .unset, .unset, .unset, .unset] [(.ref t)])) := S10.trans (st11 _ (Steps.refl _))
  have S13 : Steps p.tables e below Ω (T11.setTop (mkF m 24 #[.val (.long x0), .second, .val (.long x1), .second, .val (.long x2), .second, .val (.long y0), .second, .val (.long y1), .second, .val (.long y2), .second, .val (.long o0), .second, .val (.long o1), .second, .val (.long o2), .second, .unset, .unset, .unset, .unset, .unset, .unset, .unset, .unset, .unset] [(.int (3 : Int32)), (.ref t), (.ref t)])) := by
    refine S12.trans ?_
    refine XS.dup X11.here hx rfl (hb hby at_22) rfl rfl ?_
    show Steps p.tables e below (T11.setTop (mkF m 23 #[.val (.long x0), .second, .val (.long x1), .second, .val (.long x2), .second, .val (.long y0), .second, .val (.long y1), .second, .val (.long y2), .second, .val (.long o0), .second, .val (.long o1), .second, .val (.long o2), .second, .unset, .unset, .unset, .unset, .unset, .unset, .unset, .unset, .unset] [(.ref t), (.ref t)])) _
    refine XS.iconst X11.here hx rfl (hb hby at_23) ?_
    exact Steps.refl _
  obtain ⟨T14, h14, k14, X14, e14, E14, A14, B14, st14⟩ := newPE X11 hx hZ (hw _ (List.mem_of_getElem? (i := 8) rfl)) e11 (g := (mkF m 24 #[.val (.long x0), .second, .val (.long x1), .second, .val (.long x2), .second, .val (.long y0), .second, .val (.long y1), .second, .val (.long y2), .second, .val (.long o0), .second, .val (.long o1), .second, .val (.long o2), .second, .unset, .unset, .unset, .unset, .unset, .unset, .unset, .unset, .unset] [(.int (3 : Int32)), (.ref t), (.ref t)])) rfl (hb hby at_24) rfl (by decide) (cap := 3) (by decide) (by decide) (by decide) (by decide) (ad := "[J") (by decide)
  obtain ⟨b, s_b⟩ : ∃ z, z = h11.size := ⟨_, rfl⟩
  rw [← s_b] at A14 B14 st14
  have g_b : n0 ≤ b := Nat.le_trans (Nat.le_trans Z0 E11.1) (Nat.le_of_eq s_b.symm)
  have S15 : Steps p.tables e below Ω (T14.setTop (mkF m 26 #[.val (.long x0), .second, .val (.long x1), .second, .val (.long x2), .second, .val (.long y0), .second, .val (.long y1), .second, .val (.long y2), .second, .val (.long o0), .second, .val (.long o1), .second, .val (.long o2), .second, .unset, .unset, .unset, .unset, .unset, .unset, .unset, .unset, .unset] [(.ref b), (.ref t), (.ref t)])) := S13.trans (st14 _ (Steps.refl _))
  have V_b_0 : LA Z h14 b .long [(.long (0 : Int64)), (.long (0 : Int64)), (.long (0 : Int64))] := LA.new A14 3 rfl
  have hne_t_b : t ≠ b := Nat.ne_of_lt (Nat.lt_of_lt_of_le (A11).lt (Nat.le_of_eq s_b.symm))
  have ET_b := (A11).ext E14
  have FO_b := (F_offsets_t).ext E14
  have FR_b := (F_retryOffsets_t).ext E14
  have S16 : Steps p.tables e below Ω (T14.setTop (mkF m 30 #[.val (.long x0), .second, .val (.long x1), .second, .val (.long x2), .second, .val (.long y0), .second, .val (.long y1), .second, .val (.long y2), .second, .val (.long o0), .second, .val (.long o1), .second, .val (.long o2), .second, .unset, .unset, .unset, .unset, .unset, .unset, .unset, .unset, .unset] [(.long o0), (.int (0 : Int32)), (.ref b), (.ref b), (.ref t), (.ref t)])) := by
    refine S15.trans ?_
    refine XS.dup X14.here hx rfl (hb hby at_26) rfl rfl ?_
    show Steps p.tables e below (T14.setTop (mkF m 27 #[.val (.long x0), .second, .val (.long x1), .second, .val (.long x2), .second, .val (.long y0), .second, .val (.long y1), .second, .val (.long y2), .second, .val (.long o0), .second, .val (.long o1), .second, .val (.long o2), .second, .unset, .unset, .unset, .unset, .unset, .unset, .unset, .unset, .unset] [(.ref b), (.ref b), (.ref t), (.ref t)])) _
    refine XS.iconst X14.here hx rfl (hb hby at_27) ?_
    show Steps p.tables e below (T14.setTop (mkF m 28 #[.val (.long x0), .second, .val (.long x1), .second, .val (.long x2), .second, .val (.long y0), .second, .val (.long y1), .second, .val (.long y2), .second, .val (.long o0), .second, .val (.long o1), .second, .val (.long o2), .second, .unset, .unset, .unset, .unset, .unset, .unset, .unset, .unset, .unset] [(.int (0 : Int32)), (.ref b), (.ref b), (.ref t), (.ref t)])) _
    refine XS.lload X14.here hx rfl (hb hby at_28) rfl ?_
    exact Steps.refl _
  obtain ⟨T17, h17, X17, e17, W17, V17', st17⟩ := own_stJ X14 hx hZ e14 V_b_0 (j := (0 : Int32)) (i := 0) rfl ⟨by decide, Nat.le_of_ble_eq_true rfl⟩ (g := (mkF m 30 #[.val (.long x0), .second, .val (.long x1), .second, .val (.long x2), .second, .val (.long y0), .second, .val (.long y1), .second, .val (.long y2), .second, .val (.long o0), .second, .val (.long o1), .second, .val (.long o2), .second, .unset, .unset, .unset, .unset, .unset, .unset, .unset, .unset, .unset] [(.long o0), (.int (0 : Int32)), (.ref b), (.ref b), (.ref t), (.ref t)])) rfl rfl (hb hby at_30)
  have V17 : LA Z h17 b .long [(.long o0), (.long (0 : Int64)), (.long (0 : Int64))] := V17'
  have S18 : Steps p.tables e below Ω (T17.setTop (mkF m 31 #[.val (.long x0), .second, .val (.long x1), .second, .val (.long x2), .second, .val (.long y0), .second, .val (.long y1), .second, .val (.long y2), .second, .val (.long o0), .second, .val (.long o1), .second, .val (.long o2), .second, .unset, .unset, .unset, .unset, .unset, .unset, .unset, .unset, .unset] [(.ref b), (.ref t), (.ref t)])) := S16.trans (st17 _ (Steps.refl _))
  have N17 := Fr.snoc X17 N8 g_b
  have BB17 := (B14).wr W17
  have ET_b_0 := (ET_b).wr W17
  have FO_b_0 := (FO_b).other W17 (Or.inl hne_t_b)
  have FR_b_0 := (FR_b).other W17 (Or.inl hne_t_b)
  have S19 : Steps p.tables e below Ω (T17.setTop (mkF m 35 #[.val (.long x0), .second, .val (.long x1), .second, .val (.long x2), .second, .val (.long y0), .second, .val (.long y1), .second, .val (.long y2), .second, .val (.long o0), .second, .val (.long o1), .second, .val (.long o2), .second, .unset, .unset, .unset, .unset, .unset, .unset, .unset, .unset, .unset] [(.long o1), (.int (1 : Int32)), (.ref b), (.ref b), (.ref t), (.ref t)])) := by
    refine S18.trans ?_
    refine XS.dup X17.here hx rfl (hb hby at_31) rfl rfl ?_
    show Steps p.tables e below (T17.setTop (mkF m 32 #[.val (.long x0), .second, .val (.long x1), .second, .val (.long x2), .second, .val (.long y0), .second, .val (.long y1), .second, .val (.long y2), .second, .val (.long o0), .second, .val (.long o1), .second, .val (.long o2), .second, .unset, .unset, .unset, .unset, .unset, .unset, .unset, .unset, .unset] [(.ref b), (.ref b), (.ref t), (.ref t)])) _
    refine XS.iconst X17.here hx rfl (hb hby at_32) ?_
    show Steps p.tables e below (T17.setTop (mkF m 33 #[.val (.long x0), .second, .val (.long x1), .second, .val (.long x2), .second, .val (.long y0), .second, .val (.long y1), .second, .val (.long y2), .second, .val (.long o0), .second, .val (.long o1), .second, .val (.long o2), .second, .unset, .unset, .unset, .unset, .unset, .unset, .unset, .unset, .unset] [(.int (1 : Int32)), (.ref b), (.ref b), (.ref t), (.ref t)])) _
    refine XS.lload X17.here hx rfl (hb hby at_33) rfl ?_
    exact Steps.refl _
  obtain ⟨T20, h20, X20, e20, W20, V20', st20⟩ := own_stJ X17 hx hZ e17 V17 (j := (1 : Int32)) (i := 1) rfl ⟨by decide, Nat.le_of_ble_eq_true rfl⟩ (g := (mkF m 35 #[.val (.long x0), .second, .val (.long x1), .second, .val (.long x2), .second, .val (.long y0), .second, .val (.long y1), .second, .val (.long y2), .second, .val (.long o0), .second, .val (.long o1), .second, .val (.long o2), .second, .unset, .unset, .unset, .unset, .unset, .unset, .unset, .unset, .unset] [(.long o1), (.int (1 : Int32)), (.ref b), (.ref b), (.ref t), (.ref t)])) rfl rfl (hb hby at_35)
  have V20 : LA Z h20 b .long [(.long o0), (.long o1), (.long (0 : Int64))] := V20'
  have S21 : Steps p.tables e below Ω (T20.setTop (mkF m 36 #[.val (.long x0), .second, .val (.long x1), .second, .val (.long x2), .second, .val (.long y0), .second, .val (.long y1), .second, .val (.long y2), .second, .val (.long o0), .second, .val (.long o1), .second, .val (.long o2), .second, .unset, .unset, .unset, .unset, .unset, .unset, .unset, .unset, .unset] [(.ref b), (.ref t), (.ref t)])) := S19.trans (st20 _ (Steps.refl _))
  have N20 := Fr.snoc X20 N17 g_b
  have BB20 := (BB17).wr W20
  have ET_b_1 := (ET_b_0).wr W20
  have FO_b_1 := (FO_b_0).other W20 (Or.inl hne_t_b)
  have FR_b_1 := (FR_b_0).other W20 (Or.inl hne_t_b)
  have S22 : Steps p.tables e below Ω (T20.setTop (mkF m 40 #[.val (.long x0), .second, .val (.long x1), .second, .val (.long x2), .second, .val (.long y0), .second, .val (.long y1), .second, .val (.long y2), .second, .val (.long o0), .second, .val (.long o1), .second, .val (.long o2), .second, .unset, .unset, .unset, .unset, .unset, .unset, .unset, .unset, .unset] [(.long o2), (.int (2 : Int32)), (.ref b), (.ref b), (.ref t), (.ref t)])) := by
    refine S21.trans ?_
    refine XS.dup X20.here hx rfl (hb hby at_36) rfl rfl ?_
    show Steps p.tables e below (T20.setTop (mkF m 37 #[.val (.long x0), .second, .val (.long x1), .second, .val (.long x2), .second, .val (.long y0), .second, .val (.long y1), .second, .val (.long y2), .second, .val (.long o0), .second, .val (.long o1), .second, .val (.long o2), .second, .unset, .unset, .unset, .unset, .unset, .unset, .unset, .unset, .unset] [(.ref b), (.ref b), (.ref t), (.ref t)])) _
    refine XS.iconst X20.here hx rfl (hb hby at_37) ?_
    show Steps p.tables e below (T20.setTop (mkF m 38 #[.val (.long x0), .second, .val (.long x1), .second, .val (.long x2), .second, .val (.long y0), .second, .val (.long y1), .second, .val (.long y2), .second, .val (.long o0), .second, .val (.long o1), .second, .val (.long o2), .second, .unset, .unset, .unset, .unset, .unset, .unset, .unset, .unset, .unset] [(.int (2 : Int32)), (.ref b), (.ref b), (.ref t), (.ref t)])) _
    refine XS.lload X20.here hx rfl (hb hby at_38) rfl ?_
    exact Steps.refl _
  obtain ⟨T23, h23, X23, e23, W23, V23', st23⟩ := own_stJ X20 hx hZ e20 V20 (j := (2 : Int32)) (i := 2) rfl ⟨by decide, Nat.le_of_ble_eq_true rfl⟩ (g := (mkF m 40 #[.val (.long x0), .second, .val (.long x1), .second, .val (.long x2), .second, .val (.long y0), .second, .val (.long y1), .second, .val (.long y2), .second, .val (.long o0), .second, .val (.long o1), .second, .val (.long o2), .second, .unset, .unset, .unset, .unset, .unset, .unset, .unset, .unset, .unset] [(.long o2), (.int (2 : Int32)), (.ref b), (.ref b), (.ref t), (.ref t)])) rfl rfl (hb hby at_40)
  have V23 : LA Z h23 b .long [(.long o0), (.long o1), (.long o2)] := V23'
  have S24 : Steps p.tables e below Ω (T23.setTop (mkF m 41 #[.val (.long x0), .second, .val (.long x1), .second, .val (.long x2), .second, .val (.long y0), .second, .val (.long y1), .second, .val (.long y2), .second, .val (.long o0), .second, .val (.long o1), .second, .val (.long o2), .second, .unset, .unset, .unset, .unset, .unset, .unset, .unset, .unset, .unset] [(.ref b), (.ref t), (.ref t)])) := S22.trans (st23 _ (Steps.refl _))
  have N23 := Fr.snoc X23 N20 g_b
  have BB23 := (BB20).wr W23
  have ET_b_2 := (ET_b_1).wr W23
  have FO_b_2 := (FO_b_1).other W23 (Or.inl hne_t_b)
  have FR_b_2 := (FR_b_1).other W23 (Or.inl hne_t_b)
  have S25 : Steps p.tables e below Ω (T23.setTop (mkF m 42 #[.val (.long x0), .second, .val (.long x1), .second, .val (.long x2), .second, .val (.long y0), .second, .val (.long y1), .second, .val (.long y2), .second, .val (.long o0), .second, .val (.long o1), .second, .val (.long o2), .second, .unset, .unset, .unset, .unset, .unset, .unset, .unset, .unset, .unset] [(.int (3 : Int32)), (.ref b), (.ref t), (.ref t)])) := by
    refine S24.trans ?_
    refine XS.iconst X23.here hx rfl (hb hby at_41) ?_
    exact Steps.refl _
  obtain ⟨T26, h26, k26, X26, e26, E26, A26, B26, st26⟩ := newPE X23 hx hZ (hw _ (List.mem_of_getElem? (i := 8) rfl)) e23 (g := (mkF m 42 #[.val (.long x0), .second, .val (.long x1), .second, .val (.long x2), .second, .val (.long y0), .second, .val (.long y1), .second, .val (.long y2), .second, .val (.long o0), .second, .val (.long o1), .second, .val (.long o2), .second, .unset, .unset, .unset, .unset, .unset, .unset, .unset, .unset, .unset] [(.int (3 : Int32)), (.ref b), (.ref t), (.ref t)])) rfl (hb hby at_42) rfl (by decide) (cap := 3) (by decide) (by decide) (by decide) (by decide) (ad := "[J") (by decide)
  obtain ⟨b2, s_b2⟩ : ∃ z, z = h23.size := ⟨_, rfl⟩
  rw [← s_b2] at A26 B26 st26
  have g_b2 : n0 ≤ b2 := Nat.le_trans (Nat.le_trans (Nat.le_trans (Nat.le_trans (Nat.le_trans (Nat.le_trans Z0 E11.1) E14.1) (Keep.of_wr W17).1) (Keep.of_wr W20).1) (Keep.of_wr W23).1) (Nat.le_of_eq s_b2.symm)
  have S27 : Steps p.tables e below Ω (T26.setTop (mkF m 44 #[.val (.long x0), .second, .val (.long x1), .second, .val (.long x2), .second, .val (.long y0), .second, .val (.long y1), .second, .val (.long y2), .second, .val (.long o0), .second, .val (.long o1), .second, .val (.long o2), .second, .unset, .unset, .unset, .unset, .unset, .unset, .unset, .unset, .unset] [(.ref b2), (.ref b), (.ref t), (.ref t)])) := S25.trans (st26 _ (Steps.refl _))
  have V_b2_0 : LA Z h26 b2 .long [(.long (0 : Int64)), (.long (0 : Int64)), (.long (0 : Int64))] := LA.new A26 3 rfl
  have hne_t_b2 : t ≠ b2 := Nat.ne_of_lt (Nat.lt_of_lt_of_le (ET_b_2).lt (Nat.le_of_eq s_b2.symm))
  have ET_b2 := (ET_b_2).ext E26
  have FO_b2 := (FO_b_2).ext E26
  have FR_b2 := (FR_b_2).ext E26
  have hne_b_b2 : b ≠ b2 := Nat.ne_of_lt (Nat.lt_of_lt_of_le (V23).lt (Nat.le_of_eq s_b2.symm))
  have VB_b2 := (V23).ext E26
  have BB__b2 := (BB23).ext E26
  have S28 : Steps p.tables e below Ω (T26.setTop (mkF m 48 #[.val (.long x0), .second, .val (.long x1), .second, .val (.long x2), .second, .val (.long y0), .second, .val (.long y1), .second, .val (.long y2), .second, .val (.long o0), .second, .val (.long o1), .second, .val (.long o2), .second, .unset, .unset, .unset, .unset, .unset, .unset, .unset, .unset, .unset] [(.long o2), (.int (0 : Int32)), (.ref b2), (.ref b2), (.ref b), (.ref t), (.ref t)])) := by
    refine S27.trans ?_
    refine XS.dup X26.here hx rfl (hb hby at_44) rfl rfl ?_
    show Steps p.tables e below (T26.setTop (mkF m 45 #[.val (.long x0), .second, .val (.long x1), .second, .val (.long x2), .second, .val (.long y0), .second, .val (.long y1), .second, .val (.long y2), .second, .val (.long o0), .second, .val (.long o1), .second, .val (.long o2), .second, .unset, .unset, .unset, .unset, .unset, .unset, .unset, .unset, .unset] [(.ref b2), (.ref b2), (.ref b), (.ref t), (.ref t)])) _
    refine XS.iconst X26.here hx rfl (hb hby at_45) ?_
    show Steps p.tables e below (T26.setTop (mkF m 46 #[.val (.long x0), .second, .val (.long x1), .second, .val (.long x2), .second, .val (.long y0), .second, .val (.long y1), .second, .val (.long y2), .second, .val (.long o0), .second, .val (.long o1), .second, .val (.long o2), .second, .unset, .unset, .unset, .unset, .unset, .unset, .unset, .unset, .unset] [(.int (0 : Int32)), (.ref b2), (.ref b2), (.ref b), (.ref t), (.ref t)])) _
    refine XS.lload X26.here hx rfl (hb hby at_46) rfl ?_
    exact Steps.refl _
  obtain ⟨T29, h29, X29, e29, W29, V29', st29⟩ := own_stJ X26 hx hZ e26 V_b2_0 (j := (0 : Int32)) (i := 0) rfl ⟨by decide, Nat.le_of_ble_eq_true rfl⟩ (g := (mkF m 48 #[.val (.long x0), .second, .val (.long x1), .second, .val (.long x2), .second, .val (.long y0), .second, .val (.long y1), .second, .val (.long y2), .second, .val (.long o0), .second, .val (.long o1), .second, .val (.long o2), .second, .unset, .unset, .unset, .unset, .unset, .unset, .unset, .unset, .unset] [(.long o2), (.int (0 : Int32)), (.ref b2), (.ref b2), (.ref b), (.ref t), (.ref t)])) rfl rfl (hb hby at_48)
  have V29 : LA Z h29 b2 .long [(.long o2), (.long (0 : Int64)), (.long (0 : Int64))] := V29'
  have S30 : Steps p.tables e below Ω (T29.setTop (mkF m 49 #[.val (.long x0), .second, .val (.long x1), .second, .val (.long x2), .second, .val (.long y0), .second, .val (.long y1), .second, .val (.long y2), .second, .val (.long o0), .second, .val (.long o1), .second, .val (.long o2), .second, .unset, .unset, .unset, .unset, .unset, .unset, .unset, .unset, .unset] [(.ref b2), (.ref b), (.ref t), (.ref t)])) := S28.trans (st29 _ (Steps.refl _))
  have N29 := Fr.snoc X29 N23 g_b2
  have BB29 := (B26).wr W29
  have ET_b2_0 := (ET_b2).wr W29
  have FO_b2_0 := (FO_b2).other W29 (Or.inl hne_t_b2)
  have FR_b2_0 := (FR_b2).other W29 (Or.inl hne_t_b2)
  have VB_b2_0 := (VB_b2).other W29 hne_b_b2
  have BB__b2_0 := (BB__b2).wr W29
  have S31 : Steps p.tables e below Ω (T29.setTop (mkF m 53 #[.val (.long x0), .second, .val (.long x1), .second, .val (.long x2), .second, .val (.long y0), .second, .val (.long y1), .second, .val (.long y2), .second, .val (.long o0), .second, .val (.long o1), .second, .val (.long o2), .second, .unset, .unset, .unset, .unset, .unset, .unset, .unset, .unset, .unset] [(.long o0), (.int (1 : Int32)), (.ref b2), (.ref b2), (.ref b), (.ref t), (.ref t)])) := by
    refine S30.trans ?_
    refine XS.dup X29.here hx rfl (hb hby at_49) rfl rfl ?_
    show Steps p.tables e below (T29.setTop (mkF m 50 #[.val (.long x0), .second, .val (.long x1), .second, .val (.long x2), .second, .val (.long y0), .second, .val (.long y1), .second, .val (.long y2), .second, .val (.long o0), .second, .val (.long o1), .second, .val (.long o2), .second, .unset, .unset, .unset, .unset, .unset, .unset, .unset, .unset, .unset] [(.ref b2), (.ref b2), (.ref b), (.ref t), (.ref t)])) _
    refine XS.iconst X29.here hx rfl (hb hby at_50) ?_
    show Steps p.tables e below (T29.setTop (mkF m 51 #[.val (.long x0), .second, .val (.long x1), .second, .val (.long x2), .second, .val (.long y0), .second, .val (.long y1), .second, .val (.long y2), .second, .val (.long o0), .second, .val (.long o1), .second, .val (.long o2), .second, .unset, .unset, .unset, .unset, .unset, .unset, .unset, .unset, .unset] [(.int (1 : Int32)), (.ref b2), (.ref b2), (.ref b), (.ref t), (.ref t)])) _
    refine XS.lload X29.here hx rfl (hb hby at_51) rfl ?_
    exact Steps.refl _
  obtain ⟨T32, h32, X32, e32, W32, V32', st32⟩ := own_stJ X29 hx hZ e29 V29 (j := (1 : Int32)) (i := 1) rfl ⟨by decide, Nat.le_of_ble_eq_true rfl⟩ (g := (mkF m 53 #[.val (.long x0), .second, .val (.long x1), .second, .val (.long x2), .second, .val (.long y0), .second, .val (.long y1), .second, .val (.long y2), .second, .val (.long o0), .second, .val (.long o1), .second, .val (.long o2), .second, .unset, .unset, .unset, .unset, .unset, .unset, .unset, .unset, .unset] [(.long o0), (.int (1 : Int32)), (.ref b2), (.ref b2), (.ref b), (.ref t), (.ref t)])) rfl rfl (hb hby at_53)
  have V32 : LA Z h32 b2 .long [(.long o2), (.long o0), (.long (0 : Int64))] := V32'
  have S33 : Steps p.tables e below Ω (T32.setTop (mkF m 54 #[.val (.long x0), .second, .val (.long x1), .second, .val (.long x2), .second, .val (.long y0), .second, .val (.long y1), .second, .val (.long y2), .second, .val (.long o0), .second, .val (.long o1), .second, .val (.long o2), .second, .unset, .unset, .unset, .unset, .unset, .unset, .unset, .unset, .unset] [(.ref b2), (.ref b), (.ref t), (.ref t)])) := S31.trans (st32 _ (Steps.refl _))
  have N32 := Fr.snoc X32 N29 g_b2
  have BB32 := (BB29).wr W32
  have ET_b2_1 := (ET_b2_0).wr W32
  have FO_b2_1 := (FO_b2_0).other W32 (Or.inl hne_t_b2)
  have FR_b2_1 := (FR_b2_0).other W32 (Or.inl hne_t_b2)
  have VB_b2_1 := (VB_b2_0).other W32 hne_b_b2
  have BB__b2_1 := (BB__b2_0).wr W32
  have S34 : Steps p.tables e below Ω (T32.setTop (mkF m 58 #[.val (.long x0), .second, .val (.long x1), .second, .val (.long x2), .second, .val (.long y0), .second, .val (.long y1), .second, .val (.long y2), .second, .val (.long o0), .second, .val (.long o1), .second, .val (.long o2), .second, .unset, .unset, .unset, .unset, .unset, .unset, .unset, .unset, .unset] [(.long o1), (.int (2 : Int32)), (.ref b2), (.ref b2), (.ref b), (.ref t), (.ref t)])) := by
    refine S33.trans ?_
    refine XS.dup X32.here hx rfl (hb hby at_54) rfl rfl ?_
    show Steps p.tables e below (T32.setTop (mkF m 55 #[.val (.long x0), .second, .val (.long x1), .second, .val (.long x2), .second, .val (.long y0), .second, .val (.long y1), .second, .val (.long y2), .second, .val (.long o0), .second, .val (.long o1), .second, .val (.long o2), .second, .unset, .unset, .unset, .unset, .unset, .unset, .unset, .unset, .unset] [(.ref b2), (.ref b2), (.ref b), (.ref t), (.ref t)])) _
    refine XS.iconst X32.here hx rfl (hb hby at_55) ?_
    show Steps p.tables e below (T32.setTop (mkF m 56 #[.val (.long x0), .second, .val (.long x1), .second, .val (.long x2), .second, .val (.long y0), .second, .val (.long y1), .second, .val (.long y2), .second, .val (.long o0), .second, .val (.long o1), .second, .val (.long o2), .second, .unset, .unset, .unset, .unset, .unset, .unset, .unset, .unset, .unset] [(.int (2 : Int32)), (.ref b2), (.ref b2), (.ref b), (.ref t), (.ref t)])) _
    refine XS.lload X32.here hx rfl (hb hby at_56) rfl ?_
    exact Steps.refl _
  obtain ⟨T35, h35, X35, e35, W35, V35', st35⟩ := own_stJ X32 hx hZ e32 V32 (j := (2 : Int32)) (i := 2) rfl ⟨by decide, Nat.le_of_ble_eq_true rfl⟩ (g := (mkF m 58 #[.val (.long x0), .second, .val (.long x1), .second, .val (.long x2), .second, .val (.long y0), .second, .val (.long y1), .second, .val (.long y2), .second, .val (.long o0), .second, .val (.long o1), .second, .val (.long o2), .second, .unset, .unset, .unset, .unset, .unset, .unset, .unset, .unset, .unset] [(.long o1), (.int (2 : Int32)), (.ref b2), (.ref b2), (.ref b), (.ref t), (.ref t)])) rfl rfl (hb hby at_58)
  have V35 : LA Z h35 b2 .long [(.long o2), (.long o0), (.long o1)] := V35'
  have S36 : Steps p.tables e below Ω (T35.setTop (mkF m 59 #[.val (.long x0), .second, .val (.long x1), .second, .val (.long x2), .second, .val (.long y0), .second, .val (.long y1), .second, .val (.long y2), .second, .val (.long o0), .second, .val (.long o1), .second, .val (.long o2), .second, .unset, .unset, .unset, .unset, .unset, .unset, .unset, .unset, .unset] [(.ref b2), (.ref b), (.ref t), (.ref t)])) := S34.trans (st35 _ (Steps.refl _))
  have N35 := Fr.snoc X35 N32 g_b2
  have BB35 := (BB32).wr W35
  have ET_b2_2 := (ET_b2_1).wr W35
  have FO_b2_2 := (FO_b2_1).other W35 (Or.inl hne_t_b2)
  have FR_b2_2 := (FR_b2_1).other W35 (Or.inl hne_t_b2)
  have VB_b2_2 := (VB_b2_1).other W35 hne_b_b2
  have BB__b2_2 := (BB__b2_1).wr W35
  have VV : LA Z h35 b .long (List.map Value.long [o0, o1, o2]) := VB_b2_2
  have UU : LA Z h35 b2 .long (List.map Value.long [o2, o0, o1]) := V35
  obtain ⟨_, _, ⟨T37, L37, k37, n37⟩, -, X37, hSn37, hgr37, ⟨Lc37, hQ37, l37, y37, z37⟩, st37⟩ := X35.specialBackS hx (y := (⟨"com/example/ingest/ingest/common/GroupProgress", "<init>", "([J[J)V"⟩ : MethodName)) rfl hown (mvT hZ (hw _ (List.mem_of_getElem? (i := 9) rfl))) (mvT hZ (hw _ (List.mem_of_getElem? (i := 10) rfl))) (mvT hZ (hw _ (List.mem_of_getElem? (i := 11) rfl))) (by decide) (backOfS (W := 1) (rm2 l Z a0 hw [] t b b2 [o0, o1, o2] [o2, o0, o1] h35 n0 (Nat.le_trans (Nat.le_trans (Nat.le_trans (Nat.le_trans (Nat.le_trans (Nat.le_trans (Nat.le_trans (Nat.le_trans (Nat.le_trans Z0 E11.1) E14.1) (Keep.of_wr W17).1) (Keep.of_wr W20).1) (Keep.of_wr W23).1) E26.1) (Keep.of_wr W29).1) (Keep.of_wr W32).1) (Keep.of_wr W35).1) ET_b2_2 FO_b2_2 FR_b2_2 g_t VV UU BB__b2_2 BB35 rfl rfl (own_three o0 o1 o2 ho0 ho1 ho2) (own_three o2 o0 o1 ho2 ho0 ho1)) hZ (hw _ (List.mem_of_getElem? (i := 11) rfl)) (hw _ (List.mem_of_getElem? (i := 7) rfl)) (by decide) (by decide)) (g := (mkF m 59 #[.val (.long x0), .second, .val (.long x1), .second, .val (.long x2), .second, .val (.long y0), .second, .val (.long y1), .second, .val (.long y2), .second, .val (.long o0), .second, .val (.long o1), .second, .val (.long o2), .second, .unset, .unset, .unset, .unset, .unset, .unset, .unset, .unset, .unset] [(.ref b2), (.ref b), (.ref t), (.ref t)])) rfl (by rw [hml]; rfl) (Steps.refl _) (a := t) (argsL := [(.ref b), (.ref b2)]) (rest := [(.ref t)]) (lenOf pd_5 rfl) rfl (by show 2 * 0 + _ ≤ _; exact Nat.le_of_eq rfl) (hb hby at_59) (fun _ _ => ⟨rfl, e35, (by decide : 3 + 6 ≤ _), (by decide : 8 + 86 ≤ _)⟩)
  dsimp only [Pt.U, Pt.locs, Pt.cells, Pt.slots] at X37 l37 y37 z37 st37 hQ37 hSn37 hgr37
  subst l37 y37 z37
  have hS37 : s.Since T37.vm T37.heap.size := State.Since.trans (vm₁ := s.vm) hS0 hSn37 (Nat.le_trans (Nat.le_trans (Nat.le_trans (Nat.le_trans (Nat.le_trans (Nat.le_trans (Nat.le_trans (Nat.le_trans (Nat.le_trans (Nat.le_trans (Nat.le_refl h0.size) E11.1) E14.1) (Keep.of_wr W17).1) (Keep.of_wr W20).1) (Keep.of_wr W23).1) E26.1) (Keep.of_wr W29).1) (Keep.of_wr W32).1) (Keep.of_wr W35).1) (by rw [← e35]; exact hgr37))
  have hZ : Z.Warmed39 T37.vm := State.Warmed39.trans (t := s) hZ hSn37.1
  have hown : (s.setVm T37.vm).vm.findClass "com/example/ingest/ingest/common/GroupProgressLag275PinLaw" = some m.cls := by rw [show (s.setVm T37.vm).vm = T37.vm from rfl, hSn37.1.alike.findClass]; exact hown
  have X37 : Stand p l e room_1 (s.setVm T37.vm) m #[(.long x0), (.long x1), (.long x2), (.long y0), (.long y1), (.long y2)] below meth c T37 _ _ _ := X37
  obtain ⟨cA, rfl, N37q, K37, E37, F1, LA1⟩ := hQ37
  have N37 := Fr.app N35 N37q
  have S38 : Steps p.tables e below Ω (T37.setTop (mkF m 62 #[.val (.long x0), .second, .val (.long x1), .second, .val (.long x2), .second, .val (.long y0), .second, .val (.long y1), .second, .val (.long y2), .second, .val (.long o0), .second, .val (.long o1), .second, .val (.long o2), .second, .unset, .unset, .unset, .unset, .unset, .unset, .unset, .unset, .unset] [(.ref t)])) := S36.trans st37
  have S39 : Steps p.tables e below Ω (T37.setTop (mkF m 64 #[.val (.long x0), .second, .val (.long x1), .second, .val (.long x2), .second, .val (.long y0), .second, .val (.long y1), .second, .val (.long y2), .second, .val (.long o0), .second, .val (.long o1), .second, .val (.long o2), .second, .val (.ref t), .unset, .unset, .unset, .unset, .unset, .unset, .unset, .unset] [])) := by
    refine S38.trans ?_
    refine XS.astore X37.here hx rfl (hb hby at_62) rfl rfl (l' := #[.val (.long x0), .second, .val (.long x1), .second, .val (.long x2), .second, .val (.long y0), .second, .val (.long y1), .second, .val (.long y2), .second, .val (.long o0), .second, .val (.long o1), .second, .val (.long o2), .second, .val (.ref t), .unset, .unset, .unset, .unset, .unset, .unset, .unset, .unset]) rfl ?_
    exact Steps.refl _
  obtain ⟨T40, h40, X40, e40, E40, A40, D40, -, st40⟩ := newO X37 hx hZ hown (hw _ (List.mem_of_getElem? (i := 45) rfl)) (hw _ (List.mem_of_getElem? (i := 46) rfl)) (hw _ (List.mem_of_getElem? (i := 47) rfl)) rfl (g := (mkF m 64 #[.val (.long x0), .second, .val (.long x1), .second, .val (.long x2), .second, .val (.long y0), .second, .val (.long y1), .second, .val (.long y2), .second, .val (.long o0), .second, .val (.long o1), .second, .val (.long o2), .second, .val (.ref t), .unset, .unset, .unset, .unset, .unset, .unset, .unset, .unset] [])) rfl (hb hby at_64) (by decide) (by decide)
  obtain ⟨u, s_u⟩ : ∃ z, z = T37.heap.size := ⟨_, rfl⟩
  rw [← s_u] at A40 D40 st40
  have g_u : n0 ≤ u := Nat.le_trans (Nat.le_trans (Nat.le_trans (Nat.le_trans (Nat.le_trans (Nat.le_trans (Nat.le_trans (Nat.le_trans (Nat.le_trans (Nat.le_trans (Nat.le_trans Z0 E11.1) E14.1) (Keep.of_wr W17).1) (Keep.of_wr W20).1) (Keep.of_wr W23).1) E26.1) (Keep.of_wr W29).1) (Keep.of_wr W32).1) (Keep.of_wr W35).1) K37.1) (Nat.le_of_eq s_u.symm)
  have F_endOffsets_u : Fld Z h40 u "com/example/ingest/ingest/common/TopicInfo" "endOffsets" "[J" .null := D40 (Or.inr (hw _ (List.mem_of_getElem? (i := 55) rfl))) (ty := (.array .long)) (by decide)
  have S41 : Steps p.tables e below Ω (T40.setTop (mkF m 67 #[.val (.long x0), .second, .val (.long x1), .second, .val (.long x2), .second, .val (.long y0), .second, .val (.long y1), .second, .val (.long y2), .second, .val (.long o0), .second, .val (.long o1), .second, .val (.long o2), .second, .val (.ref t), .unset, .unset, .unset, .unset, .unset, .unset, .unset, .unset] [(.ref u)])) := S39.trans (st40 _ (Steps.refl _))
  have Et0 := E37.ext E40
  have F10 := F1.ext E40
  have LA0 := LA1.ext E40
  have S42 : Steps p.tables e below Ω (T40.setTop (mkF m 69 #[.val (.long x0), .second, .val (.long x1), .second, .val (.long x2), .second, .val (.long y0), .second, .val (.long y1), .second, .val (.long y2), .second, .val (.long o0), .second, .val (.long o1), .second, .val (.long o2), .second, .val (.ref t), .unset, .unset, .unset, .unset, .unset, .unset, .unset, .unset] [(.int (3 : Int32)), (.ref u), (.ref u)])) := by
    refine S41.trans ?_
    refine XS.dup X40.here hx rfl (hb hby at_67) rfl rfl ?_
    show Steps p.tables e below (T40.setTop (mkF m 68 #[.val (.long x0), .second, .val (.long x1), .second, .val (.long x2), .second, .val (.long y0), .second, .val (.long y1), .second, .val (.long y2), .second, .val (.long o0), .second, .val (.long o1), .second, .val (.long o2), .second, .val (.ref t), .unset, .unset, .unset, .unset, .unset, .unset, .unset, .unset] [(.ref u), (.ref u)])) _
    refine XS.iconst X40.here hx rfl (hb hby at_68) ?_
    exact Steps.refl _
  obtain ⟨T43, h43, k43, X43, e43, E43, A43, B43, st43⟩ := newPE X40 hx hZ (hw _ (List.mem_of_getElem? (i := 8) rfl)) e40 (g := (mkF m 69 #[.val (.long x0), .second, .val (.long x1), .second, .val (.long x2), .second, .val (.long y0), .second, .val (.long y1), .second, .val (.long y2), .second, .val (.long o0), .second, .val (.long o1), .second, .val (.long o2), .second, .val (.ref t), .unset, .unset, .unset, .unset, .unset, .unset, .unset, .unset] [(.int (3 : Int32)), (.ref u), (.ref u)])) rfl (hb hby at_69) rfl (by decide) (cap := 3) (by decide) (by decide) (by decide) (by decide) (ad := "[J") (by decide)
  obtain ⟨b3, s_b3⟩ : ∃ z, z = h40.size := ⟨_, rfl⟩
  rw [← s_b3] at A43 B43 st43
  have g_b3 : n0 ≤ b3 := Nat.le_trans (Nat.le_trans (Nat.le_trans (Nat.le_trans (Nat.le_trans (Nat.le_trans (Nat.le_trans (Nat.le_trans (Nat.le_trans (Nat.le_trans (Nat.le_trans (Nat.le_trans Z0 E11.1) E14.1) (Keep.of_wr W17).1) (Keep.of_wr W20).1) (Keep.of_wr W23).1) E26.1) (Keep.of_wr W29).1) (Keep.of_wr W32).1) (Keep.of_wr W35).1) K37.1) E40.1) (Nat.le_of_eq s_b3.symm)
  have S44 : Steps p.tables e below Ω (T43.setTop (mkF m 71 #[.val (.long x0), .second, .val (.long x1), .second, .val (.long x2), .second, .val (.long y0), .second, .val (.long y1), .second, .val (.long y2), .second, .val (.long o0), .second, .val (.long o1), .second, .val (.long o2), .second, .val (.ref t), .unset, .unset, .unset, .unset, .unset, .unset, .unset, .unset] [(.ref b3), (.ref u), (.ref u)])) := S42.trans (st43 _ (Steps.refl _))
  have V_b3_0 : LA Z h43 b3 .long [(.long (0 : Int64)), (.long (0 : Int64)), (.long (0 : Int64))] := LA.new A43 3 rfl
  have hne_u_b3 : u ≠ b3 := Nat.ne_of_lt (Nat.lt_of_lt_of_le (A40).lt (Nat.le_of_eq s_b3.symm))
  have EU_b3 := (A40).ext E43
  have FU_b3 := (F_endOffsets_u).ext E43
  have hne_t_b3 : t ≠ b3 := Nat.ne_of_lt (Nat.lt_of_lt_of_le (Et0).lt (Nat.le_of_eq s_b3.symm))
  have EY_b3 := (Et0).ext E43
  have FY_b3 := (F10).ext E43
  have hne_cA_b3 : cA ≠ b3 := Nat.ne_of_lt (Nat.lt_of_lt_of_le (LA0).lt (Nat.le_of_eq s_b3.symm))
  have LY_b3 := (LA0).ext E43
  have S45 : Steps p.tables e below Ω (T43.setTop (mkF m 75 #[.val (.long x0), .second, .val (.long x1), .second, .val (.long x2), .second, .val (.long y0), .second, .val (.long y1), .second, .val (.long y2), .second, .val (.long o0), .second, .val (.long o1), .second, .val (.long o2), .second, .val (.ref t), .unset, .unset, .unset, .unset, .unset, .unset, .unset, .unset] [(.long y0), (.int (0 : Int32)), (.ref b3), (.ref b3), (.ref u), (.ref u)])) := by
    refine S44.trans ?_
    refine XS.dup X43.here hx rfl (hb hby at_71) rfl rfl ?_
    show Steps p.tables e below (T43.setTop (mkF m 72 #[.val (.long x0), .second, .val (.long x1), .second, .val (.long x2), .second, .val (.long y0), .second, .val (.long y1), .second, .val (.long y2), .second, .val (.long o0), .second, .val (.long o1), .second, .val (.long o2), .second, .val (.ref t), .unset, .unset, .unset, .unset, .unset, .unset, .unset, .unset] [(.ref b3), (.ref b3), (.ref u), (.ref u)])) _
    refine XS.iconst X43.here hx rfl (hb hby at_72) ?_
    show Steps p.tables e below (T43.setTop (mkF m 73 #[.val (.long x0), .second, .val (.long x1), .second, .val (.long x2), .second, .val (.long y0), .second, .val (.long y1), .second, .val (.long y2), .second, .val (.long o0), .second, .val (.long o1), .second, .val (.long o2), .second, .val (.ref t), .unset, .unset, .unset, .unset, .unset, .unset, .unset, .unset] [(.int (0 : Int32)), (.ref b3), (.ref b3), (.ref u), (.ref u)])) _
    refine XS.lload X43.here hx rfl (hb hby at_73) rfl ?_
    exact Steps.refl _
  obtain ⟨T46, h46, X46, e46, W46, V46', st46⟩ := own_stJ X43 hx hZ e43 V_b3_0 (j := (0 : Int32)) (i := 0) rfl ⟨by decide, Nat.le_of_ble_eq_true rfl⟩ (g := (mkF m 75 #[.val (.long x0), .second, .val (.long x1), .second, .val (.long x2), .second, .val (.long y0), .second, .val (.long y1), .second, .val (.long y2), .second, .val (.long o0), .second, .val (.long o1), .second, .val (.long o2), .second, .val (.ref t), .unset, .unset, .unset, .unset, .unset, .unset, .unset, .unset] [(.long y0), (.int (0 : Int32)), (.ref b3), (.ref b3), (.ref u), (.ref u)])) rfl rfl (hb hby at_75)
  have V46 : LA Z h46 b3 .long [(.long y0), (.long (0 : Int64)), (.long (0 : Int64))] := V46'
  have S47 : Steps p.tables e below Ω (T46.setTop (mkF m 76 #[.val (.long x0), .second, .val (.long x1), .second, .val (.long x2), .second, .val (.long y0), .second, .val (.long y1), .second, .val (.long y2), .second, .val (.long o0), .second, .val (.long o1), .second, .val (.long o2), .second, .val (.ref t), .unset, .unset, .unset, .unset, .unset, .unset, .unset, .unset] [(.ref b3), (.ref u), (.ref u)])) := S45.trans (st46 _ (Steps.refl _))
  have N46 := Fr.snoc X46 N37 g_b3
  have BB46 := (B43).wr W46
  have EU_b3_0 := (EU_b3).wr W46
  have FU_b3_0 := (FU_b3).other W46 (Or.inl hne_u_b3)
  have EY_b3_0 := (EY_b3).wr W46
  have FY_b3_0 := (FY_b3).other W46 (Or.inl hne_t_b3)
  have LY_b3_0 := (LY_b3).other W46 hne_cA_b3
  have S48 : Steps p.tables e below Ω (T46.setTop (mkF m 80 #[.val (.long x0), .second, .val (.long x1), .second, .val (.long x2), .second, .val (.long y0), .second, .val (.long y1), .second, .val (.long y2), .second, .val (.long o0), .second, .val (.long o1), .second, .val (.long o2), .second, .val (.ref t), .unset, .unset, .unset, .unset, .unset, .unset, .unset, .unset] [(.long y1), (.int (1 : Int32)), (.ref b3), (.ref b3), (.ref u), (.ref u)])) := by
    refine S47.trans ?_
    refine XS.dup X46.here hx rfl (hb hby at_76) rfl rfl ?_
    show Steps p.tables e below (T46.setTop (mkF m 77 #[.val (.long x0), .second, .val (.long x1), .second, .val (.long x2), .second, .val (.long y0), .second, .val (.long y1), .second, .val (.long y2), .second, .val (.long o0), .second, .val (.long o1), .second, .val (.long o2), .second, .val (.ref t), .unset, .unset, .unset, .unset, .unset, .unset, .unset, .unset] [(.ref b3), (.ref b3), (.ref u), (.ref u)])) _
    refine XS.iconst X46.here hx rfl (hb hby at_77) ?_
    show Steps p.tables e below (T46.setTop (mkF m 78 #[.val (.long x0), .second, .val (.long x1), .second, .val (.long x2), .second, .val (.long y0), .second, .val (.long y1), .second, .val (.long y2), .second, .val (.long o0), .second, .val (.long o1), .second, .val (.long o2), .second, .val (.ref t), .unset, .unset, .unset, .unset, .unset, .unset, .unset, .unset] [(.int (1 : Int32)), (.ref b3), (.ref b3), (.ref u), (.ref u)])) _
    refine XS.lload X46.here hx rfl (hb hby at_78) rfl ?_
    exact Steps.refl _
  obtain ⟨T49, h49, X49, e49, W49, V49', st49⟩ := own_stJ X46 hx hZ e46 V46 (j := (1 : Int32)) (i := 1) rfl ⟨by decide, Nat.le_of_ble_eq_true rfl⟩ (g := (mkF m 80 #[.val (.long x0), .second, .val (.long x1), .second, .val (.long x2), .second, .val (.long y0), .second, .val (.long y1), .second, .val (.long y2), .second, .val (.long o0), .second, .val (.long o1), .second, .val (.long o2), .second, .val (.ref t), .unset, .unset, .unset, .unset, .unset, .unset, .unset, .unset] [(.long y1), (.int (1 : Int32)), (.ref b3), (.ref b3), (.ref u), (.ref u)])) rfl rfl (hb hby at_80)
  have V49 : LA Z h49 b3 .long [(.long y0), (.long y1), (.long (0 : Int64))] := V49'
  have S50 : Steps p.tables e below Ω (T49.setTop (mkF m 81 #[.val (.long x0), .second, .val (.long x1), .second, .val (.long x2), .second, .val (.long y0), .second, .val (.long y1), .second, .val (.long y2), .second, .val (.long o0), .second, .val (.long o1), .second, .val (.long o2), .second, .val (.ref t), .unset, .unset, .unset, .unset, .unset, .unset, .unset, .unset] [(.ref b3), (.ref u), (.ref u)])) := S48.trans (st49 _ (Steps.refl _))
  have N49 := Fr.snoc X49 N46 g_b3
  have BB49 := (BB46).wr W49
  have EU_b3_1 := (EU_b3_0).wr W49
  have FU_b3_1 := (FU_b3_0).other W49 (Or.inl hne_u_b3)
  have EY_b3_1 := (EY_b3_0).wr W49
  have FY_b3_1 := (FY_b3_0).other W49 (Or.inl hne_t_b3)
  have LY_b3_1 := (LY_b3_0).other W49 hne_cA_b3
  have S51 : Steps p.tables e below Ω (T49.setTop (mkF m 85 #[.val (.long x0), .second, .val (.long x1), .second, .val (.long x2), .second, .val (.long y0), .second, .val (.long y1), .second, .val (.long y2), .second, .val (.long o0), .second, .val (.long o1), .second, .val (.long o2), .second, .val (.ref t), .unset, .unset, .unset, .unset, .unset, .unset, .unset, .unset] [(.long y2), (.int (2 : Int32)), (.ref b3), (.ref b3), (.ref u), (.ref u)])) := by
    refine S50.trans ?_
    refine XS.dup X49.here hx rfl (hb hby at_81) rfl rfl ?_
    show Steps p.tables e below (T49.setTop (mkF m 82 #[.val (.long x0), .second, .val (.long x1), .second, .val (.long x2), .second, .val (.long y0), .second, .val (.long y1), .second, .val (.long y2), .second, .val (.long o0), .second, .val (.long o1), .second, .val (.long o2), .second, .val (.ref t), .unset, .unset, .unset, .unset, .unset, .unset, .unset, .unset] [(.ref b3), (.ref b3), (.ref u), (.ref u)])) _
    refine XS.iconst X49.here hx rfl (hb hby at_82) ?_
    show Steps p.tables e below (T49.setTop (mkF m 83 #[.val (.long x0), .second, .val (.long x1), .second, .val (.long x2), .second, .val (.long y0), .second, .val (.long y1), .second, .val (.long y2), .second, .val (.long o0), .second, .val (.long o1), .second, .val (.long o2), .second, .val (.ref t), .unset, .unset, .unset, .unset, .unset, .unset, .unset, .unset] [(.int (2 : Int32)), (.ref b3), (.ref b3), (.ref u), (.ref u)])) _
    refine XS.lload X49.here hx rfl (hb hby at_83) rfl ?_
    exact Steps.refl _
  obtain ⟨T52, h52, X52, e52, W52, V52', st52⟩ := own_stJ X49 hx hZ e49 V49 (j := (2 : Int32)) (i := 2) rfl ⟨by decide, Nat.le_of_ble_eq_true rfl⟩ (g := (mkF m 85 #[.val (.long x0), .second, .val (.long x1), .second, .val (.long x2), .second, .val (.long y0), .second, .val (.long y1), .second, .val (.long y2), .second, .val (.long o0), .second, .val (.long o1), .second, .val (.long o2), .second, .val (.ref t), .unset, .unset, .unset, .unset, .unset, .unset, .unset, .unset] [(.long y2), (.int (2 : Int32)), (.ref b3), (.ref b3), (.ref u), (.ref u)])) rfl rfl (hb hby at_85)
  have V52 : LA Z h52 b3 .long [(.long y0), (.long y1), (.long y2)] := V52'
  have S53 : Steps p.tables e below Ω (T52.setTop (mkF m 86 #[.val (.long x0), .second, .val (.long x1), .second, .val (.long x2), .second, .val (.long y0), .second, .val (.long y1), .second, .val (.long y2), .second, .val (.long o0), .second, .val (.long o1), .second, .val (.long o2), .second, .val (.ref t), .unset, .unset, .unset, .unset, .unset, .unset, .unset, .unset] [(.ref b3), (.ref u), (.ref u)])) := S51.trans (st52 _ (Steps.refl _))
  have N52 := Fr.snoc X52 N49 g_b3
  have BB52 := (BB49).wr W52
  have EU_b3_2 := (EU_b3_1).wr W52
  have FU_b3_2 := (FU_b3_1).other W52 (Or.inl hne_u_b3)
  have EY_b3_2 := (EY_b3_1).wr W52
  have FY_b3_2 := (FY_b3_1).other W52 (Or.inl hne_t_b3)
  have LY_b3_2 := (LY_b3_1).other W52 hne_cA_b3
  have WW : LA Z h52 b3 .long (List.map Value.long [y0, y1, y2]) := V52
  have htu : t ≠ u := Nat.ne_of_lt (Nat.lt_of_lt_of_le E37.lt (Nat.le_of_eq s_u.symm))
  have hcu : cA ≠ u := Nat.ne_of_lt (Nat.lt_of_lt_of_le LA1.lt (Nat.le_of_eq s_u.symm))
  obtain ⟨_, _, ⟨T54, L54, k54, n54⟩, -, X54, ⟨Lc54, hQ54, l54, y54, z54⟩, st54⟩ := X52.specialBack hx (y := (⟨"com/example/ingest/ingest/common/TopicInfo", "<init>", "([J)V"⟩ : MethodName)) rfl hown (mvT hZ (hw _ (List.mem_of_getElem? (i := 48) rfl))) (mvT hZ (hw _ (List.mem_of_getElem? (i := 49) rfl))) (mvT hZ (hw _ (List.mem_of_getElem? (i := 50) rfl))) (by decide) (backOf (W := 1) (rm6 l Z a0 hw [] u b3 [y0, y1, y2] h52 n0 (Nat.le_trans (Nat.le_trans (Nat.le_trans (Nat.le_trans (Nat.le_trans (Nat.le_trans (Nat.le_trans (Nat.le_trans (Nat.le_trans (Nat.le_trans (Nat.le_trans (Nat.le_trans (Nat.le_trans (Nat.le_trans (Nat.le_trans Z0 E11.1) E14.1) (Keep.of_wr W17).1) (Keep.of_wr W20).1) (Keep.of_wr W23).1) E26.1) (Keep.of_wr W29).1) (Keep.of_wr W32).1) (Keep.of_wr W35).1) K37.1) E40.1) E43.1) (Keep.of_wr W46).1) (Keep.of_wr W49).1) (Keep.of_wr W52).1) EU_b3_2 FU_b3_2 g_u WW BB52 (Nat.le_of_ble_eq_true rfl)) hZ (hw _ (List.mem_of_getElem? (i := 50) rfl)) (hw _ (List.mem_of_getElem? (i := 47) rfl)) (by decide) (by decide)) (g := (mkF m 86 #[.val (.long x0), .second, .val (.long x1), .second, .val (.long x2), .second, .val (.long y0), .second, .val (.long y1), .second, .val (.long y2), .second, .val (.long o0), .second, .val (.long o1), .second, .val (.long o2), .second, .val (.ref t), .unset, .unset, .unset, .unset, .unset, .unset, .unset, .unset] [(.ref b3), (.ref u), (.ref u)])) rfl (by rw [hml]; rfl) (Steps.refl _) (a := u) (argsL := [(.ref b3)]) (rest := [(.ref u)]) (lenOf pd_6 rfl) rfl (by show 2 * 0 + _ ≤ _; exact Nat.le_of_eq rfl) (hb hby at_86) (fun _ _ => ⟨rfl, e52, (by decide : 11 + 1 ≤ _), (by decide : 98 + 3 ≤ _)⟩)
  dsimp only [Pt.U, Pt.locs, Pt.cells, Pt.slots] at X54 l54 y54 z54 st54 hQ54
  subst l54 y54 z54
  obtain ⟨d, rfl, N54q, K54, E54, F2, LA2⟩ := hQ54
  have N54 := Fr.app N52 N54q
  have S55 : Steps p.tables e below Ω (T54.setTop (mkF m 89 #[.val (.long x0), .second, .val (.long x1), .second, .val (.long x2), .second, .val (.long y0), .second, .val (.long y1), .second, .val (.long y2), .second, .val (.long o0), .second, .val (.long o1), .second, .val (.long o2), .second, .val (.ref t), .unset, .unset, .unset, .unset, .unset, .unset, .unset, .unset] [(.ref u)])) := S53.trans st54
  have EG := (EY_b3_2).keep K54
  have FG := (FY_b3_2).keep K54 (ninS htu nin0)
  have LG := (LY_b3_2).keep K54 (ninS hcu nin0)
  have S56 : Steps p.tables e below Ω (T54.setTop (mkF m 95 #[.val (.long x0), .second, .val (.long x1), .second, .val (.long x2), .second, .val (.long y0), .second, .val (.long y1), .second, .val (.long y2), .second, .val (.long o0), .second, .val (.long o1), .second, .val (.long o2), .second, .val (.ref t), .val (.ref u), .unset, .unset, .unset, .unset, .unset, .unset, .unset] [(.ref u), (.ref t)])) := by
    refine S55.trans ?_
    refine XS.astore X54.here hx rfl (hb hby at_89) rfl rfl (l' := #[.val (.long x0), .second, .val (.long x1), .second, .val (.long x2), .second, .val (.long y0), .second, .val (.long y1), .second, .val (.long y2), .second, .val (.long o0), .second, .val (.long o1), .second, .val (.long o2), .second, .val (.ref t), .val (.ref u), .unset, .unset, .unset, .unset, .unset, .unset, .unset]) rfl ?_
    show Steps p.tables e below (T54.setTop (mkF m 91 #[.val (.long x0), .second, .val (.long x1), .second, .val (.long x2), .second, .val (.long y0), .second, .val (.long y1), .second, .val (.long y2), .second, .val (.long o0), .second, .val (.long o1), .second, .val (.long o2), .second, .val (.ref t), .val (.ref u), .unset, .unset, .unset, .unset, .unset, .unset, .unset] [])) _
    refine XS.aload X54.here hx rfl (hb hby at_91) rfl rfl ?_
    show Steps p.tables e below (T54.setTop (mkF m 93 #[.val (.long x0), .second, .val (.long x1), .second, .val (.long x2), .second, .val (.long y0), .second, .val (.long y1), .second, .val (.long y2), .second, .val (.long o0), .second, .val (.long o1), .second, .val (.long o2), .second, .val (.ref t), .val (.ref u), .unset, .unset, .unset, .unset, .unset, .unset, .unset] [(.ref t)])) _
    refine XS.aload X54.here hx rfl (hb hby at_93) rfl rfl ?_
    exact Steps.refl _
  obtain ⟨cq57, kq57, q57a, q57b, q57c⟩ := isOf hZ rfl EG
  obtain ⟨_, _, ⟨T57, L57, k57, n57⟩, -, X57, ⟨Lc57, hQ57, l57, y57, z57⟩, st57⟩ := X54.virtualBack hx (y := (⟨"com/example/ingest/ingest/common/GroupProgress", "lag", "(Lcom/example/ingest/ingest/common/TopicInfo;)J"⟩ : MethodName)) (z := (⟨"com/example/ingest/ingest/common/GroupProgress", "lag", "(Lcom/example/ingest/ingest/common/TopicInfo;)J"⟩ : MethodName)) hown (mvT hZ (hw _ (List.mem_of_getElem? (i := 56) rfl))) (mvT hZ (hw _ (List.mem_of_getElem? (i := 57) rfl))) (notFace_of_selects (args := #[]) (mvT hZ (hw _ (List.mem_of_getElem? (i := 59) rfl)))) (mvT hZ (hw _ (List.mem_of_getElem? (i := 59) rfl))) (mvT hZ (hw _ (List.mem_of_getElem? (i := 58) rfl))) (by decide) (backOf (W := 0) (rm7 l Z a0 hw [] t u cA d o0 o1 o2 y0 y1 y2 T54.heap n0 (Nat.le_trans (Nat.le_trans (Nat.le_trans (Nat.le_trans (Nat.le_trans (Nat.le_trans (Nat.le_trans (Nat.le_trans (Nat.le_trans (Nat.le_trans (Nat.le_trans (Nat.le_trans (Nat.le_trans (Nat.le_trans (Nat.le_trans (Nat.le_trans Z0 E11.1) E14.1) (Keep.of_wr W17).1) (Keep.of_wr W20).1) (Keep.of_wr W23).1) E26.1) (Keep.of_wr W29).1) (Keep.of_wr W32).1) (Keep.of_wr W35).1) K37.1) E40.1) E43.1) (Keep.of_wr W46).1) (Keep.of_wr W49).1) (Keep.of_wr W52).1) K54.1) EG E54 FG F2 LG LA2) hZ (hw _ (List.mem_of_getElem? (i := 60) rfl)) (hw _ (List.mem_of_getElem? (i := 7) rfl)) (by decide) (by decide)) q57a q57c (g := (mkF m 95 #[.val (.long x0), .second, .val (.long x1), .second, .val (.long x2), .second, .val (.long y0), .second, .val (.long y1), .second, .val (.long y2), .second, .val (.long o0), .second, .val (.long o1), .second, .val (.long o2), .second, .val (.ref t), .val (.ref u), .unset, .unset, .unset, .unset, .unset, .unset, .unset] [(.ref u), (.ref t)])) rfl (by rw [hml]; rfl) (Steps.refl _) (argsL := [(.ref u)]) (rest := []) (lenOf pd_7 rfl) rfl (by show 2 * 0 + _ ≤ _; exact Nat.le_of_eq rfl) (hb hby at_95) (fun _ _ => ⟨rfl, rfl, (by decide : 12 + 0 ≤ _), (by decide : 101 + 0 ≤ _)⟩)
  dsimp only [Pt.U, Pt.locs, Pt.cells, Pt.slots] at X57 l57 y57 z57 st57 hQ57
  subst l57 y57 z57
  obtain ⟨rfl, N57q, e57⟩ := hQ57
  have N57 := Fr.app N54 N57q
  have S58 : Steps p.tables e below Ω (T57.setTop (mkF m 98 #[.val (.long x0), .second, .val (.long x1), .second, .val (.long x2), .second, .val (.long y0), .second, .val (.long y1), .second, .val (.long y2), .second, .val (.long o0), .second, .val (.long o1), .second, .val (.long o2), .second, .val (.ref t), .val (.ref u), .unset, .unset, .unset, .unset, .unset, .unset, .unset] [(.long (own_tot o0 o1 o2 y0 y1 y2))])) := S56.trans st57
  have S59 : Steps p.tables e below Ω (T57.setTop (mkF m 104 #[.val (.long x0), .second, .val (.long x1), .second, .val (.long x2), .second, .val (.long y0), .second, .val (.long y1), .second, .val (.long y2), .second, .val (.long o0), .second, .val (.long o1), .second, .val (.long o2), .second, .val (.ref t), .val (.ref u), .val (.long (own_tot o0 o1 o2 y0 y1 y2)), .second, .unset, .unset, .unset, .unset, .unset] [(.int (lcmpW o0 (0 : Int64)))])) := by
    refine S58.trans ?_
    refine XS.lstore X57.here hx rfl (hb hby at_98) rfl (l' := #[.val (.long x0), .second, .val (.long x1), .second, .val (.long x2), .second, .val (.long y0), .second, .val (.long y1), .second, .val (.long y2), .second, .val (.long o0), .second, .val (.long o1), .second, .val (.long o2), .second, .val (.ref t), .val (.ref u), .val (.long (own_tot o0 o1 o2 y0 y1 y2)), .second, .unset, .unset, .unset, .unset, .unset]) rfl ?_
    show Steps p.tables e below (T57.setTop (mkF m 100 #[.val (.long x0), .second, .val (.long x1), .second, .val (.long x2), .second, .val (.long y0), .second, .val (.long y1), .second, .val (.long y2), .second, .val (.long o0), .second, .val (.long o1), .second, .val (.long o2), .second, .val (.ref t), .val (.ref u), .val (.long (own_tot o0 o1 o2 y0 y1 y2)), .second, .unset, .unset, .unset, .unset, .unset] [])) _
    refine XS.lload X57.here hx rfl (hb hby at_100) rfl ?_
    show Steps p.tables e below (T57.setTop (mkF m 102 #[.val (.long x0), .second, .val (.long x1), .second, .val (.long x2), .second, .val (.long y0), .second, .val (.long y1), .second, .val (.long y2), .second, .val (.long o0), .second, .val (.long o1), .second, .val (.long o2), .second, .val (.ref t), .val (.ref u), .val (.long (own_tot o0 o1 o2 y0 y1 y2)), .second, .unset, .unset, .unset, .unset, .unset] [(.long o0)])) _
    refine XS.lconst X57.here hx rfl (hb hby at_102) ?_
    show Steps p.tables e below (T57.setTop (mkF m 103 #[.val (.long x0), .second, .val (.long x1), .second, .val (.long x2), .second, .val (.long y0), .second, .val (.long y1), .second, .val (.long y2), .second, .val (.long o0), .second, .val (.long o1), .second, .val (.long o2), .second, .val (.ref t), .val (.ref u), .val (.long (own_tot o0 o1 o2 y0 y1 y2)), .second, .unset, .unset, .unset, .unset, .unset] [(.long (0 : Int64)), (.long o0)])) _
    refine XS.lcmp X57.here hx rfl (hb hby at_103) rfl ?_
    exact Steps.refl _
  obtain ⟨st, h_st, S63⟩ : ∃ (st : Int32), st = (if o0 < (0 : Int64) then (if o1 < (0 : Int64) then (if o2 < (0 : Int64) then (0 : Int32) else (1 : Int32)) else (1 : Int32)) else (1 : Int32)) ∧ Steps p.tables e below Ω (T57.setTop (mkF m 126 #[.val (.long x0), .second, .val (.long x1), .second, .val (.long x2), .second, .val (.long y0), .second, .val (.long y1), .second, .val (.long y2), .second, .val (.long o0), .second, .val (.long o1), .second, .val (.long o2), .second, .val (.ref t), .val (.ref u), .val (.long (own_tot o0 o1 o2 y0 y1 y2)), .second, .unset, .unset, .unset, .unset, .unset] [(.int st)])) := by
    by_cases c60 : o0 < (0 : Int64)
    · by_cases c61 : o1 < (0 : Int64)
      · by_cases c62 : o2 < (0 : Int64)
        · refine ⟨(0 : Int32), (by rw [if_pos c60, if_pos c61, if_pos c62]), S59.trans ?_⟩
          refine XS.ifNo X57.here hx rfl (hb hby at_104) rfl (XT.ll_ge_f c60) ?_
          show Steps p.tables e below (T57.setTop (mkF m 107 #[.val (.long x0), .second, .val (.long x1), .second, .val (.long x2), .second, .val (.long y0), .second, .val (.long y1), .second, .val (.long y2), .second, .val (.long o0), .second, .val (.long o1), .second, .val (.long o2), .second, .val (.ref t), .val (.ref u), .val (.long (own_tot o0 o1 o2 y0 y1 y2)), .second, .unset, .unset, .unset, .unset, .unset] [])) _
          refine XS.lload X57.here hx rfl (hb hby at_107) rfl ?_
          show Steps p.tables e below (T57.setTop (mkF m 109 #[.val (.long x0), .second, .val (.long x1), .second, .val (.long x2), .second, .val (.long y0), .second, .val (.long y1), .second, .val (.long y2), .second, .val (.long o0), .second, .val (.long o1), .second, .val (.long o2), .second, .val (.ref t), .val (.ref u), .val (.long (own_tot o0 o1 o2 y0 y1 y2)), .second, .unset, .unset, .unset, .unset, .unset] [(.long o1)])) _
          refine XS.lconst X57.here hx rfl (hb hby at_109) ?_
          show Steps p.tables e below (T57.setTop (mkF m 110 #[.val (.long x0), .second, .val (.long x1), .second, .val (.long x2), .second, .val (.long y0), .second, .val (.long y1), .second, .val (.long y2), .second, .val (.long o0), .second, .val (.long o1), .second, .val (.long o2), .second, .val (.ref t), .val (.ref u), .val (.long (own_tot o0 o1 o2 y0 y1 y2)), .second, .unset, .unset, .unset, .unset, .unset] [(.long (0 : Int64)), (.long o1)])) _
          refine XS.lcmp X57.here hx rfl (hb hby at_110) rfl ?_
          show Steps p.tables e below (T57.setTop (mkF m 111 #[.val (.long x0), .second, .val (.long x1), .second, .val (.long x2), .second, .val (.long y0), .second, .val (.long y1), .second, .val (.long y2), .second, .val (.long o0), .second, .val (.long o1), .second, .val (.long o2), .second, .val (.ref t), .val (.ref u), .val (.long (own_tot o0 o1 o2 y0 y1 y2)), .second, .unset, .unset, .unset, .unset, .unset] [(.int (lcmpW o1 (0 : Int64)))])) _
          refine XS.ifNo X57.here hx rfl (hb hby at_111) rfl (XT.ll_ge_f c61) ?_
          show Steps p.tables e below (T57.setTop (mkF m 114 #[.val (.long x0), .second, .val (.long x1), .second, .val (.long x2), .second, .val (.long y0), .second, .val (.long y1), .second, .val (.long y2), .second, .val (.long o0), .second, .val (.long o1), .second, .val (.long o2), .second, .val (.ref t), .val (.ref u), .val (.long (own_tot o0 o1 o2 y0 y1 y2)), .second, .unset, .unset, .unset, .unset, .unset] [])) _
          refine XS.lload X57.here hx rfl (hb hby at_114) rfl ?_
          show Steps p.tables e below (T57.setTop (mkF m 116 #[.val (.long x0), .second, .val (.long x1), .second, .val (.long x2), .second, .val (.long y0), .second, .val (.long y1), .second, .val (.long y2), .second, .val (.long o0), .second, .val (.long o1), .second, .val (.long o2), .second, .val (.ref t), .val (.ref u), .val (.long (own_tot o0 o1 o2 y0 y1 y2)), .second, .unset, .unset, .unset, .unset, .unset] [(.long o2)])) _
          refine XS.lconst X57.here hx rfl (hb hby at_116) ?_
          show Steps p.tables e below (T57.setTop (mkF m 117 #[.val (.long x0), .second, .val (.long x1), .second, .val (.long x2), .second, .val (.long y0), .second, .val (.long y1), .second, .val (.long y2), .second, .val (.long o0), .second, .val (.long o1), .second, .val (.long o2), .second, .val (.ref t), .val (.ref u), .val (.long (own_tot o0 o1 o2 y0 y1 y2)), .second, .unset, .unset, .unset, .unset, .unset] [(.long (0 : Int64)), (.long o2)])) _
          refine XS.lcmp X57.here hx rfl (hb hby at_117) rfl ?_
          show Steps p.tables e below (T57.setTop (mkF m 118 #[.val (.long x0), .second, .val (.long x1), .second, .val (.long x2), .second, .val (.long y0), .second, .val (.long y1), .second, .val (.long y2), .second, .val (.long o0), .second, .val (.long o1), .second, .val (.long o2), .second, .val (.ref t), .val (.ref u), .val (.long (own_tot o0 o1 o2 y0 y1 y2)), .second, .unset, .unset, .unset, .unset, .unset] [(.int (lcmpW o2 (0 : Int64)))])) _
          refine XS.ifYes X57.here hx rfl (pc0 := 118) (pc' := 125) rfl (hb hby at_118) rfl (XT.ll_lt_t c62) (by decide) (by decide) ?_
          show Steps p.tables e below (T57.setTop (mkF m 125 #[.val (.long x0), .second, .val (.long x1), .second, .val (.long x2), .second, .val (.long y0), .second, .val (.long y1), .second, .val (.long y2), .second, .val (.long o0), .second, .val (.long o1), .second, .val (.long o2), .second, .val (.ref t), .val (.ref u), .val (.long (own_tot o0 o1 o2 y0 y1 y2)), .second, .unset, .unset, .unset, .unset, .unset] [])) _
          refine XS.iconst X57.here hx rfl (hb hby at_125) ?_
          exact Steps.refl _
        · refine ⟨(1 : Int32), (by rw [if_pos c60, if_pos c61, if_neg c62]), S59.trans ?_⟩
          refine XS.ifNo X57.here hx rfl (hb hby at_104) rfl (XT.ll_ge_f c60) ?_
          show Steps p.tables e below (T57.setTop (mkF m 107 #[.val (.long x0), .second, .val (.long x1), .second, .val (.long x2), .second, .val (.long y0), .second, .val (.long y1), .second, .val (.long y2), .second, .val (.long o0), .second, .val (.long o1), .second, .val (.long o2), .second, .val (.ref t), .val (.ref u), .val (.long (own_tot o0 o1 o2 y0 y1 y2)), .second, .unset, .unset, .unset, .unset, .unset] [])) _
          refine XS.lload X57.here hx rfl (hb hby at_107) rfl ?_
          show Steps p.tables e below (T57.setTop (mkF m 109 #[.val (.long x0), .second, .val (.long x1), .second, .val (.long x2), .second, .val (.long y0), .second, .val (.long y1), .second, .val (.long y2), .second, .val (.long o0), .second, .val (.long o1), .second, .val (.long o2), .second, .val (.ref t), .val (.ref u), .val (.long (own_tot o0 o1 o2 y0 y1 y2)), .second, .unset, .unset, .unset, .unset, .unset] [(.long o1)])) _
          refine XS.lconst X57.here hx rfl (hb hby at_109) ?_
          show Steps p.tables e below (T57.setTop (mkF m 110 #[.val (.long x0), .second, .val (.long x1), .second, .val (.long x2), .second, .val (.long y0), .second, .val (.long y1), .second, .val (.long y2), .second, .val (.long o0), .second, .val (.long o1), .second, .val (.long o2), .second, .val (.ref t), .val (.ref u), .val (.long (own_tot o0 o1 o2 y0 y1 y2)), .second, .unset, .unset, .unset, .unset, .unset] [(.long (0 : Int64)), (.long o1)])) _
          refine XS.lcmp X57.here hx rfl (hb hby at_110) rfl ?_
          show Steps p.tables e below (T57.setTop (mkF m 111 #[.val (.long x0), .second, .val (.long x1), .second, .val (.long x2), .second, .val (.long y0), .second, .val (.long y1), .second, .val (.long y2), .second, .val (.long o0), .second, .val (.long o1), .second, .val (.long o2), .second, .val (.ref t), .val (.ref u), .val (.long (own_tot o0 o1 o2 y0 y1 y2)), .second, .unset, .unset, .unset, .unset, .unset] [(.int (lcmpW o1 (0 : Int64)))])) _
          refine XS.ifNo X57.here hx rfl (hb hby at_111) rfl (XT.ll_ge_f c61) ?_
          show Steps p.tables e below (T57.setTop (mkF m 114 #[.val (.long x0), .second, .val (.long x1), .second, .val (.long x2), .second, .val (.long y0), .second, .val (.long y1), .second, .val (.long y2), .second, .val (.long o0), .second, .val (.long o1), .second, .val (.long o2), .second, .val (.ref t), .val (.ref u), .val (.long (own_tot o0 o1 o2 y0 y1 y2)), .second, .unset, .unset, .unset, .unset, .unset] [])) _
          refine XS.lload X57.here hx rfl (hb hby at_114) rfl ?_
          show Steps p.tables e below (T57.setTop (mkF m 116 #[.val (.long x0), .second, .val (.long x1), .second, .val (.long x2), .second, .val (.long y0), .second, .val (.long y1), .second, .val (.long y2), .second, .val (.long o0), .second, .val (.long o1), .second, .val (.long o2), .second, .val (.ref t), .val (.ref u), .val (.long (own_tot o0 o1 o2 y0 y1 y2)), .second, .unset, .unset, .unset, .unset, .unset] [(.long o2)])) _
          refine XS.lconst X57.here hx rfl (hb hby at_116) ?_
          show Steps p.tables e below (T57.setTop (mkF m 117 #[.val (.long x0), .second, .val (.long x1), .second, .val (.long x2), .second, .val (.long y0), .second, .val (.long y1), .second, .val (.long y2), .second, .val (.long o0), .second, .val (.long o1), .second, .val (.long o2), .second, .val (.ref t), .val (.ref u), .val (.long (own_tot o0 o1 o2 y0 y1 y2)), .second, .unset, .unset, .unset, .unset, .unset] [(.long (0 : Int64)), (.long o2)])) _
          refine XS.lcmp X57.here hx rfl (hb hby at_117) rfl ?_
          show Steps p.tables e below (T57.setTop (mkF m 118 #[.val (.long x0), .second, .val (.long x1), .second, .val (.long x2), .second, .val (.long y0), .second, .val (.long y1), .second, .val (.long y2), .second, .val (.long o0), .second, .val (.long o1), .second, .val (.long o2), .second, .val (.ref t), .val (.ref u), .val (.long (own_tot o0 o1 o2 y0 y1 y2)), .second, .unset, .unset, .unset, .unset, .unset] [(.int (lcmpW o2 (0 : Int64)))])) _
          refine XS.ifNo X57.here hx rfl (hb hby at_118) rfl (XT.ll_lt_f c62) ?_
          show Steps p.tables e below (T57.setTop (mkF m 121 #[.val (.long x0), .second, .val (.long x1), .second, .val (.long x2), .second, .val (.long y0), .second, .val (.long y1), .second, .val (.long y2), .second, .val (.long o0), .second, .val (.long o1), .second, .val (.long o2), .second, .val (.ref t), .val (.ref u), .val (.long (own_tot o0 o1 o2 y0 y1 y2)), .second, .unset, .unset, .unset, .unset, .unset] [])) _
          refine XS.iconst X57.here hx rfl (hb hby at_121) ?_
          show Steps p.tables e below (T57.setTop (mkF m 122 #[.val (.long x0), .second, .val (.long x1), .second, .val (.long x2), .second, .val (.long y0), .second, .val (.long y1), .second, .val (.long y2), .second, .val (.long o0), .second, .val (.long o1), .second, .val (.long o2), .second, .val (.ref t), .val (.ref u), .val (.long (own_tot o0 o1 o2 y0 y1 y2)), .second, .unset, .unset, .unset, .unset, .unset] [(.int (1 : Int32))])) _
          refine XS.goto X57.here hx rfl (pc0 := 122) (pc' := 126) rfl (hb hby at_122) (by decide) (by decide) ?_
          exact Steps.refl _
      · refine ⟨(1 : Int32), (by rw [if_pos c60, if_neg c61]), S59.trans ?_⟩
        refine XS.ifNo X57.here hx rfl (hb hby at_104) rfl (XT.ll_ge_f c60) ?_
        show Steps p.tables e below (T57.setTop (mkF m 107 #[.val (.long x0), .second, .val (.long x1), .second, .val (.long x2), .second, .val (.long y0), .second, .val (.long y1), .second, .val (.long y2), .second, .val (.long o0), .second, .val (.long o1), .second, .val (.long o2), .second, .val (.ref t), .val (.ref u), .val (.long (own_tot o0 o1 o2 y0 y1 y2)), .second, .unset, .unset, .unset, .unset, .unset] [])) _
        refine XS.lload X57.here hx rfl (hb hby at_107) rfl ?_
        show Steps p.tables e below (T57.setTop (mkF m 109 #[.val (.long x0), .second, .val (.long x1), .second, .val (.long x2), .second, .val (.long y0), .second, .val (.long y1), .second, .val (.long y2), .second, .val (.long o0), .second, .val (.long o1), .second, .val (.long o2), .second, .val (.ref t), .val (.ref u), .val (.long (own_tot o0 o1 o2 y0 y1 y2)), .second, .unset, .unset, .unset, .unset, .unset] [(.long o1)])) _
        refine XS.lconst X57.here hx rfl (hb hby at_109) ?_
        show Steps p.tables e below (T57.setTop (mkF m 110 #[.val (.long x0), .second, .val (.long x1), .second, .val (.long x2), .second, .val (.long y0), .second, .val (.long y1), .second, .val (.long y2), .second, .val (.long o0), .second, .val (.long o1), .second, .val (.long o2), .second, .val (.ref t), .val (.ref u), .val (.long (own_tot o0 o1 o2 y0 y1 y2)), .second, .unset, .unset, .unset, .unset, .unset] [(.long (0 : Int64)), (.long o1)])) _
        refine XS.lcmp X57.here hx rfl (hb hby at_110) rfl ?_
        show Steps p.tables e below (T57.setTop (mkF m 111 #[.val (.long x0), .second, .val (.long x1), .second, .val (.long x2), .second, .val (.long y0), .second, .val (.long y1), .second, .val (.long y2), .second, .val (.long o0), .second, .val (.long o1), .second, .val (.long o2), .second, .val (.ref t), .val (.ref u), .val (.long (own_tot o0 o1 o2 y0 y1 y2)), .second, .unset, .unset, .unset, .unset, .unset] [(.int (lcmpW o1 (0 : Int64)))])) _
        refine XS.ifYes X57.here hx rfl (pc0 := 111) (pc' := 121) rfl (hb hby at_111) rfl (XT.ll_ge_t c61) (by decide) (by decide) ?_
        show Steps p.tables e below (T57.setTop (mkF m 121 #[.val (.long x0), .second, .val (.long x1), .second, .val (.long x2), .second, .val (.long y0), .second, .val (.long y1), .second, .val (.long y2), .second, .val (.long o0), .second, .val (.long o1), .second, .val (.long o2), .second, .val (.ref t), .val (.ref u), .val (.long (own_tot o0 o1 o2 y0 y1 y2)), .second, .unset, .unset, .unset, .unset, .unset] [])) _
        refine XS.iconst X57.here hx rfl (hb hby at_121) ?_
        show Steps p.tables e below (T57.setTop (mkF m 122 #[.val (.long x0), .second, .val (.long x1), .second, .val (.long x2), .second, .val (.long y0), .second, .val (.long y1), .second, .val (.long y2), .second, .val (.long o0), .second, .val (.long o1), .second, .val (.long o2), .second, .val (.ref t), .val (.ref u), .val (.long (own_tot o0 o1 o2 y0 y1 y2)), .second, .unset, .unset, .unset, .unset, .unset] [(.int (1 : Int32))])) _
        refine XS.goto X57.here hx rfl (pc0 := 122) (pc' := 126) rfl (hb hby at_122) (by decide) (by decide) ?_
        exact Steps.refl _
    · refine ⟨(1 : Int32), (by rw [if_neg c60]), S59.trans ?_⟩
      refine XS.ifYes X57.here hx rfl (pc0 := 104) (pc' := 121) rfl (hb hby at_104) rfl (XT.ll_ge_t c60) (by decide) (by decide) ?_
      show Steps p.tables e below (T57.setTop (mkF m 121 #[.val (.long x0), .second, .val (.long x1), .second, .val (.long x2), .second, .val (.long y0), .second, .val (.long y1), .second, .val (.long y2), .second, .val (.long o0), .second, .val (.long o1), .second, .val (.long o2), .second, .val (.ref t), .val (.ref u), .val (.long (own_tot o0 o1 o2 y0 y1 y2)), .second, .unset, .unset, .unset, .unset, .unset] [])) _
      refine XS.iconst X57.here hx rfl (hb hby at_121) ?_
      show Steps p.tables e below (T57.setTop (mkF m 122 #[.val (.long x0), .second, .val (.long x1), .second, .val (.long x2), .second, .val (.long y0), .second, .val (.long y1), .second, .val (.long y2), .second, .val (.long o0), .second, .val (.long o1), .second, .val (.long o2), .second, .val (.ref t), .val (.ref u), .val (.long (own_tot o0 o1 o2 y0 y1 y2)), .second, .unset, .unset, .unset, .unset, .unset] [(.int (1 : Int32))])) _
      refine XS.goto X57.here hx rfl (pc0 := 122) (pc' := 126) rfl (hb hby at_122) (by decide) (by decide) ?_
      exact Steps.refl _
  have S64 : Steps p.tables e below Ω (T57.setTop (mkF m 132 #[.val (.long x0), .second, .val (.long x1), .second, .val (.long x2), .second, .val (.long y0), .second, .val (.long y1), .second, .val (.long y2), .second, .val (.long o0), .second, .val (.long o1), .second, .val (.long o2), .second, .val (.ref t), .val (.ref u), .val (.long (own_tot o0 o1 o2 y0 y1 y2)), .second, .val (.int st), .unset, .unset, .unset, .unset] [(.long y0), (.long o0)])) := by
    refine S63.trans ?_
    refine XS.istore X57.here hx rfl (hb hby at_126) rfl (l' := #[.val (.long x0), .second, .val (.long x1), .second, .val (.long x2), .second, .val (.long y0), .second, .val (.long y1), .second, .val (.long y2), .second, .val (.long o0), .second, .val (.long o1), .second, .val (.long o2), .second, .val (.ref t), .val (.ref u), .val (.long (own_tot o0 o1 o2 y0 y1 y2)), .second, .val (.int st), .unset, .unset, .unset, .unset]) rfl ?_
    show Steps p.tables e below (T57.setTop (mkF m 128 #[.val (.long x0), .second, .val (.long x1), .second, .val (.long x2), .second, .val (.long y0), .second, .val (.long y1), .second, .val (.long y2), .second, .val (.long o0), .second, .val (.long o1), .second, .val (.long o2), .second, .val (.ref t), .val (.ref u), .val (.long (own_tot o0 o1 o2 y0 y1 y2)), .second, .val (.int st), .unset, .unset, .unset, .unset] [])) _
    refine XS.lload X57.here hx rfl (hb hby at_128) rfl ?_
    show Steps p.tables e below (T57.setTop (mkF m 130 #[.val (.long x0), .second, .val (.long x1), .second, .val (.long x2), .second, .val (.long y0), .second, .val (.long y1), .second, .val (.long y2), .second, .val (.long o0), .second, .val (.long o1), .second, .val (.long o2), .second, .val (.ref t), .val (.ref u), .val (.long (own_tot o0 o1 o2 y0 y1 y2)), .second, .val (.int st), .unset, .unset, .unset, .unset] [(.long o0)])) _
    refine XS.lload X57.here hx rfl (hb hby at_130) rfl ?_
    exact Steps.refl _
  obtain ⟨_, _, ⟨T65, L65, k65, n65⟩, -, X65, ⟨Lc65, hQ65, l65, y65, z65⟩, st65⟩ := Jvm.LawKit.callS X57 hx (y := (⟨"com/example/ingest/ingest/common/GroupProgressLag275PinLaw", "term", "(JJ)J"⟩ : MethodName)) hown (mvT hZ (hw _ (List.mem_of_getElem? (i := 71) rfl))) (mvT hZ (hw _ (List.mem_of_getElem? (i := 72) rfl))) (mvT hZ (hw _ (List.mem_of_getElem? (i := 2) rfl))) (mvT hZ (hw _ (List.mem_of_getElem? (i := 73) rfl))) (by decide) (backOf (W := 0) (rm10 l Z a0 hw [] o0 y0  T54.heap n0 (Nat.le_trans (Nat.le_trans (Nat.le_trans (Nat.le_trans (Nat.le_trans (Nat.le_trans (Nat.le_trans (Nat.le_trans (Nat.le_trans (Nat.le_trans (Nat.le_trans (Nat.le_trans (Nat.le_trans (Nat.le_trans (Nat.le_trans (Nat.le_trans Z0 E11.1) E14.1) (Keep.of_wr W17).1) (Keep.of_wr W20).1) (Keep.of_wr W23).1) E26.1) (Keep.of_wr W29).1) (Keep.of_wr W32).1) (Keep.of_wr W35).1) K37.1) E40.1) E43.1) (Keep.of_wr W46).1) (Keep.of_wr W49).1) (Keep.of_wr W52).1) K54.1) ) hZ (hw _ (List.mem_of_getElem? (i := 73) rfl)) (hw _ (List.mem_of_getElem? (i := 2) rfl)) (by decide) (by decide)) (g := (mkF m 132 #[.val (.long x0), .second, .val (.long x1), .second, .val (.long x2), .second, .val (.long y0), .second, .val (.long y1), .second, .val (.long y2), .second, .val (.long o0), .second, .val (.long o1), .second, .val (.long o2), .second, .val (.ref t), .val (.ref u), .val (.long (own_tot o0 o1 o2 y0 y1 y2)), .second, .val (.int st), .unset, .unset, .unset, .unset] [(.long y0), (.long o0)])) rfl (by rw [hml]; rfl) (argsL := [(.long o0), (.long y0)]) (rest := []) (lenOf pd_8 rfl) rfl (by show 2 * 0 + _ ≤ _; exact Nat.le_of_eq rfl) (hb hby at_132) (fun _ _ => ⟨rfl, e57, (by decide : 12 + 0 ≤ _), (by decide : 101 + 0 ≤ _)⟩)
  dsimp only [Pt.U, Pt.locs, Pt.cells, Pt.slots] at X65 l65 y65 z65 st65 hQ65
  subst l65 y65 z65
  obtain ⟨rfl, N65q, e65⟩ := hQ65
  have N65 := Fr.app N57 N65q
  have S66 : Steps p.tables e below Ω (T65.setTop (mkF m 135 #[.val (.long x0), .second, .val (.long x1), .second, .val (.long x2), .second, .val (.long y0), .second, .val (.long y1), .second, .val (.long y2), .second, .val (.long o0), .second, .val (.long o1), .second, .val (.long o2), .second, .val (.ref t), .val (.ref u), .val (.long (own_tot o0 o1 o2 y0 y1 y2)), .second, .val (.int st), .unset, .unset, .unset, .unset] [(.long (own_term o0 y0))])) := S64.trans (st65 _ (Steps.refl _))
  have S67 : Steps p.tables e below Ω (T65.setTop (mkF m 139 #[.val (.long x0), .second, .val (.long x1), .second, .val (.long x2), .second, .val (.long y0), .second, .val (.long y1), .second, .val (.long y2), .second, .val (.long o0), .second, .val (.long o1), .second, .val (.long o2), .second, .val (.ref t), .val (.ref u), .val (.long (own_tot o0 o1 o2 y0 y1 y2)), .second, .val (.int st), .unset, .unset, .unset, .unset] [(.long y1), (.long o1), (.long (own_term o0 y0))])) := by
    refine S66.trans ?_
    refine XS.lload X65.here hx rfl (hb hby at_135) rfl ?_
    show Steps p.tables e below (T65.setTop (mkF m 137 #[.val (.long x0), .second, .val (.long x1), .second, .val (.long x2), .second, .val (.long y0), .second, .val (.long y1), .second, .val (.long y2), .second, .val (.long o0), .second, .val (.long o1), .second, .val (.long o2), .second, .val (.ref t), .val (.ref u), .val (.long (own_tot o0 o1 o2 y0 y1 y2)), .second, .val (.int st), .unset, .unset, .unset, .unset] [(.long o1), (.long (own_term o0 y0))])) _
    refine XS.lload X65.here hx rfl (hb hby at_137) rfl ?_
    exact Steps.refl _
  obtain ⟨_, _, ⟨T68, L68, k68, n68⟩, -, X68, ⟨Lc68, hQ68, l68, y68, z68⟩, st68⟩ := Jvm.LawKit.callS X65 hx (y := (⟨"com/example/ingest/ingest/common/GroupProgressLag275PinLaw", "term", "(JJ)J"⟩ : MethodName)) hown (mvT hZ (hw _ (List.mem_of_getElem? (i := 71) rfl))) (mvT hZ (hw _ (List.mem_of_getElem? (i := 72) rfl))) (mvT hZ (hw _ (List.mem_of_getElem? (i := 2) rfl))) (mvT hZ (hw _ (List.mem_of_getElem? (i := 73) rfl))) (by decide) (backOf (W := 2) (rm10 l Z a0 hw [] o1 y1  T54.heap n0 (Nat.le_trans (Nat.le_trans (Nat.le_trans (Nat.le_trans (Nat.le_trans (Nat.le_trans (Nat.le_trans (Nat.le_trans (Nat.le_trans (Nat.le_trans (Nat.le_trans (Nat.le_trans (Nat.le_trans (Nat.le_trans (Nat.le_trans (Nat.le_trans Z0 E11.1) E14.1) (Keep.of_wr W17).1) (Keep.of_wr W20).1) (Keep.of_wr W23).1) E26.1) (Keep.of_wr W29).1) (Keep.of_wr W32).1) (Keep.of_wr W35).1) K37.1) E40.1) E43.1) (Keep.of_wr W46).1) (Keep.of_wr W49).1) (Keep.of_wr W52).1) K54.1) ) hZ (hw _ (List.mem_of_getElem? (i := 73) rfl)) (hw _ (List.mem_of_getElem? (i := 2) rfl)) (by decide) (by decide)) (g := (mkF m 139 #[.val (.long x0), .second, .val (.long x1), .second, .val (.long x2), .second, .val (.long y0), .second, .val (.long y1), .second, .val (.long y2), .second, .val (.long o0), .second, .val (.long o1), .second, .val (.long o2), .second, .val (.ref t), .val (.ref u), .val (.long (own_tot o0 o1 o2 y0 y1 y2)), .second, .val (.int st), .unset, .unset, .unset, .unset] [(.long y1), (.long o1), (.long (own_term o0 y0))])) rfl (by rw [hml]; rfl) (argsL := [(.long o1), (.long y1)]) (rest := [(.long (own_term o0 y0))]) (lenOf pd_8 rfl) rfl (by show 2 * 0 + _ ≤ _; exact Nat.le_of_eq rfl) (hb hby at_139) (fun _ _ => ⟨rfl, e65, (by decide : 12 + 0 ≤ _), (by decide : 101 + 0 ≤ _)⟩)
  dsimp only [Pt.U, Pt.locs, Pt.cells, Pt.slots] at X68 l68 y68 z68 st68 hQ68
  subst l68 y68 z68
  obtain ⟨rfl, N68q, e68⟩ := hQ68
  have N68 := Fr.app N65 N68q
  have S69 : Steps p.tables e below Ω (T68.setTop (mkF m 142 #[.val (.long x0), .second, .val (.long x1), .second, .val (.long x2), .second, .val (.long y0), .second, .val (.long y1), .second, .val (.long y2), .second, .val (.long o0), .second, .val (.long o1), .second, .val (.long o2), .second, .val (.ref t), .val (.ref u), .val (.long (own_tot o0 o1 o2 y0 y1 y2)), .second, .val (.int st), .unset, .unset, .unset, .unset] [(.long (own_term o1 y1)), (.long (own_term o0 y0))])) := S67.trans (st68 _ (Steps.refl _))
  have S70 : Steps p.tables e below Ω (T68.setTop (mkF m 147 #[.val (.long x0), .second, .val (.long x1), .second, .val (.long x2), .second, .val (.long y0), .second, .val (.long y1), .second, .val (.long y2), .second, .val (.long o0), .second, .val (.long o1), .second, .val (.long o2), .second, .val (.ref t), .val (.ref u), .val (.long (own_tot o0 o1 o2 y0 y1 y2)), .second, .val (.int st), .unset, .unset, .unset, .unset] [(.long y2), (.long o2), (.long ((own_term o0 y0) + (own_term o1 y1)))])) := by
    refine S69.trans ?_
    refine XS.ladd X68.here hx rfl (hb hby at_142) rfl ?_
    show Steps p.tables e below (T68.setTop (mkF m 143 #[.val (.long x0), .second, .val (.long x1), .second, .val (.long x2), .second, .val (.long y0), .second, .val (.long y1), .second, .val (.long y2), .second, .val (.long o0), .second, .val (.long o1), .second, .val (.long o2), .second, .val (.ref t), .val (.ref u), .val (.long (own_tot o0 o1 o2 y0 y1 y2)), .second, .val (.int st), .unset, .unset, .unset, .unset] [(.long ((own_term o0 y0) + (own_term o1 y1)))])) _
    refine XS.lload X68.here hx rfl (hb hby at_143) rfl ?_
    show Steps p.tables e below (T68.setTop (mkF m 145 #[.val (.long x0), .second, .val (.long x1), .second, .val (.long x2), .second, .val (.long y0), .second, .val (.long y1), .second, .val (.long y2), .second, .val (.long o0), .second, .val (.long o1), .second, .val (.long o2), .second, .val (.ref t), .val (.ref u), .val (.long (own_tot o0 o1 o2 y0 y1 y2)), .second, .val (.int st), .unset, .unset, .unset, .unset] [(.long o2), (.long ((own_term o0 y0) + (own_term o1 y1)))])) _
    refine XS.lload X68.here hx rfl (hb hby at_145) rfl ?_
    exact Steps.refl _
  obtain ⟨_, _, ⟨T71, L71, k71, n71⟩, -, X71, ⟨Lc71, hQ71, l71, y71, z71⟩, st71⟩ := Jvm.LawKit.callS X68 hx (y := (⟨"com/example/ingest/ingest/common/GroupProgressLag275PinLaw", "term", "(JJ)J"⟩ : MethodName)) hown (mvT hZ (hw _ (List.mem_of_getElem? (i := 71) rfl))) (mvT hZ (hw _ (List.mem_of_getElem? (i := 72) rfl))) (mvT hZ (hw _ (List.mem_of_getElem? (i := 2) rfl))) (mvT hZ (hw _ (List.mem_of_getElem? (i := 73) rfl))) (by decide) (backOf (W := 2) (rm10 l Z a0 hw [] o2 y2  T54.heap n0 (Nat.le_trans (Nat.le_trans (Nat.le_trans (Nat.le_trans (Nat.le_trans (Nat.le_trans (Nat.le_trans (Nat.le_trans (Nat.le_trans (Nat.le_trans (Nat.le_trans (Nat.le_trans (Nat.le_trans (Nat.le_trans (Nat.le_trans (Nat.le_trans Z0 E11.1) E14.1) (Keep.of_wr W17).1) (Keep.of_wr W20).1) (Keep.of_wr W23).1) E26.1) (Keep.of_wr W29).1) (Keep.of_wr W32).1) (Keep.of_wr W35).1) K37.1) E40.1) E43.1) (Keep.of_wr W46).1) (Keep.of_wr W49).1) (Keep.of_wr W52).1) K54.1) ) hZ (hw _ (List.mem_of_getElem? (i := 73) rfl)) (hw _ (List.mem_of_getElem? (i := 2) rfl)) (by decide) (by decide)) (g := (mkF m 147 #[.val (.long x0), .second, .val (.long x1), .second, .val (.long x2), .second, .val (.long y0), .second, .val (.long y1), .second, .val (.long y2), .second, .val (.long o0), .second, .val (.long o1), .second, .val (.long o2), .second, .val (.ref t), .val (.ref u), .val (.long (own_tot o0 o1 o2 y0 y1 y2)), .second, .val (.int st), .unset, .unset, .unset, .unset] [(.long y2), (.long o2), (.long ((own_term o0 y0) + (own_term o1 y1)))])) rfl (by rw [hml]; rfl) (argsL := [(.long o2), (.long y2)]) (rest := [(.long ((own_term o0 y0) + (own_term o1 y1)))]) (lenOf pd_8 rfl) rfl (by show 2 * 0 + _ ≤ _; exact Nat.le_of_eq rfl) (hb hby at_147) (fun _ _ => ⟨rfl, e68, (by decide : 12 + 0 ≤ _), (by decide : 101 + 0 ≤ _)⟩)
  dsimp only [Pt.U, Pt.locs, Pt.cells, Pt.slots] at X71 l71 y71 z71 st71 hQ71
  subst l71 y71 z71
  obtain ⟨rfl, N71q, e71⟩ := hQ71
  have N71 := Fr.app N68 N71q
  have S72 : Steps p.tables e below Ω (T71.setTop (mkF m 150 #[.val (.long x0), .second, .val (.long x1), .second, .val (.long x2), .second, .val (.long y0), .second, .val (.long y1), .second, .val (.long y2), .second, .val (.long o0), .second, .val (.long o1), .second, .val (.long o2), .second, .val (.ref t), .val (.ref u), .val (.long (own_tot o0 o1 o2 y0 y1 y2)), .second, .val (.int st), .unset, .unset, .unset, .unset] [(.long (own_term o2 y2)), (.long ((own_term o0 y0) + (own_term o1 y1)))])) := S70.trans (st71 _ (Steps.refl _))
  have S73 : Steps p.tables e below Ω (T71.setTop (mkF m 155 #[.val (.long x0), .second, .val (.long x1), .second, .val (.long x2), .second, .val (.long y0), .second, .val (.long y1), .second, .val (.long y2), .second, .val (.long o0), .second, .val (.long o1), .second, .val (.long o2), .second, .val (.ref t), .val (.ref u), .val (.long (own_tot o0 o1 o2 y0 y1 y2)), .second, .val (.int st), .val (.long (((own_term o0 y0) + (own_term o1 y1)) + (own_term o2 y2))), .second, .unset, .unset] [(.int st)])) := by
    refine S72.trans ?_
    refine XS.ladd X71.here hx rfl (hb hby at_150) rfl ?_
    show Steps p.tables e below (T71.setTop (mkF m 151 #[.val (.long x0), .second, .val (.long x1), .second, .val (.long x2), .second, .val (.long y0), .second, .val (.long y1), .second, .val (.long y2), .second, .val (.long o0), .second, .val (.long o1), .second, .val (.long o2), .second, .val (.ref t), .val (.ref u), .val (.long (own_tot o0 o1 o2 y0 y1 y2)), .second, .val (.int st), .unset, .unset, .unset, .unset] [(.long (((own_term o0 y0) + (own_term o1 y1)) + (own_term o2 y2)))])) _
    refine XS.lstore X71.here hx rfl (hb hby at_151) rfl (l' := #[.val (.long x0), .second, .val (.long x1), .second, .val (.long x2), .second, .val (.long y0), .second, .val (.long y1), .second, .val (.long y2), .second, .val (.long o0), .second, .val (.long o1), .second, .val (.long o2), .second, .val (.ref t), .val (.ref u), .val (.long (own_tot o0 o1 o2 y0 y1 y2)), .second, .val (.int st), .val (.long (((own_term o0 y0) + (own_term o1 y1)) + (own_term o2 y2))), .second, .unset, .unset]) rfl ?_
    show Steps p.tables e below (T71.setTop (mkF m 153 #[.val (.long x0), .second, .val (.long x1), .second, .val (.long x2), .second, .val (.long y0), .second, .val (.long y1), .second, .val (.long y2), .second, .val (.long o0), .second, .val (.long o1), .second, .val (.long o2), .second, .val (.ref t), .val (.ref u), .val (.long (own_tot o0 o1 o2 y0 y1 y2)), .second, .val (.int st), .val (.long (((own_term o0 y0) + (own_term o1 y1)) + (own_term o2 y2))), .second, .unset, .unset] [])) _
    refine XS.iload X71.here hx rfl (hb hby at_153) rfl ?_
    exact Steps.refl _
  obtain ⟨ex, h_ex, S75⟩ : ∃ (ex : Int64), ex = (if st = (0 : Int32) then (-1 : Int64) else (((own_term o0 y0) + (own_term o1 y1)) + (own_term o2 y2))) ∧ Steps p.tables e below Ω (T71.setTop (mkF m 166 #[.val (.long x0), .second, .val (.long x1), .second, .val (.long x2), .second, .val (.long y0), .second, .val (.long y1), .second, .val (.long y2), .second, .val (.long o0), .second, .val (.long o1), .second, .val (.long o2), .second, .val (.ref t), .val (.ref u), .val (.long (own_tot o0 o1 o2 y0 y1 y2)), .second, .val (.int st), .val (.long (((own_term o0 y0) + (own_term o1 y1)) + (own_term o2 y2))), .second, .unset, .unset] [(.long ex)])) := by
    by_cases c74 : st = (0 : Int32)
    · refine ⟨(-1 : Int64), (by rw [if_pos c74]), S73.trans ?_⟩
      refine XS.ifYes X71.here hx rfl (pc0 := 155) (pc' := 163) rfl (hb hby at_155) rfl (XT.i0_eq_t c74) (by decide) (by decide) ?_
      show Steps p.tables e below (T71.setTop (mkF m 163 #[.val (.long x0), .second, .val (.long x1), .second, .val (.long x2), .second, .val (.long y0), .second, .val (.long y1), .second, .val (.long y2), .second, .val (.long o0), .second, .val (.long o1), .second, .val (.long o2), .second, .val (.ref t), .val (.ref u), .val (.long (own_tot o0 o1 o2 y0 y1 y2)), .second, .val (.int st), .val (.long (((own_term o0 y0) + (own_term o1 y1)) + (own_term o2 y2))), .second, .unset, .unset] [])) _
      refine X71.ldc2Long hx hown (mvT hZ (hw _ (List.mem_of_getElem? (i := 4) rfl))) (g := (mkF m 163 #[.val (.long x0), .second, .val (.long x1), .second, .val (.long x2), .second, .val (.long y0), .second, .val (.long y1), .second, .val (.long y2), .second, .val (.long o0), .second, .val (.long o1), .second, .val (.long o2), .second, .val (.ref t), .val (.ref u), .val (.long (own_tot o0 o1 o2 y0 y1 y2)), .second, .val (.int st), .val (.long (((own_term o0 y0) + (own_term o1 y1)) + (own_term o2 y2))), .second, .unset, .unset] [])) rfl (hb hby at_163) _ ?_
      exact Steps.refl _
    · refine ⟨(((own_term o0 y0) + (own_term o1 y1)) + (own_term o2 y2)), (by rw [if_neg c74]), S73.trans ?_⟩
      refine XS.ifNo X71.here hx rfl (hb hby at_155) rfl (XT.i0_eq_f c74) ?_
      show Steps p.tables e below (T71.setTop (mkF m 158 #[.val (.long x0), .second, .val (.long x1), .second, .val (.long x2), .second, .val (.long y0), .second, .val (.long y1), .second, .val (.long y2), .second, .val (.long o0), .second, .val (.long o1), .second, .val (.long o2), .second, .val (.ref t), .val (.ref u), .val (.long (own_tot o0 o1 o2 y0 y1 y2)), .second, .val (.int st), .val (.long (((own_term o0 y0) + (own_term o1 y1)) + (own_term o2 y2))), .second, .unset, .unset] [])) _
      refine XS.lload X71.here hx rfl (hb hby at_158) rfl ?_
      show Steps p.tables e below (T71.setTop (mkF m 160 #[.val (.long x0), .second, .val (.long x1), .second, .val (.long x2), .second, .val (.long y0), .second, .val (.long y1), .second, .val (.long y2), .second, .val (.long o0), .second, .val (.long o1), .second, .val (.long o2), .second, .val (.ref t), .val (.ref u), .val (.long (own_tot o0 o1 o2 y0 y1 y2)), .second, .val (.int st), .val (.long (((own_term o0 y0) + (own_term o1 y1)) + (own_term o2 y2))), .second, .unset, .unset] [(.long (((own_term o0 y0) + (own_term o1 y1)) + (own_term o2 y2)))])) _
      refine XS.goto X71.here hx rfl (pc0 := 160) (pc' := 166) rfl (hb hby at_160) (by decide) (by decide) ?_
      exact Steps.refl _
  have S76 : Steps p.tables e below Ω (T71.setTop (mkF m 173 #[.val (.long x0), .second, .val (.long x1), .second, .val (.long x2), .second, .val (.long y0), .second, .val (.long y1), .second, .val (.long y2), .second, .val (.long o0), .second, .val (.long o1), .second, .val (.long o2), .second, .val (.ref t), .val (.ref u), .val (.long (own_tot o0 o1 o2 y0 y1 y2)), .second, .val (.int st), .val (.long (((own_term o0 y0) + (own_term o1 y1)) + (own_term o2 y2))), .second, .val (.long ex), .second] [(.int (lcmpW (own_tot o0 o1 o2 y0 y1 y2) ex))])) := by
    refine S75.trans ?_
    refine XS.lstore X71.here hx rfl (hb hby at_166) rfl (l' := #[.val (.long x0), .second, .val (.long x1), .second, .val (.long x2), .second, .val (.long y0), .second, .val (.long y1), .second, .val (.long y2), .second, .val (.long o0), .second, .val (.long o1), .second, .val (.long o2), .second, .val (.ref t), .val (.ref u), .val (.long (own_tot o0 o1 o2 y0 y1 y2)), .second, .val (.int st), .val (.long (((own_term o0 y0) + (own_term o1 y1)) + (own_term o2 y2))), .second, .val (.long ex), .second]) rfl ?_
    show Steps p.tables e below (T71.setTop (mkF m 168 #[.val (.long x0), .second, .val (.long x1), .second, .val (.long x2), .second, .val (.long y0), .second, .val (.long y1), .second, .val (.long y2), .second, .val (.long o0), .second, .val (.long o1), .second, .val (.long o2), .second, .val (.ref t), .val (.ref u), .val (.long (own_tot o0 o1 o2 y0 y1 y2)), .second, .val (.int st), .val (.long (((own_term o0 y0) + (own_term o1 y1)) + (own_term o2 y2))), .second, .val (.long ex), .second] [])) _
    refine XS.lload X71.here hx rfl (hb hby at_168) rfl ?_
    show Steps p.tables e below (T71.setTop (mkF m 170 #[.val (.long x0), .second, .val (.long x1), .second, .val (.long x2), .second, .val (.long y0), .second, .val (.long y1), .second, .val (.long y2), .second, .val (.long o0), .second, .val (.long o1), .second, .val (.long o2), .second, .val (.ref t), .val (.ref u), .val (.long (own_tot o0 o1 o2 y0 y1 y2)), .second, .val (.int st), .val (.long (((own_term o0 y0) + (own_term o1 y1)) + (own_term o2 y2))), .second, .val (.long ex), .second] [(.long (own_tot o0 o1 o2 y0 y1 y2))])) _
    refine XS.lload X71.here hx rfl (hb hby at_170) rfl ?_
    show Steps p.tables e below (T71.setTop (mkF m 172 #[.val (.long x0), .second, .val (.long x1), .second, .val (.long x2), .second, .val (.long y0), .second, .val (.long y1), .second, .val (.long y2), .second, .val (.long o0), .second, .val (.long o1), .second, .val (.long o2), .second, .val (.ref t), .val (.ref u), .val (.long (own_tot o0 o1 o2 y0 y1 y2)), .second, .val (.int st), .val (.long (((own_term o0 y0) + (own_term o1 y1)) + (own_term o2 y2))), .second, .val (.long ex), .second] [(.long ex), (.long (own_tot o0 o1 o2 y0 y1 y2))])) _
    refine XS.lcmp X71.here hx rfl (hb hby at_172) rfl ?_
    exact Steps.refl _
  have S77 : Steps p.tables e below Ω (T71.setTop (mkF m 181 #[.val (.long x0), .second, .val (.long x1), .second, .val (.long x2), .second, .val (.long y0), .second, .val (.long y1), .second, .val (.long y2), .second, .val (.long o0), .second, .val (.long o1), .second, .val (.long o2), .second, .val (.ref t), .val (.ref u), .val (.long (own_tot o0 o1 o2 y0 y1 y2)), .second, .val (.int st), .val (.long (((own_term o0 y0) + (own_term o1 y1)) + (own_term o2 y2))), .second, .val (.long ex), .second] [(.int (1 : Int32))])) := by
    refine S76.trans ?_
    refine XS.ifNo X71.here hx rfl (hb hby at_173) rfl (XT.ll_ne_f ((own_fin o0 o1 o2 y0 y1 y2 ho0 ho1 ho2 st h_st).trans h_ex.symm)) ?_
    show Steps p.tables e below (T71.setTop (mkF m 176 #[.val (.long x0), .second, .val (.long x1), .second, .val (.long x2), .second, .val (.long y0), .second, .val (.long y1), .second, .val (.long y2), .second, .val (.long o0), .second, .val (.long o1), .second, .val (.long o2), .second, .val (.ref t), .val (.ref u), .val (.long (own_tot o0 o1 o2 y0 y1 y2)), .second, .val (.int st), .val (.long (((own_term o0 y0) + (own_term o1 y1)) + (own_term o2 y2))), .second, .val (.long ex), .second] [])) _
    refine XS.iconst X71.here hx rfl (hb hby at_176) ?_
    show Steps p.tables e below (T71.setTop (mkF m 177 #[.val (.long x0), .second, .val (.long x1), .second, .val (.long x2), .second, .val (.long y0), .second, .val (.long y1), .second, .val (.long y2), .second, .val (.long o0), .second, .val (.long o1), .second, .val (.long o2), .second, .val (.ref t), .val (.ref u), .val (.long (own_tot o0 o1 o2 y0 y1 y2)), .second, .val (.int st), .val (.long (((own_term o0 y0) + (own_term o1 y1)) + (own_term o2 y2))), .second, .val (.long ex), .second] [(.int (1 : Int32))])) _
    refine XS.goto X71.here hx rfl (pc0 := 177) (pc' := 181) rfl (hb hby at_177) (by decide) (by decide) ?_
    exact Steps.refl _
  obtain ⟨fs, hr, hrun, hended, hend⟩ := Stand.leaveW (s := s) (vm₁ := T37.vm) X71 hS37 (by rw [e71]; exact (Nat.le_trans (Nat.le_trans (Nat.le_trans (Nat.le_trans (Nat.le_trans (Nat.le_trans (Nat.le_refl _) E40.1) E43.1) (Keep.of_wr W46).1) (Keep.of_wr W49).1) (Keep.of_wr W52).1) K54.1)) (v := some (.int (1 : Int32))) (fun h => by rw [Bd.returns] at h; cases h)
  have hfin : Steps p.tables e below Ω (T71.setFrames fs) := by
    refine S77.trans ?_
    exact own_retZ X71 hx Bd.returns (by decide) (hb hby at_181) hr
  rw [hΩ] at hfin
  refine ⟨_, _, hfin, hrun, hended, _, _, rfl, ?_, hend.1, hend.2.1, hend.2.2.1, hend.2.2.2.mono (by decide) (by decide)⟩
  show Q0 Z x0 x1 x2 y0 y1 y2 h0 n0 _ T71.heap _
  rw [e71]
  exact ⟨rfl, N71⟩
set_option maxRecDepth 65536 in
set_option maxHeartbeats 40000000 in
theorem comes_1 {Post : Tables → Env → Array Value → State → Outcome → State → Prop} (hpost : ∀ tb e args s v u, (limb_1_1.after args s (.returned v) u = true ∧ limb_1_2.after args s (.returned v) u = true ∧ True) → ReturnedEndW s (.returned v) u (Jvm.fieldLocs frame_1_writes args s ++ Jvm.arrayLocs frame_1_arrays args s ++ Jvm.staticLocs frame_1_statics s) 32 2176 → Post tb e args s (.returned v) u) :
    ArmFor flags0 classFile x code maxLocals ret World_1 tables_1 room_1 Calls_1 rest_1 Pre_1 Post := by
  intro l hfl _ _ p e ha hc hk s m args below hf hA hF happ hP
  obtain ⟨hcalls, hrest, hpre⟩ := hP
  obtain ⟨-, -, -, hnamed, -, -, -, hat⟩ := (Spec.applies_iff hf).mp happ
  obtain ⟨hg, hn⟩ := and_e (Cond.before_iff.mp (show (Jvm.Cond.and given_1 narrow_1).before args s = true from hpre))
  obtain ⟨gc, g0⟩ := and_e hg
  obtain ⟨k0, g1⟩ := and_e g0
  obtain ⟨k1, g2⟩ := and_e g1
  obtain ⟨k2, g3⟩ := and_e g2
  obtain ⟨k3, g4⟩ := and_e g3
  obtain ⟨k4, g5⟩ := and_e g4
  obtain ⟨w0, w1, w2, w3, w4, w5, rfl⟩ : ∃ w0 w1 w2 w3 w4 w5 : Value, args = #[w0, w1, w2, w3, w4, w5] := by
    have hs : args.size = 6 := by simpa [Cond.value, given_1] using gc
    obtain ⟨L⟩ := args
    match L, hs with
    | [w0, w1, w2, w3, w4, w5], _ => exact ⟨w0, w1, w2, w3, w4, w5, rfl⟩
  have hw := fun d (hd : d ∈ tables_1) => atoms_spec (ws := Jvm.Cond.code x code maxLocals ret :: tables_1) hat d (List.mem_cons_of_mem _ hd)
  have hfit : Fit s := fun {y c} hc i hi => by
    obtain ⟨ha, rfl⟩ := Array.getElem?_eq_some_iff.mp hc
    have q := List.all_eq_true.mp ((Array.all_eq_true_iff_forall_mem.mp hF) _ (Array.getElem_mem ha)) i (List.mem_range.mpr hi)
    simpa [Array.getElem?_eq_getElem hi] using q
  obtain ⟨i0, ei0⟩ := isL_v k0
  obtain rfl : w0 = (.long i0) := Option.some.inj ei0
  obtain ⟨i1, ei1⟩ := isL_v k1
  obtain rfl : w1 = (.long i1) := Option.some.inj ei1
  obtain ⟨i2, ei2⟩ := isL_v k2
  obtain rfl : w2 = (.long i2) := Option.some.inj ei2
  obtain ⟨i3, ei3⟩ := isL_v k3
  obtain rfl : w3 = (.long i3) := Option.some.inj ei3
  obtain ⟨i4, ei4⟩ := isL_v k4
  obtain rfl : w4 = (.long i4) := Option.some.inj ei4
  obtain ⟨i5, ei5⟩ := isL_v g5
  obtain rfl : w5 = (.long i5) := Option.some.inj ei5
  obtain ⟨n, o, h1, h2, h3, _, L, rfl, ⟨rfl, N⟩, hq⟩ := rm0 l s _ hw tables_1 i0 i1 i2 i3 i4 i5  s.heap s.heap.size (Nat.le_refl _)  p e ha hc hk s m _ below hf ((Spec.applies_iff_loose hf).mp happ).1 ⟨rfl, State.Warmed39.refl s, rfl⟩ trivial
  refine ⟨n, _, h1, h2, h3, hpost _ _ _ _ _ _ ⟨Cond.after_iff.mpr rfl, Cond.after_iff.mpr (eq_i res_at (Term.int_eval (1)) rfl), trivial⟩ ⟨hq.1, hq.2.1, hq.2.2.1, (hq.2.2.2.sift fun y hy => Or.inr (N y hy)).mono (by decide) (by decide)⟩⟩
theorem main_1_1 : Claimed_1_1 := comes_1 fun _ _ _ _ _ _ h hF => ⟨h.1, hF⟩
theorem main_1_2 : Claimed_1_2 := comes_1 fun _ _ _ _ _ _ h hF => ⟨h.2.1, hF⟩
end Jvm.Pilot.@@N@@
namespace Jvm.Pilot.@@N@@
open Jvm Jvm.ClassFile Sem Op Lib Jvm.Free Jvm.Stand Jvm.Pilot.@@N@@.Jvm.D
/-! MADE BY PROGRAM (witnessworld.py) out of the Statement's table words and the real class files: 18 classes; the members and pool entries that the words name. The judged class is class 1, her method 3. -/
namespace start1
open Jvm.ClassFile
def u (s : String) : CpInfo := .utf8 (stringToUtf16 s)
/-- a pool by its gaps: so many unusable entries, then the entry; so many at the end -/
def gap : Nat → List CpInfo → List CpInfo
  | 0, r => r
  | n + 1, r => .unusable :: gap n r
def poolList (es : List (Nat × CpInfo)) (last : Nat) : List CpInfo := es.foldr (fun e r => gap e.1 (e.2 :: r)) (gap last [])
def pool (es : List (Nat × CpInfo)) (last : Nat) : Array CpInfo := ⟨poolList es last⟩
def fileOf (pool : Array CpInfo) (this : Nat) (attrs : Array Attribute := #[]) (ms : Array MethodInfo := #[]) (fl : Nat := 33) (sup : Nat := 0) (ifs : Array Nat := #[]) (fds : Array FieldInfo := #[]) : ClassFile where
  minorVersion := 0
  majorVersion := 65
  constantPool := pool
  accessFlags := fl
  thisClass := this
  superClass := sup
  interfaces := ifs
  fields := fds
  methods := ms
  attributes := attrs
def plain (name : String) (sup : Option ClassId) : Class where
  name := name
  kind := .ordinary
  loader := none
  accessFlags := 33
  super := sup
  interfaces := #[]
  cf := none
  fields := #[]
  methods := #[]
  instanceTypes := #[]
  staticTypes := #[]
  resolved := #[]
  callSites := []
  init := .initialized
  statics := none
  mirror := none

def pool0 : Array CpInfo := pool [(5, u "<init>"), (0, u "()V"), (1, .class_ 10), (1, u "java/lang/Object"), (85, u "clone"), (0, u "()Ljava/lang/Object;")] 26

def k0c0 : Code := { maxStack := 0, maxLocals := 1, code := object_method_1_code, exceptionTable := #[], attributes := #[] }
def k0m0 : Method := { name := "<init>", desc := "()V", sig := { parameters := [], returnType := none }, accessFlags := 1, code := some k0c0 }
def k0m1 : Method := { name := "clone", desc := "()Ljava/lang/Object;", sig := { parameters := [], returnType := some (.object "java/lang/Object") }, accessFlags := 260, code := none }
/-- java/lang/Object -/
def k0 : Class := { plain "java/lang/Object" none with
  accessFlags := 33
  interfaces := #[]
  cf := some (fileOf pool0 8 #[] #[{ accessFlags := 1, nameIndex := 5, descriptorIndex := 6, attributes := #[] }, { accessFlags := 260, nameIndex := 96, descriptorIndex := 97, attributes := #[] }] 33 0 #[] #[])
  fields := #[]
  methods := #[k0m0, k0m1]
  instanceTypes := #[]
  staticTypes := #[]
  resolved := Array.replicate 124 none
  statics := none }

def pool1 : Array CpInfo := pool [(2, .class_ 4), (1, u "java/lang/Object"), (0, u "<init>"), (0, u "()V"), (0, .class_ 8), (0, u "com/example/ingest/ingest/common/GroupProgress"), (0, .long 18446744073709551615), (1, .methodref 12 13), (0, .class_ 14), (0, .nameAndType 15 16), (0, u "com/example/ingest/ingest/common/GroupProgressLag275PinLaw"), (0, u "off"), (0, u "(J)J"), (0, .methodref 7 18), (0, .nameAndType 5 19), (0, u "([J[J)V"), (0, .class_ 21), (0, u "com/example/ingest/ingest/common/TopicInfo"), (0, .methodref 20 23), (0, .nameAndType 5 24), (0, u "([J)V"), (0, .methodref 7 26), (0, .nameAndType 27 28), (0, u "lag"), (0, u "(Lcom/example/ingest/ingest/common/TopicInfo;)J"), (0, .methodref 12 30), (0, .nameAndType 31 32), (0, u "term"), (0, u "(JJ)J"), (3, u "law"), (0, u "(JJJJJJ)Z")] 2

def k1m0 : Method := { name := "<init>", desc := "()V", sig := { parameters := [], returnType := none }, accessFlags := 1, code := none }
def k1c1 : Code := { maxStack := 4, maxLocals := 2, code := method_2_code, exceptionTable := #[], attributes := #[] }
def k1m1 : Method := { name := "off", desc := "(J)J", sig := { parameters := [.long], returnType := some .long }, accessFlags := 10, code := some k1c1 }
def k1c2 : Code := { maxStack := 4, maxLocals := 4, code := method_3_code, exceptionTable := #[], attributes := #[] }
def k1m2 : Method := { name := "term", desc := "(JJ)J", sig := { parameters := [.long, .long], returnType := some .long }, accessFlags := 10, code := some k1c2 }
def k1c3 : Code := { maxStack := 8, maxLocals := 27, code := code, exceptionTable := #[], attributes := #[] }
def k1m3 : Method := { name := "law", desc := "(JJJJJJ)Z", sig := { parameters := [.long, .long, .long, .long, .long, .long], returnType := some .boolean }, accessFlags := 9, code := some k1c3 }
/-- com/example/ingest/ingest/common/GroupProgressLag275PinLaw -/
def k1 : Class := { plain "com/example/ingest/ingest/common/GroupProgressLag275PinLaw" (some 0) with
  accessFlags := 49
  interfaces := #[]
  cf := some (fileOf pool1 12 #[] #[{ accessFlags := 1, nameIndex := 5, descriptorIndex := 6, attributes := #[] }, { accessFlags := 10, nameIndex := 15, descriptorIndex := 16, attributes := #[] }, { accessFlags := 10, nameIndex := 31, descriptorIndex := 32, attributes := #[] }, { accessFlags := 9, nameIndex := 36, descriptorIndex := 37, attributes := #[] }] 49 2 #[] #[])
  fields := #[]
  methods := #[k1m0, k1m1, k1m2, k1m3]
  instanceTypes := #[]
  staticTypes := #[]
  resolved := Array.replicate 40 none
  statics := none }

def pool2 : Array CpInfo := pool [(2, .class_ 4), (1, u "com/example/ingest/ingest/common/GroupProgress"), (4, u "<init>"), (0, u "([J[J)V"), (0, .methodref 12 13), (0, .class_ 14), (0, .nameAndType 9 15), (0, u "java/lang/Object"), (0, u "()V"), (0, .methodref 17 18), (0, .class_ 19), (0, .nameAndType 20 21), (0, u "com/example/ingest/ingest/common/Protocol"), (0, u "checkQueueCount"), (0, u "(I)I"), (9, .string 32), (0, u "offset"), (0, .methodref 2 34), (0, .nameAndType 35 36), (0, u "checkOffsets"), (0, u "(Ljava/lang/String;[J)V"), (0, .string 38), (0, u "retry offset"), (0, .methodref 40 41), (0, .class_ 42), (0, .nameAndType 43 44), (0, u "[J"), (0, u "clone"), (0, u "()Ljava/lang/Object;"), (0, .fieldref 2 46), (0, .nameAndType 47 42), (0, u "offsets"), (0, .fieldref 2 49), (0, .nameAndType 50 42), (0, u "retryOffsets"), (3, .long 18446744073709551615), (1, .methodref 57 58), (0, .class_ 59), (0, .nameAndType 60 61), (0, u "com/example/ingest/ingest/common/TopicInfo"), (0, u "endOffset"), (0, u "(I)J"), (0, .methodref 2 63), (0, .nameAndType 64 65), (0, u "lag"), (0, u "(IJ)J"), (44, u "NONE"), (0, u "J"), (8, u "(Lcom/example/ingest/ingest/common/TopicInfo;)J")] 42

def k2c0 : Code := { maxStack := 4, maxLocals := 3, code := prog_27_method_2_code, exceptionTable := #[], attributes := #[] }
def k2m0 : Method := { name := "<init>", desc := "([J[J)V", sig := { parameters := [(.array .long), (.array .long)], returnType := none }, accessFlags := 1, code := some k2c0 }
def k2c1 : Code := { maxStack := 4, maxLocals := 6, code := prog_27_method_7_code, exceptionTable := #[], attributes := #[] }
def k2m1 : Method := { name := "lag", desc := "(IJ)J", sig := { parameters := [.int, .long], returnType := some .long }, accessFlags := 1, code := some k2c1 }
def k2c2 : Code := { maxStack := 6, maxLocals := 6, code := prog_27_method_8_code, exceptionTable := #[], attributes := #[] }
def k2m2 : Method := { name := "lag", desc := "(Lcom/example/ingest/ingest/common/TopicInfo;)J", sig := { parameters := [(.object "com/example/ingest/ingest/common/TopicInfo")], returnType := some .long }, accessFlags := 1, code := some k2c2 }
def k2c3 : Code := { maxStack := 6, maxLocals := 3, code := prog_27_method_13_code, exceptionTable := #[], attributes := #[] }
def k2m3 : Method := { name := "checkOffsets", desc := "(Ljava/lang/String;[J)V", sig := { parameters := [(.object "java/lang/String"), (.array .long)], returnType := none }, accessFlags := 10, code := some k2c3 }
/-- com/example/ingest/ingest/common/GroupProgress -/
def k2 : Class := { plain "com/example/ingest/ingest/common/GroupProgress" (some 0) with
  accessFlags := 49
  interfaces := #[]
  cf := some (fileOf pool2 2 #[] #[{ accessFlags := 1, nameIndex := 9, descriptorIndex := 10, attributes := #[] }, { accessFlags := 1, nameIndex := 64, descriptorIndex := 65, attributes := #[] }, { accessFlags := 1, nameIndex := 64, descriptorIndex := 120, attributes := #[] }, { accessFlags := 10, nameIndex := 35, descriptorIndex := 36, attributes := #[] }] 49 12 #[] #[{ accessFlags := 25, nameIndex := 110, descriptorIndex := 111, attributes := #[] }, { accessFlags := 18, nameIndex := 47, descriptorIndex := 42, attributes := #[] }, { accessFlags := 18, nameIndex := 50, descriptorIndex := 42, attributes := #[] }])
  fields := #[{ name := "NONE", type := .long, accessFlags := 25, slot := 0, constantValue := 0 }, { name := "offsets", type := (.array .long), accessFlags := 18, slot := 0, constantValue := 0 }, { name := "retryOffsets", type := (.array .long), accessFlags := 18, slot := 1, constantValue := 0 }]
  methods := #[k2m0, k2m1, k2m2, k2m3]
  instanceTypes := #[(.array .long), (.array .long)]
  staticTypes := #[.long]
  resolved := Array.replicate 163 none
  statics := none }

def pool3 : Array CpInfo := pool [(1, .class_ 2), (0, u "com/example/ingest/ingest/common/Protocol"), (1, .class_ 6), (1, u "java/lang/Object"), (0, u "<init>"), (0, u "()V"), (38, u "(I)I"), (72, u "VERSION"), (0, u "I"), (2, u "MAX_FRAME_BYTES"), (1, u "MAX_BODY_BYTES"), (0, u "MAX_TAG_BYTES"), (1, u "MAX_PROPERTIES"), (1, u "MAX_PROPERTY_NAME_BYTES"), (1, u "MAX_PROPERTY_VALUE_BYTES"), (1, u "MAX_QUEUES"), (1, u "MAX_PULL_MESSAGES"), (1, u "PULL_BATCH_BYTES"), (1, u "MAX_PULL_HOLD_MILLIS"), (1, u "MAX_HELD_PULLS"), (0, u "HEARTBEAT_MILLIS"), (0, u "J"), (2, u "LISTENER_FINISH_MILLIS"), (0, u "CONSUMER_TIMEOUT_MILLIS"), (2, u "MAX_RECONSUME_COUNT"), (1, u "MAX_LISTED"), (3, u "checkQueueCount")] 80

def k3m0 : Method := { name := "<init>", desc := "()V", sig := { parameters := [], returnType := none }, accessFlags := 2, code := none }
def k3c1 : Code := { maxStack := 3, maxLocals := 1, code := prog_45_method_3_code, exceptionTable := #[], attributes := #[] }
def k3m1 : Method := { name := "checkQueueCount", desc := "(I)I", sig := { parameters := [.int], returnType := some .int }, accessFlags := 9, code := some k3c1 }
/-- com/example/ingest/ingest/common/Protocol -/
def k3 : Class := { plain "com/example/ingest/ingest/common/Protocol" (some 0) with
  accessFlags := 49
  interfaces := #[]
  cf := some (fileOf pool3 1 #[] #[{ accessFlags := 2, nameIndex := 7, descriptorIndex := 8, attributes := #[] }, { accessFlags := 9, nameIndex := 158, descriptorIndex := 47, attributes := #[] }] 49 4 #[] #[{ accessFlags := 26, nameIndex := 120, descriptorIndex := 121, attributes := #[] }, { accessFlags := 25, nameIndex := 124, descriptorIndex := 121, attributes := #[] }, { accessFlags := 25, nameIndex := 126, descriptorIndex := 121, attributes := #[] }, { accessFlags := 25, nameIndex := 127, descriptorIndex := 121, attributes := #[] }, { accessFlags := 25, nameIndex := 129, descriptorIndex := 121, attributes := #[] }, { accessFlags := 25, nameIndex := 131, descriptorIndex := 121, attributes := #[] }, { accessFlags := 25, nameIndex := 133, descriptorIndex := 121, attributes := #[] }, { accessFlags := 25, nameIndex := 135, descriptorIndex := 121, attributes := #[] }, { accessFlags := 25, nameIndex := 137, descriptorIndex := 121, attributes := #[] }, { accessFlags := 25, nameIndex := 139, descriptorIndex := 121, attributes := #[] }, { accessFlags := 25, nameIndex := 141, descriptorIndex := 121, attributes := #[] }, { accessFlags := 25, nameIndex := 143, descriptorIndex := 121, attributes := #[] }, { accessFlags := 25, nameIndex := 144, descriptorIndex := 145, attributes := #[] }, { accessFlags := 25, nameIndex := 148, descriptorIndex := 145, attributes := #[] }, { accessFlags := 25, nameIndex := 149, descriptorIndex := 145, attributes := #[] }, { accessFlags := 25, nameIndex := 152, descriptorIndex := 121, attributes := #[] }, { accessFlags := 25, nameIndex := 154, descriptorIndex := 121, attributes := #[] }])
  fields := #[{ name := "VERSION", type := .int, accessFlags := 26, slot := 0, constantValue := 0 }, { name := "MAX_FRAME_BYTES", type := .int, accessFlags := 25, slot := 1, constantValue := 0 }, { name := "MAX_BODY_BYTES", type := .int, accessFlags := 25, slot := 2, constantValue := 0 }, { name := "MAX_TAG_BYTES", type := .int, accessFlags := 25, slot := 3, constantValue := 0 }, { name := "MAX_PROPERTIES", type := .int, accessFlags := 25, slot := 4, constantValue := 0 }, { name := "MAX_PROPERTY_NAME_BYTES", type := .int, accessFlags := 25, slot := 5, constantValue := 0 }, { name := "MAX_PROPERTY_VALUE_BYTES", type := .int, accessFlags := 25, slot := 6, constantValue := 0 }, { name := "MAX_QUEUES", type := .int, accessFlags := 25, slot := 7, constantValue := 0 }, { name := "MAX_PULL_MESSAGES", type := .int, accessFlags := 25, slot := 8, constantValue := 0 }, { name := "PULL_BATCH_BYTES", type := .int, accessFlags := 25, slot := 9, constantValue := 0 }, { name := "MAX_PULL_HOLD_MILLIS", type := .int, accessFlags := 25, slot := 10, constantValue := 0 }, { name := "MAX_HELD_PULLS", type := .int, accessFlags := 25, slot := 11, constantValue := 0 }, { name := "HEARTBEAT_MILLIS", type := .long, accessFlags := 25, slot := 12, constantValue := 0 }, { name := "LISTENER_FINISH_MILLIS", type := .long, accessFlags := 25, slot := 13, constantValue := 0 }, { name := "CONSUMER_TIMEOUT_MILLIS", type := .long, accessFlags := 25, slot := 14, constantValue := 0 }, { name := "MAX_RECONSUME_COUNT", type := .int, accessFlags := 25, slot := 15, constantValue := 0 }, { name := "MAX_LISTED", type := .int, accessFlags := 25, slot := 16, constantValue := 0 }]
  methods := #[k3m0, k3m1]
  instanceTypes := #[]
  staticTypes := #[.int, .int, .int, .int, .int, .int, .int, .int, .int, .int, .int, .int, .long, .long, .long, .int, .int]
  resolved := Array.replicate 239 none
  statics := none }

def pool4 : Array CpInfo := pool [(1, .class_ 2), (0, u "java/io/Serializable"), (0, .class_ 4), (0, u "java/lang/Object")] 2

/-- java/io/Serializable -/
def k4 : Class := { plain "java/io/Serializable" (some 0) with
  accessFlags := 1537
  interfaces := #[]
  cf := some (fileOf pool4 1 #[] #[] 1537 3 #[] #[])
  fields := #[]
  methods := #[]
  instanceTypes := #[]
  staticTypes := #[]
  resolved := Array.replicate 7 none
  statics := none }

def pool5 : Array CpInfo := pool [(1, .class_ 2), (0, u "java/lang/Comparable"), (0, .class_ 4), (0, u "java/lang/Object")] 7

/-- java/lang/Comparable -/
def k5 : Class := { plain "java/lang/Comparable" (some 0) with
  accessFlags := 1537
  interfaces := #[]
  cf := some (fileOf pool5 1 #[] #[] 1537 3 #[] #[])
  fields := #[]
  methods := #[]
  instanceTypes := #[]
  staticTypes := #[]
  resolved := Array.replicate 12 none
  statics := none }

def pool6 : Array CpInfo := pool [(2, .class_ 4), (1, u "java/lang/CharSequence"), (42, .class_ 48), (0, u "java/lang/CharSequence$1CodePointIterator"), (10, .class_ 60), (0, u "java/lang/CharSequence$1CharIterator"), (5, .class_ 67), (0, u "java/lang/Object")] 63

/-- java/lang/CharSequence -/
def k6 : Class := { plain "java/lang/CharSequence" (some 0) with
  accessFlags := 1537
  interfaces := #[]
  cf := some (fileOf pool6 2 #[.nestMembers #[47, 59]] #[] 1537 66 #[] #[])
  fields := #[]
  methods := #[]
  instanceTypes := #[]
  staticTypes := #[]
  resolved := Array.replicate 131 none
  statics := none }

def pool7 : Array CpInfo := pool [(1, .class_ 2), (0, u "java/lang/constant/Constable"), (0, .class_ 4), (0, u "java/lang/Object")] 6

/-- java/lang/constant/Constable -/
def k7 : Class := { plain "java/lang/constant/Constable" (some 0) with
  accessFlags := 1537
  interfaces := #[]
  cf := some (fileOf pool7 1 #[] #[] 1537 3 #[] #[])
  fields := #[]
  methods := #[]
  instanceTypes := #[]
  staticTypes := #[]
  resolved := Array.replicate 11 none
  statics := none }

def pool8 : Array CpInfo := pool [(1, .class_ 2), (0, u "java/lang/constant/ConstantDesc"), (0, .class_ 4), (0, u "java/lang/Object")] 32

/-- java/lang/constant/ConstantDesc -/
def k8 : Class := { plain "java/lang/constant/ConstantDesc" (some 0) with
  accessFlags := 1537
  interfaces := #[]
  cf := some (fileOf pool8 1 #[] #[] 1537 3 #[] #[])
  fields := #[]
  methods := #[]
  instanceTypes := #[]
  staticTypes := #[]
  resolved := Array.replicate 37 none
  statics := none }

def pool9 : Array CpInfo := pool [(2, .class_ 4), (1, u "java/lang/Object"), (0, u "<init>"), (0, u "()V"), (3, .class_ 12), (1, u "java/lang/String"), (0, u "value"), (0, u "[B"), (2, u "coder"), (0, u "B"), (2, u "hash"), (0, u "I"), (2, u "hashIsZero"), (0, u "Z"), (13, u "COMPACT_STRINGS"), (534, .class_ 576), (0, u "java/lang/CharSequence"), (22, u "CASE_INSENSITIVE_ORDER"), (0, u "Ljava/util/Comparator;"), (500, u "serialPersistentFields"), (0, u "[Ljava/io/ObjectStreamField;"), (0, .class_ 1104), (0, u "java/lang/String$CaseInsensitiveComparator"), (1, .class_ 1107), (0, u "java/io/Serializable"), (0, .class_ 1109), (0, u "java/lang/Comparable"), (0, .class_ 1111), (0, u "java/lang/constant/Constable"), (0, .class_ 1113), (0, u "java/lang/constant/ConstantDesc"), (2, u "serialVersionUID"), (0, u "J"), (3, u "REPL"), (0, u "C"), (2, u "LATIN1"), (1, u "UTF16")] 323

def k9m0 : Method := { name := "<init>", desc := "()V", sig := { parameters := [], returnType := none }, accessFlags := 1, code := none }
/-- java/lang/String -/
def k9 : Class := { plain "java/lang/String" (some 0) with
  accessFlags := 49
  interfaces := #[4, 5, 6, 7, 8]
  cf := some (fileOf pool9 10 #[.nestMembers #[1103]] #[{ accessFlags := 1, nameIndex := 5, descriptorIndex := 6, attributes := #[] }] 49 2 #[1106, 1108, 575, 1110, 1112] #[{ accessFlags := 18, nameIndex := 13, descriptorIndex := 14, attributes := #[] }, { accessFlags := 18, nameIndex := 17, descriptorIndex := 18, attributes := #[] }, { accessFlags := 2, nameIndex := 21, descriptorIndex := 22, attributes := #[] }, { accessFlags := 2, nameIndex := 25, descriptorIndex := 26, attributes := #[] }, { accessFlags := 26, nameIndex := 1116, descriptorIndex := 1117, attributes := #[] }, { accessFlags := 24, nameIndex := 40, descriptorIndex := 26, attributes := #[] }, { accessFlags := 26, nameIndex := 1101, descriptorIndex := 1102, attributes := #[] }, { accessFlags := 26, nameIndex := 1121, descriptorIndex := 1122, attributes := #[] }, { accessFlags := 25, nameIndex := 599, descriptorIndex := 600, attributes := #[] }, { accessFlags := 24, nameIndex := 1125, descriptorIndex := 18, attributes := #[] }, { accessFlags := 24, nameIndex := 1127, descriptorIndex := 18, attributes := #[] }])
  fields := #[{ name := "value", type := (.array .byte), accessFlags := 18, slot := 0, constantValue := 0 }, { name := "coder", type := .byte, accessFlags := 18, slot := 1, constantValue := 0 }, { name := "hash", type := .int, accessFlags := 2, slot := 2, constantValue := 0 }, { name := "hashIsZero", type := .boolean, accessFlags := 2, slot := 3, constantValue := 0 }, { name := "serialVersionUID", type := .long, accessFlags := 26, slot := 0, constantValue := 0 }, { name := "COMPACT_STRINGS", type := .boolean, accessFlags := 24, slot := 1, constantValue := 0 }, { name := "serialPersistentFields", type := (.array (.object "java/io/ObjectStreamField")), accessFlags := 26, slot := 2, constantValue := 0 }, { name := "REPL", type := .char, accessFlags := 26, slot := 3, constantValue := 0 }, { name := "CASE_INSENSITIVE_ORDER", type := (.object "java/util/Comparator"), accessFlags := 25, slot := 4, constantValue := 0 }, { name := "LATIN1", type := .byte, accessFlags := 24, slot := 5, constantValue := 0 }, { name := "UTF16", type := .byte, accessFlags := 24, slot := 6, constantValue := 0 }]
  methods := #[k9m0]
  instanceTypes := #[(.array .byte), .byte, .int, .boolean]
  staticTypes := #[.long, .boolean, (.array (.object "java/io/ObjectStreamField")), .char, (.object "java/util/Comparator"), .byte, .byte]
  resolved := Array.replicate 1451 none
  statics := none }

def pool10 : Array CpInfo := pool [(1, .class_ 2), (0, u "java/lang/Cloneable"), (0, .class_ 4), (0, u "java/lang/Object")] 2

/-- java/lang/Cloneable -/
def k10 : Class := { plain "java/lang/Cloneable" (some 0) with
  accessFlags := 1537
  interfaces := #[]
  cf := some (fileOf pool10 1 #[] #[] 1537 3 #[] #[])
  fields := #[]
  methods := #[]
  instanceTypes := #[]
  staticTypes := #[]
  resolved := Array.replicate 7 none
  statics := none }

def pool11 : Array CpInfo := pool [(1, .methodref 2 3), (0, .class_ 4), (0, .nameAndType 5 6), (0, u "java/lang/Object"), (0, u "<init>"), (0, u "()V"), (0, .methodref 8 9), (0, .class_ 10), (0, .nameAndType 11 12), (0, u "[J"), (0, u "clone"), (0, u "()Ljava/lang/Object;"), (0, .fieldref 14 15), (0, .class_ 16), (0, .nameAndType 17 10), (0, u "com/example/ingest/ingest/common/TopicInfo"), (0, u "endOffsets"), (43, u "([J)V"), (3, u "endOffset"), (0, u "(I)J")] 34

def k11c0 : Code := { maxStack := 2, maxLocals := 2, code := prog_61_method_1_code, exceptionTable := #[], attributes := #[] }
def k11m0 : Method := { name := "<init>", desc := "([J)V", sig := { parameters := [(.array .long)], returnType := none }, accessFlags := 1, code := some k11c0 }
def k11c1 : Code := { maxStack := 2, maxLocals := 2, code := prog_61_method_3_code, exceptionTable := #[], attributes := #[] }
def k11m1 : Method := { name := "endOffset", desc := "(I)J", sig := { parameters := [.int], returnType := some .long }, accessFlags := 1, code := some k11c1 }
/-- com/example/ingest/ingest/common/TopicInfo -/
def k11 : Class := { plain "com/example/ingest/ingest/common/TopicInfo" (some 0) with
  accessFlags := 49
  interfaces := #[]
  cf := some (fileOf pool11 14 #[] #[{ accessFlags := 1, nameIndex := 5, descriptorIndex := 61, attributes := #[] }, { accessFlags := 1, nameIndex := 65, descriptorIndex := 66, attributes := #[] }] 49 2 #[] #[{ accessFlags := 18, nameIndex := 17, descriptorIndex := 10, attributes := #[] }])
  fields := #[{ name := "endOffsets", type := (.array .long), accessFlags := 18, slot := 0, constantValue := 0 }]
  methods := #[k11m0, k11m1]
  instanceTypes := #[(.array .long)]
  staticTypes := #[]
  resolved := Array.replicate 101 none
  statics := none }

/-- the primitive byte -/
def k12 : Class := { plain "byte" none with kind := .primitive 'B', accessFlags := 0x411 }
/-- [B -/
def k13 : Class := { plain "[B" (some 0) with kind := .array 12 .byte, interfaces := #[10, 4], accessFlags := 1041 }

/-- the primitive int -/
def k14 : Class := { plain "int" none with kind := .primitive 'I', accessFlags := 0x411 }
/-- [I -/
def k15 : Class := { plain "[I" (some 0) with kind := .array 14 .int, interfaces := #[10, 4], accessFlags := 1041 }

/-- the primitive long -/
def k16 : Class := { plain "long" none with kind := .primitive 'J', accessFlags := 0x411 }
/-- [J -/
def k17 : Class := { plain "[J" (some 0) with kind := .array 16 .long, interfaces := #[10, 4], accessFlags := 1041 }

def heap : Heap := #[]
def classes : Array Class := #[k0, k1, k2, k3, k4, k5, k6, k7, k8, k9, k10, k11, k12, k13, k14, k15, k16, k17]
def interned : List (Array UInt16 × Addr) := []
def slotsUsed : Nat := 0
def theMethod : MethodId := ⟨1, 3⟩
def args0 : Array Value := #[.long 5, .long 300, .long 7, .long 1, .long 3, .long 4]
def aboutOver (below : List Frame) : State where
  vm := { classes := classes, interned := interned.toArray }
  heap := heap
  slotsUsed := slotsUsed
  threads := #[{ frames := .invoking theMethod args0 :: below }]
def below0 : List Frame := [.native { method := ⟨0, 0⟩, args := #[] }]
def about1 : State := aboutOver below0
def p0 : Program := .bare "" "" ""
def e0 : Env := launch0.env 0 0 0
theorem w_frames : about1.frames = Frame.invoking theMethod args0 :: below0 := rfl
set_option maxRecDepth 65536 in
theorem w_args : argsFit about1.vm theMethod args0 = true := by decide +kernel
set_option maxRecDepth 65536 in
theorem w_heap : heapFits about1 = true := by decide +kernel
set_option maxRecDepth 65536 in
theorem w_runnable : about1.curStatus? = some .runnable := by decide +kernel
set_option maxRecDepth 65536 in
theorem w_alone : about1.alone = true := by decide +kernel
set_option maxRecDepth 65536 in
theorem w_named : about1.methodNamed? x = some theMethod := by decide +kernel
set_option maxRecDepth 65536 in
theorem w_hears : about1.hears theMethod below0 = true := by decide +kernel
set_option maxRecDepth 65536 in
theorem w_ripe : about1.ripe theMethod args0 below0 = true := by decide +kernel
theorem w_running : about1.status = .running := rfl
set_option maxRecDepth 65536 in
theorem w_room : about1.hasRoom e0.platform room_1 = true :=
  launch0.hasRoom_least _ room_1 (by decide +kernel) (by decide +kernel) (by decide +kernel) (by decide +kernel) (by decide +kernel) (by decide +kernel)
theorem allAtoms_all (ts : List Jvm.Cond) (a : Array Jvm.Value) (st : Jvm.State) : (allAtoms ts).before a st = ts.all (fun c => c.before a st) := by
  induction ts with
  | nil => rfl
  | cons c t ih =>
    show (Jvm.Cond.and c (allAtoms t)).before a st = _
    rw [Jvm.Cond.before_and, ih, List.all_cons]
def words1 : List Jvm.Cond := Jvm.Cond.code x code maxLocals ret :: tables_1
/-- a 'code' word, met by the world's own term for the bytes: nothing is compared byte by byte -/
theorem code_word {y : MethodName} {bytes : ByteArray} {mx : Nat} {rt : Option FieldType} {a : Array Value} {s : State} {m : MethodId} {meth : Method} {c : Code} (h1 : s.methodNamed? y = some m) (h2 : s.vm.method? m = some meth) (h3 : meth.code = some c) (h4 : c.code = bytes)
    (h5 : (c.maxLocals == mx && c.exceptionTable.isEmpty && decide (c.maxStack ≤ mostOperands) && decide (meth.sig.returnType = rt) && !meth.locks && decide (parseMethodDescriptor y.desc = some meth.sig)) = true) : (Jvm.Cond.code y bytes mx rt).before a s = true := by
  simp only [Bool.and_eq_true, beq_iff_eq, Bool.not_eq_true', decide_eq_true_eq] at h5
  obtain ⟨⟨⟨⟨⟨g1, g2⟩, g3⟩, g4⟩, g5⟩, g6⟩ := h5
  simp [Cond.before, Cond.holds, Cond.value, h1, h2, h3, h4, g1, g2, g3, g4, g5, g6]
def isCode : Jvm.Cond → Bool
  | .code _ _ _ _ => true
  | _ => false
theorem all_split {L : List Jvm.Cond} {P : Jvm.Cond → Bool} (h1 : L.all (fun c => isCode c || P c) = true) (h2 : ∀ c ∈ L.filter isCode, P c = true) : L.all P = true := by
  refine List.all_eq_true.mpr fun c hc => ?_
  have h := List.all_eq_true.mp h1 c hc
  rcases Bool.eq_false_or_eq_true (isCode c) with hi | hi
  · exact h2 c (List.mem_filter.mpr ⟨hc, hi⟩)
  · simpa [hi] using h
set_option maxRecDepth 65536 in
theorem w_c0 : (Jvm.Cond.code x code maxLocals ret).before args0 about1 = true := code_word (m := ⟨1, 3⟩) (meth := k1m3) (c := k1c3) (by decide +kernel) rfl rfl rfl (by decide +kernel)
set_option maxRecDepth 65536 in
theorem w_c1 : (Jvm.Cond.code ({ cls := "com/example/ingest/ingest/common/GroupProgressLag275PinLaw", name := "off", desc := "(J)J" } : Jvm.MethodName) method_2_code (2 : Nat) (Option.some Jvm.ClassFile.FieldType.long)).before args0 about1 = true := code_word (m := ⟨1, 1⟩) (meth := k1m1) (c := k1c1) (by decide +kernel) rfl rfl rfl (by decide +kernel)
set_option maxRecDepth 65536 in
theorem w_c2 : (Jvm.Cond.code ({ cls := "com/example/ingest/ingest/common/GroupProgress", name := "<init>", desc := "([J[J)V" } : Jvm.MethodName) prog_27_method_2_code (3 : Nat) (Option.none : Option Jvm.ClassFile.FieldType)).before args0 about1 = true := code_word (m := ⟨2, 0⟩) (meth := k2m0) (c := k2c0) (by decide +kernel) rfl rfl rfl (by decide +kernel)
set_option maxRecDepth 65536 in
theorem w_c3 : (Jvm.Cond.code ({ cls := "java/lang/Object", name := "<init>", desc := "()V" } : Jvm.MethodName) object_method_1_code (1 : Nat) (Option.none : Option Jvm.ClassFile.FieldType)).before args0 about1 = true := code_word (m := ⟨0, 0⟩) (meth := k0m0) (c := k0c0) (by decide +kernel) rfl rfl rfl (by decide +kernel)
set_option maxRecDepth 65536 in
theorem w_c4 : (Jvm.Cond.code ({ cls := "com/example/ingest/ingest/common/Protocol", name := "checkQueueCount", desc := "(I)I" } : Jvm.MethodName) prog_45_method_3_code (1 : Nat) (Option.some Jvm.ClassFile.FieldType.int)).before args0 about1 = true := code_word (m := ⟨3, 1⟩) (meth := k3m1) (c := k3c1) (by decide +kernel) rfl rfl rfl (by decide +kernel)
set_option maxRecDepth 65536 in
theorem w_c5 : (Jvm.Cond.code ({ cls := "com/example/ingest/ingest/common/GroupProgress", name := "checkOffsets", desc := "(Ljava/lang/String;[J)V" } : Jvm.MethodName) prog_27_method_13_code (3 : Nat) (Option.none : Option Jvm.ClassFile.FieldType)).before args0 about1 = true := code_word (m := ⟨2, 3⟩) (meth := k2m3) (c := k2c3) (by decide +kernel) rfl rfl rfl (by decide +kernel)
set_option maxRecDepth 65536 in
theorem w_c6 : (Jvm.Cond.code ({ cls := "com/example/ingest/ingest/common/TopicInfo", name := "<init>", desc := "([J)V" } : Jvm.MethodName) prog_61_method_1_code (2 : Nat) (Option.none : Option Jvm.ClassFile.FieldType)).before args0 about1 = true := code_word (m := ⟨11, 0⟩) (meth := k11m0) (c := k11c0) (by decide +kernel) rfl rfl rfl (by decide +kernel)
set_option maxRecDepth 65536 in
theorem w_c7 : (Jvm.Cond.code ({ cls := "com/example/ingest/ingest/common/GroupProgress", name := "lag", desc := "(Lcom/example/ingest/ingest/common/TopicInfo;)J" } : Jvm.MethodName) prog_27_method_8_code (6 : Nat) (Option.some Jvm.ClassFile.FieldType.long)).before args0 about1 = true := code_word (m := ⟨2, 2⟩) (meth := k2m2) (c := k2c2) (by decide +kernel) rfl rfl rfl (by decide +kernel)
set_option maxRecDepth 65536 in
theorem w_c8 : (Jvm.Cond.code ({ cls := "com/example/ingest/ingest/common/TopicInfo", name := "endOffset", desc := "(I)J" } : Jvm.MethodName) prog_61_method_3_code (2 : Nat) (Option.some Jvm.ClassFile.FieldType.long)).before args0 about1 = true := code_word (m := ⟨11, 1⟩) (meth := k11m1) (c := k11c1) (by decide +kernel) rfl rfl rfl (by decide +kernel)
set_option maxRecDepth 65536 in
theorem w_c9 : (Jvm.Cond.code ({ cls := "com/example/ingest/ingest/common/GroupProgress", name := "lag", desc := "(IJ)J" } : Jvm.MethodName) prog_27_method_7_code (6 : Nat) (Option.some Jvm.ClassFile.FieldType.long)).before args0 about1 = true := code_word (m := ⟨2, 1⟩) (meth := k2m1) (c := k2c1) (by decide +kernel) rfl rfl rfl (by decide +kernel)
set_option maxRecDepth 65536 in
theorem w_c10 : (Jvm.Cond.code ({ cls := "com/example/ingest/ingest/common/GroupProgressLag275PinLaw", name := "term", desc := "(JJ)J" } : Jvm.MethodName) method_3_code (4 : Nat) (Option.some Jvm.ClassFile.FieldType.long)).before args0 about1 = true := code_word (m := ⟨1, 2⟩) (meth := k1m2) (c := k1c2) (by decide +kernel) rfl rfl rfl (by decide +kernel)
def codes1 : List Jvm.Cond := [Jvm.Cond.code x code maxLocals ret, Jvm.Cond.code ({ cls := "com/example/ingest/ingest/common/GroupProgressLag275PinLaw", name := "off", desc := "(J)J" } : Jvm.MethodName) method_2_code (2 : Nat) (Option.some Jvm.ClassFile.FieldType.long), Jvm.Cond.code ({ cls := "com/example/ingest/ingest/common/GroupProgress", name := "<init>", desc := "([J[J)V" } : Jvm.MethodName) prog_27_method_2_code (3 : Nat) (Option.none : Option Jvm.ClassFile.FieldType), Jvm.Cond.code ({ cls := "java/lang/Object", name := "<init>", desc := "()V" } : Jvm.MethodName) object_method_1_code (1 : Nat) (Option.none : Option Jvm.ClassFile.FieldType), Jvm.Cond.code ({ cls := "com/example/ingest/ingest/common/Protocol", name := "checkQueueCount", desc := "(I)I" } : Jvm.MethodName) prog_45_method_3_code (1 : Nat) (Option.some Jvm.ClassFile.FieldType.int), Jvm.Cond.code ({ cls := "com/example/ingest/ingest/common/GroupProgress", name := "checkOffsets", desc := "(Ljava/lang/String;[J)V" } : Jvm.MethodName) prog_27_method_13_code (3 : Nat) (Option.none : Option Jvm.ClassFile.FieldType), Jvm.Cond.code ({ cls := "com/example/ingest/ingest/common/TopicInfo", name := "<init>", desc := "([J)V" } : Jvm.MethodName) prog_61_method_1_code (2 : Nat) (Option.none : Option Jvm.ClassFile.FieldType), Jvm.Cond.code ({ cls := "com/example/ingest/ingest/common/GroupProgress", name := "lag", desc := "(Lcom/example/ingest/ingest/common/TopicInfo;)J" } : Jvm.MethodName) prog_27_method_8_code (6 : Nat) (Option.some Jvm.ClassFile.FieldType.long), Jvm.Cond.code ({ cls := "com/example/ingest/ingest/common/TopicInfo", name := "endOffset", desc := "(I)J" } : Jvm.MethodName) prog_61_method_3_code (2 : Nat) (Option.some Jvm.ClassFile.FieldType.long), Jvm.Cond.code ({ cls := "com/example/ingest/ingest/common/GroupProgress", name := "lag", desc := "(IJ)J" } : Jvm.MethodName) prog_27_method_7_code (6 : Nat) (Option.some Jvm.ClassFile.FieldType.long), Jvm.Cond.code ({ cls := "com/example/ingest/ingest/common/GroupProgressLag275PinLaw", name := "term", desc := "(JJ)J" } : Jvm.MethodName) method_3_code (4 : Nat) (Option.some Jvm.ClassFile.FieldType.long)]
set_option maxRecDepth 65536 in
theorem codes_eq : words1.filter isCode = codes1 := rfl
theorem w_codes : ∀ c ∈ words1.filter isCode, c.before args0 about1 = true := by
  rw [codes_eq]
  intro c hc
  simp only [codes1, List.mem_cons, List.not_mem_nil, or_false] at hc
  rcases hc with rfl | rfl | rfl | rfl | rfl | rfl | rfl | rfl | rfl | rfl | rfl
  · exact w_c0
  · exact w_c1
  · exact w_c2
  · exact w_c3
  · exact w_c4
  · exact w_c5
  · exact w_c6
  · exact w_c7
  · exact w_c8
  · exact w_c9
  · exact w_c10
set_option maxRecDepth 65536 in
theorem w_t1 : (words1.take 24).all (fun c => isCode c || c.before args0 about1) = true := by decide +kernel
set_option maxRecDepth 65536 in
theorem w_t2 : ((words1.drop 24).take 24).all (fun c => isCode c || c.before args0 about1) = true := by decide +kernel
set_option maxRecDepth 65536 in
theorem w_t3 : (((words1.drop 24).drop 24).take 24).all (fun c => isCode c || c.before args0 about1) = true := by decide +kernel
set_option maxRecDepth 65536 in
theorem w_t4 : (((words1.drop 24).drop 24).drop 24).all (fun c => isCode c || c.before args0 about1) = true := by decide +kernel
theorem w_tables : (allAtoms (Jvm.Cond.code x code maxLocals ret :: tables_1)).before args0 about1 = true := by
  rw [allAtoms_all]
  show words1.all (fun c => c.before args0 about1) = true
  refine all_split ?_ w_codes
  rw [← List.take_append_drop 24 words1, List.all_append, w_t1, ← List.take_append_drop 24 (words1.drop 24), List.all_append, w_t2, ← List.take_append_drop 24 ((words1.drop 24).drop 24), List.all_append, w_t3, w_t4]
  rfl
set_option maxRecDepth 65536 in
theorem w_case : (Jvm.Cond.and given_1 narrow_1).before args0 about1 = true := by decide +kernel
theorem w_applies : (headSpec (Jvm.Cond.code x code maxLocals ret :: tables_1) room_1).applies x e0.platform about1 = true :=
  (Spec.applies_iff w_frames).mpr ⟨w_running, w_runnable, w_alone, w_named, w_hears, w_ripe, w_room, w_tables⟩
theorem atStart : AtStart classFile x code maxLocals ret World_1 tables_1 room_1 Calls_1 rest_1 Pre_1 launch0 p0 e0 about1 theMethod args0 below0 :=
  ⟨lists_1, trivial, launch0.admits_env _ _ _, launch0.least_env, fairChoices_fair.cas, fairChoices_fair.clock, w_frames, w_args, w_heap, w_applies, trivial, trivial, w_case⟩
end start1
theorem witness_1 : WitnessClaimed_1 := ⟨start1.p0, start1.e0, start1.about1, start1.theMethod, start1.args0, start1.below0, start1.atStart⟩
end Jvm.Pilot.@@N@@
