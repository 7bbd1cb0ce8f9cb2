import JvmDerived
import JvmDerived.Pilot.@@N@@Statement
import JvmDerived.Pilot.@@N@@Code
set_option linter.unusedVariables false
set_option linter.unusedSimpArgs false
namespace Jvm.RoadKit
open Sem ClassFile Op Lib Jvm.Stand Jvm.Free Jvm.LawKit
section New
variable {p : Program} {l : Launch} {e : Env} {R : Room} {s : State} {m : MethodId} {args : Array Value} {below : List Frame} {meth : Method} {c : Code} {T : State} {locs : List Loc} {cells slots : Nat}
theorem retI (X : Stand p l e R s m args below meth c T locs cells slots) (hx : p.tables.exec = Jvm.exec) {pc : Nat} {Ls : Array Slot} {z : Int32} {rest : List Value} (hret : meth.sig.returnType = some .int) (hd : decode c.code pc = .ok (.ireturn, 1)) {fs : List Frame}
    (hl : ∀ (f : JFrame) (acts : List Action), f.method = m → f.locked = none → f.entered = [] → (doReturn e (T.setTop f) acts (some (.int z))).1 = T.setFrames fs) : Steps p.tables e below (T.setTop (mkF m pc Ls (.int z :: rest))) (T.setFrames fs) := by
  have hm' : T.vm.method? m = some meth := X.method'
  have hn : narrow .int (.int z) = .int z := rfl
  show Steps p.tables e below (T.setTop { method := m, pc := pc, locals := Ls, stack := _ :: rest, locked := none }) _
  jvm_step X.here [X.here.top, hx, hd, hm', hret, hn]
  first | (intro acts; rw [hl _ acts rfl rfl rfl]) | rw [hl _ _ rfl rfl rfl]
  exact Steps.refl _
theorem own_retZ (X : Stand p l e R s m args below meth c T locs cells slots) (hx : p.tables.exec = Jvm.exec) {pc : Nat} {Ls : Array Slot} {z : Int32} {rest : List Value} (hret : meth.sig.returnType = some .boolean) (hz : z &&& 1 = z) (hd : decode c.code pc = .ok (.ireturn, 1)) {fs : List Frame}
    (hl : ∀ (f : JFrame) (acts : List Action), f.method = m → f.locked = none → f.entered = [] → (doReturn e (T.setTop f) acts (some (.int z))).1 = T.setFrames fs) : Steps p.tables e below (T.setTop (mkF m pc Ls (.int z :: rest))) (T.setFrames fs) :=
  retN X hx (t := .boolean) hret (Or.inl rfl) hd (by have q : nar .boolean z = z := hz; rw [q]; exact hl)
theorem own_lrem {g : JFrame} {target : State} (X : Stand p l e R s m args below meth c T locs cells slots) (hx : p.tables.exec = Jvm.exec) (hg : g.method = m) {x y : Int64} {rest : List Value} (hd : decode c.code g.pc = .ok (.lrem, 1)) (hs : g.stack = .long y :: .long x :: rest) (hy : y ≠ 0)
    (hr : Steps p.tables e below (T.setTop { g with pc := g.pc + 1, stack := .long (x % y) :: rest }) target) : Steps p.tables e below (T.setTop g) target :=
  XS.lrem X.here hx hg hd hs hy (by rw [lrem_mod x y]; exact hr)
end New
end Jvm.RoadKit
namespace Jvm.Pilot.@@N@@
open Jvm Jvm.ClassFile Sem Op Lib Jvm.Free Jvm.Stand Jvm.LawKit Jvm.RoadKit Bundle Jvm.Pilot.@@N@@.Jvm.D
section Own
variable {p : Program} {l : Launch} {e : Env} {R : Room} {s : State} {m : MethodId} {args : Array Value} {below : List Frame} {meth : Method} {c : Code} {T : State} {locs : List Loc} {cells slots : Nat} {Z : State} {h h' : Heap} {a b : Addr} {ty : FieldType} {vs : List Value}
/-- the array at a, of elements of kind ty, holds just vs -/
def LA (Z : State) (h : Heap) (a : Addr) (ty : FieldType) (vs : List Value) : Prop := ∃ c : Cell, Arr Z h a c ty ∧ c.slots.toList = vs
theorem LA.lt (F : LA Z h a ty vs) : a < h.size := by obtain ⟨c, A, -⟩ := F; exact A.lt
theorem LA.ext (F : LA Z h a ty vs) (E : Ext h h') : LA Z h' a ty vs := by obtain ⟨c, A, r⟩ := F; exact ⟨c, A.ext E, r⟩
theorem LA.other {sl : Nat} {v : Value} (F : LA Z h b ty vs) (W : Wr h h' a sl v) (q : b ≠ a) : LA Z h' b ty vs := by obtain ⟨c, A, r⟩ := F; exact ⟨c, A.other W q, r⟩
theorem LA.keep {ws : List Addr} (F : LA Z h a ty vs) (K : Keep h h' ws) (q : a ∉ ws) : LA Z h' a ty vs := by obtain ⟨c, A, r⟩ := F; exact ⟨c, ⟨K.2.1 a c A.1 q, A.2⟩, r⟩
theorem LA.new {k : ClassId} {z : Int32} (A : Arr Z h a (newA k ty z) ty) (n : Nat) (q : z.toNatClampNeg = n) : LA Z h a ty (List.replicate n (defaultValue ty)) := ⟨_, A, by subst q; simp [newA]⟩
theorem own_stI (X : Stand p l e R s m args below meth c T locs cells slots) (hx : p.tables.exec = Jvm.exec) (hZ : Z.Warmed39 s.vm) (eT : T.heap = h) (A : LA Z h a .int vs) {j x : Int32} {i : Nat} (hj : j.toNatClampNeg = i) (hi : ¬ j < 0 ∧ i < vs.length) {g : JFrame} (hg : g.method = m) {rest : List Value} (hs : g.stack = .int x :: .int j :: .ref a :: rest) (hd : decode c.code g.pc = .ok (.iastore, 1)) :
    ∃ T' h', Stand p l e R s m args below meth c T' (locs ++ [⟨a, j.toNatClampNeg⟩]) cells slots ∧ T'.heap = h' ∧ Wr h h' a j.toNatClampNeg (.int x) ∧ LA Z h' a .int (vs.set i (.int x)) ∧ ∀ target, Steps p.tables e below (T'.setTop { g with pc := g.pc + 1, stack := rest }) target → Steps p.tables e below (T.setTop g) target := by
  obtain ⟨cl, A, rfl⟩ := A
  subst hj
  have hb : ¬ (j < 0 ∨ cl.slots.size ≤ j.toNatClampNeg) := fun q => q.elim hi.1 fun r => by have := hi.2; rw [Array.length_toList] at this; omega
  obtain ⟨T', h', X', e', W, st⟩ := stI X hx hZ eT A hb hg hs hd
  exact ⟨T', h', X', e', W, ⟨_, A.same W, by simp [Cell.setSlot]⟩, st⟩
theorem own_stJ (X : Stand p l e R s m args below meth c T locs cells slots) (hx : p.tables.exec = Jvm.exec) (hZ : Z.Warmed39 s.vm) (eT : T.heap = h) (A : LA Z h a .long vs) {j : Int32} {x : Int64} {i : Nat} (hj : j.toNatClampNeg = i) (hi : ¬ j < 0 ∧ i < vs.length) {g : JFrame} (hg : g.method = m) {rest : List Value} (hs : g.stack = .long x :: .int j :: .ref a :: rest) (hd : decode c.code g.pc = .ok (.lastore, 1)) :
    ∃ T' h', Stand p l e R s m args below meth c T' (locs ++ [⟨a, j.toNatClampNeg⟩]) cells slots ∧ T'.heap = h' ∧ Wr h h' a j.toNatClampNeg (.long x) ∧ LA Z h' a .long (vs.set i (.long x)) ∧ ∀ target, Steps p.tables e below (T'.setTop { g with pc := g.pc + 1, stack := rest }) target → Steps p.tables e below (T.setTop g) target := by
  obtain ⟨cl, A, rfl⟩ := A
  subst hj
  have hb : ¬ (j < 0 ∨ cl.slots.size ≤ j.toNatClampNeg) := fun q => q.elim hi.1 fun r => by have := hi.2; rw [Array.length_toList] at this; omega
  obtain ⟨T', h', X', e', W, st⟩ := stJ X hx hZ eT A hb hg hs hd
  exact ⟨T', h', X', e', W, ⟨_, A.same W, by simp [Cell.setSlot]⟩, st⟩
theorem own_at {cl : Cell} {j : Int32} {v : Value} (hn : ¬ j < 0) (hat : cl.slots.toList[j.toNatClampNeg]? = some v) : ¬ (j < 0 ∨ cl.slots.size ≤ j.toNatClampNeg) ∧ cl.slots[j.toNatClampNeg]? = some v := by
  have q : cl.slots[j.toNatClampNeg]? = some v := by rw [← Array.getElem?_toList]; exact hat
  exact ⟨fun r => r.elim hn fun z => absurd (Array.getElem?_eq_some_iff.mp q).1 (Nat.not_lt.mpr z), q⟩
theorem own_ldI (X : Stand p l e R s m args below meth c T locs cells slots) (hx : p.tables.exec = Jvm.exec) (hZ : Z.Warmed39 s.vm) (eT : T.heap = h) (A : LA Z h a .int vs) {j x : Int32} (hn : ¬ j < 0) (hat : vs[j.toNatClampNeg]? = some (.int x)) {g : JFrame} (hg : g.method = m) {rest : List Value} (hs : g.stack = .int j :: .ref a :: rest) (hd : decode c.code g.pc = .ok (.iaload, 1)) (target : State)
    (hr : Steps p.tables e below (T.setTop { g with pc := g.pc + 1, stack := .int x :: rest }) target) : Steps p.tables e below (T.setTop g) target := by
  obtain ⟨cl, A, rfl⟩ := A
  exact X.iaload hx (by rw [eT]; exact A.1) (State.isArrayOf_alike hZ.alike A.2.1) A.2.2 (own_at hn hat).1 (own_at hn hat).2 hg hs hd target hr
theorem own_ldJ (X : Stand p l e R s m args below meth c T locs cells slots) (hx : p.tables.exec = Jvm.exec) (hZ : Z.Warmed39 s.vm) (eT : T.heap = h) (A : LA Z h a .long vs) {j : Int32} {x : Int64} (hn : ¬ j < 0) (hat : vs[j.toNatClampNeg]? = some (.long x)) {g : JFrame} (hg : g.method = m) {rest : List Value} (hs : g.stack = .int j :: .ref a :: rest) (hd : decode c.code g.pc = .ok (.laload, 1)) (target : State)
    (hr : Steps p.tables e below (T.setTop { g with pc := g.pc + 1, stack := .long x :: rest }) target) : Steps p.tables e below (T.setTop g) target := by
  obtain ⟨cl, A, rfl⟩ := A
  exact X.laload hx (by rw [eT]; exact A.1) (State.isArrayOf_alike hZ.alike A.2.1) A.2.2 (own_at hn hat).1 (own_at hn hat).2 hg hs hd target hr
theorem own_len (X : Stand p l e R s m args below meth c T locs cells slots) (hx : p.tables.exec = Jvm.exec) (hZ : Z.Warmed39 s.vm) (eT : T.heap = h) (A : LA Z h a ty vs) {n : Int32} (hn : vs.length.toInt32 = n) {g : JFrame} (hg : g.method = m) {rest : List Value} (hs : g.stack = .ref a :: rest) (hd : decode c.code g.pc = .ok (.arraylength, 1)) (target : State)
    (hr : Steps p.tables e below (T.setTop { g with pc := g.pc + 1, stack := .int n :: rest }) target) : Steps p.tables e below (T.setTop g) target := by
  obtain ⟨cl, A, rfl⟩ := A
  refine X.arraylength hx (by rw [eT]; exact A.1) (State.isArrayOf_alike hZ.alike A.2.1) hg hs hd target ?_
  have q : cl.slots.size.toInt32 = n := by rw [← hn, Array.length_toList]
  rw [q]; exact hr
theorem own_clone {a0 : Array Value} (X : Stand p l e R s m args below meth c T locs cells slots) (hx : p.tables.exec = Jvm.exec) (hZ : Z.Warmed39 s.vm) {own ad : String} {index : Nat} (hown : s.vm.findClass own = some m.cls)
    (w1 : (Cond.methodLink own index ⟨ad, "clone", "()Ljava/lang/Object;"⟩).before a0 Z = true) (w2 : (Cond.sameMethod ad "java/lang/Object" "clone" "()Ljava/lang/Object;").before a0 Z = true) (w3 : (Cond.native ⟨"java/lang/Object", "clone", "()Ljava/lang/Object;"⟩).before a0 Z = true)
    (w4 : (Cond.instanceMethod ⟨"java/lang/Object", "clone", "()Ljava/lang/Object;"⟩).before a0 Z = true) (w5 : (Cond.selects ad ⟨ad, "clone", "()Ljava/lang/Object;"⟩ ⟨"java/lang/Object", "clone", "()Ljava/lang/Object;"⟩).before a0 Z = true) (w6 : (Cond.castable ad "java/lang/Cloneable").before a0 Z = true)
    (eT : T.heap = h) (A : LA Z h a ty vs) (E : Exa Z h a ad) (F : ∀ v ∈ vs, fits ty v = true) {g : JFrame} (hg : g.method = m) (hsize : g.locals.size = c.maxLocals) {rest : List Value} (hs : g.stack = .ref a :: rest) (hd : decode c.code g.pc = .ok (.invokevirtual index, 3))
    (hf : 1 ≤ R.frames) {W cap : Nat} (hW : 2 * g.monitorRoom + (rest.map fun v => v.category).sum ≤ W) (hl : W + 14 ≤ R.locals) (hcap : vs.length ≤ cap) (hc : cells + 1 ≤ R.cells) (hsl : slots + cap ≤ R.slots) :
    ∃ T' h', Stand p l e R s m args below meth c T' locs (cells + 1) (slots + cap) ∧ T'.heap = h' ∧ Ext h h' ∧ LA Z h' h.size ty vs ∧ Exa Z h' h.size ad ∧
      ∀ target, Steps p.tables e below (T'.setTop { g with pc := g.pc + 3, stack := .ref h.size :: rest }) target → Steps p.tables e below (T.setTop g) target := by
  obtain ⟨cl, A, rfl⟩ := A
  have FC : FitC Z cl := fitC_of A fun i hi v hv => F v (Array.mem_toList_iff.mpr (Array.mem_of_getElem? hv))
  obtain ⟨T', h', X', e', ex, A', E', st⟩ := cloneA X hx hZ hown w1 w2 w3 w4 w5 w6 eT A E FC hg hsize hs hd hf hW hl (by rw [Array.length_toList] at hcap; exact hcap) hc hsl
  exact ⟨T', h', X', e', ex, ⟨cloneOf cl, A', rfl⟩, E', st⟩
theorem own_fitsJ (xs : List Int64) : ∀ v ∈ xs.map Value.long, fits .long v = true := fun v hv => by
  obtain ⟨x, -, rfl⟩ := List.mem_map.mp hv
  rfl
theorem own_readJ {xs pr rest : List Int64} {x : Int64} {k : Nat} (e : xs = pr ++ x :: rest) (hk : k = pr.length) : (xs.map Value.long)[k]? = some (.long x) := by
  subst e hk
  simp
end Own
section OwnCalls
variable {p : Program} {l : Launch} {e : Env} {R : Room} {s : State} {m : MethodId} {args : Array Value} {below : List Frame} {meth : Method} {c : Code} {T : State} {locs : List Loc} {cells slots : Nat}
abbrev OPre (R : Room) (as' : Array Value) (h : Heap) (rm : Room) : Pt → Array Value → Prop := fun A a => a = as' ∧ A.U.heap = h ∧ A.cells + rm.cells ≤ R.cells ∧ A.slots + rm.slots ≤ R.slots
abbrev OPost (Q : Option Value → Heap → List Loc → Prop) (rm : Room) : Pt → Array Value → Option Value → Pt → Prop := fun A _ v B => ∃ L, Q v B.U.heap L ∧ B.locs = A.locs ++ L ∧ B.cells = A.cells + rm.cells ∧ B.slots = A.slots + rm.slots
theorem own_callS (X : Stand p l e R s m args below meth c T locs cells slots) (hx : p.tables.exec = Jvm.exec) {own : String} {index : Nat} {y : MethodName} {bytes : ByteArray} {maxL : Nat} {ret : Option FieldType}
    (hown : s.vm.findClass own = some m.cls) (hlink : (Cond.methodLink own index y).before args s = true) (hstat : (Cond.static y).before args s = true) (hinit : (Cond.initialized y.cls).before args s = true)
    (hcode : (Cond.code y bytes maxL ret).before args s = true) (hy : y.cls ≠ "java/lang/invoke/MethodHandle" ∧ y.cls ≠ "java/lang/invoke/VarHandle")
    {W : Nat} {as' : Array Value} {h : Heap} {rm : Room} {Q : Option Value → Heap → List Loc → Prop} (hK : Back l R p e below s args y 3 W (OPre R as' h rm) (OPost Q rm))
    {g : JFrame} (hg : g.method = m) (hsize : g.locals.size = c.maxLocals) {argsL rest : List Value} (hlen : ∀ sig, parseMethodDescriptor y.desc = some sig → argsL.length = sig.parameters.length)
    (hstack : g.stack = argsL.reverse ++ rest) (hW : 2 * g.monitorRoom + (rest.map fun v => v.category).sum ≤ W) (hdg : decode c.code g.pc = .ok (.invokestatic index, 3))
    (hpre : argsL.toArray = as' ∧ T.heap = h ∧ cells + rm.cells ≤ R.cells ∧ slots + rm.slots ≤ R.slots) :
    ∃ (v : Option Value) (T' : State) (L : List Loc), Stand p l e R s m args below meth c T' (locs ++ L) (cells + rm.cells) (slots + rm.slots) ∧ Q v T'.heap L ∧ Steps p.tables e below (T.setTop g) (T'.setTop { g with pc := g.pc + 3, stack := v.toList ++ rest }) := by
  obtain ⟨v, vm, ⟨T', L', k', n'⟩, -, X', ⟨Lc, hQ, e1, e2, e3⟩, st⟩ := Jvm.LawKit.callS X hx hown hlink hstat hinit hcode hy hK hg hsize hlen hstack hW hdg (fun _ _ => hpre)
  dsimp only [Pt.U, Pt.locs, Pt.cells, Pt.slots] at X' e1 e2 e3 st hQ
  subst e1 e2 e3
  exact ⟨v, T', Lc, X', hQ, st _ (Steps.refl _)⟩
theorem own_callN (X : Stand p l e R s m args below meth c T locs cells slots) (hx : p.tables.exec = Jvm.exec) {own : String} {index : Nat} {y : MethodName} (hy1 : y.name = "<init>")
    (hown : s.vm.findClass own = some m.cls) (hlink : (Cond.methodLink own index y).before args s = true) (hinst : (Cond.instanceMethod y).before args s = true) {bytes : ByteArray} {maxL : Nat} (hcode : (Cond.code y bytes maxL none).before args s = true)
    (hy : y.cls ≠ "java/lang/invoke/MethodHandle" ∧ y.cls ≠ "java/lang/invoke/VarHandle")
    {W : Nat} {as' : Array Value} {h : Heap} {rm : Room} {Q : Option Value → Heap → List Loc → Prop} (hK : Back l R p e below s args y 3 W (OPre R as' h rm) (OPost Q rm))
    {g : JFrame} (hg : g.method = m) (hsize : g.locals.size = c.maxLocals) {a : Addr} {argsL rest : List Value} (hlen : ∀ sig, parseMethodDescriptor y.desc = some sig → argsL.length = sig.parameters.length)
    (hstack : g.stack = argsL.reverse ++ .ref a :: rest) (hW : 2 * g.monitorRoom + (rest.map fun v => v.category).sum ≤ W) (hdg : decode c.code g.pc = .ok (.invokespecial index, 3))
    (hpre : (Value.ref a :: argsL).toArray = as' ∧ T.heap = h ∧ cells + rm.cells ≤ R.cells ∧ slots + rm.slots ≤ R.slots) :
    ∃ (v : Option Value) (T' : State) (L : List Loc), Stand p l e R s m args below meth c T' (locs ++ L) (cells + rm.cells) (slots + rm.slots) ∧ Q v T'.heap L ∧ Steps p.tables e below (T.setTop g) (T'.setTop { g with pc := g.pc + 3, stack := v.toList ++ rest }) := by
  obtain ⟨v, vm, ⟨T', L', k', n'⟩, -, X', ⟨Lc, hQ, e1, e2, e3⟩, st⟩ := X.specialBack hx hy1 hown hlink hinst hcode hy hK hg hsize (Steps.refl _) hlen hstack hW hdg (fun _ _ => hpre)
  dsimp only [Pt.U, Pt.locs, Pt.cells, Pt.slots] at X' e1 e2 e3 st hQ
  subst e1 e2 e3
  exact ⟨v, T', Lc, X', hQ, st⟩
theorem own_callV (X : Stand p l e R s m args below meth c T locs cells slots) (hx : p.tables.exec = Jvm.exec) {own C : String} {index : Nat} {y : MethodName}
    (hown : s.vm.findClass own = some m.cls) (hlink : (Cond.methodLink own index y).before args s = true) (hdecl : (Cond.declares y).before args s = true) (hsel : (Cond.selects C y y).before args s = true) (hinst : (Cond.instanceMethod y).before args s = true)
    (hy : y.cls ≠ "java/lang/invoke/MethodHandle" ∧ y.cls ≠ "java/lang/invoke/VarHandle")
    {W : Nat} {as' : Array Value} {h : Heap} {rm : Room} {Q : Option Value → Heap → List Loc → Prop} (hK : Back l R p e below s args y 3 W (OPre R as' h rm) (OPost Q rm))
    {b : Addr} {cB : ClassId} (hcB : s.vm.findClass C = some cB) (hrecv : IsOf cB T b)
    {g : JFrame} (hg : g.method = m) (hsize : g.locals.size = c.maxLocals) {argsL rest : List Value} (hlen : ∀ sig, parseMethodDescriptor y.desc = some sig → argsL.length = sig.parameters.length)
    (hstack : g.stack = argsL.reverse ++ .ref b :: rest) (hW : 2 * g.monitorRoom + (rest.map fun v => v.category).sum ≤ W) (hdg : decode c.code g.pc = .ok (.invokevirtual index, 3))
    (hpre : (Value.ref b :: argsL).toArray = as' ∧ T.heap = h ∧ cells + rm.cells ≤ R.cells ∧ slots + rm.slots ≤ R.slots) :
    ∃ (v : Option Value) (T' : State) (L : List Loc), Stand p l e R s m args below meth c T' (locs ++ L) (cells + rm.cells) (slots + rm.slots) ∧ Q v T'.heap L ∧ Steps p.tables e below (T.setTop g) (T'.setTop { g with pc := g.pc + 3, stack := v.toList ++ rest }) := by
  obtain ⟨v, vm, ⟨T', L', k', n'⟩, -, X', ⟨Lc, hQ, e1, e2, e3⟩, st⟩ := X.virtualBack hx hown hlink hdecl (notFace_of_selects (args := args) hsel) hsel hinst hy hK hcB hrecv hg hsize (Steps.refl _) hlen hstack hW hdg (fun _ _ => hpre)
  dsimp only [Pt.U, Pt.locs, Pt.cells, Pt.slots] at X' e1 e2 e3 st hQ
  subst e1 e2 e3
  exact ⟨v, T', Lc, X', hQ, st⟩
end OwnCalls
theorem own_idx {j : Int32} {n : Nat} (h0 : 0 ≤ j.toInt) (h1 : j.toInt < n) : ¬ j < 0 ∧ j.toNatClampNeg < n := by
  have q : ¬ j < 0 := fun q => by have := Int32.lt_iff_toInt_lt.mp q; have z : (0 : Int32).toInt = 0 := (by decide); omega
  have r := nat_of q
  exact ⟨q, by omega⟩
theorem own_get {vs : List Value} (L : List Int32) (e : vs = L.map Value.int) {k : Nat} (hk : k < L.length) : ∃ x, vs[k]? = some (.int x) := by
  subst e
  exact ⟨L[k], by simp [hk]⟩
def own_min (x y : Int32) : Int32 := if y < x then y else x
def own_max (x y : Int32) : Int32 := if x < y then y else x
theorem own_minI (x y : Int32) : (own_min x y).toInt = min x.toInt y.toInt := by
  unfold own_min
  by_cases h : y < x
  · rw [if_pos h]; have := Int32.lt_iff_toInt_lt.mp h; omega
  · rw [if_neg h]; have : ¬ y.toInt < x.toInt := fun q => h (Int32.lt_iff_toInt_lt.mpr q); omega
theorem own_maxI (x y : Int32) : (own_max x y).toInt = max x.toInt y.toInt := by
  unfold own_max
  by_cases h : x < y
  · rw [if_pos h]; have := Int32.lt_iff_toInt_lt.mp h; omega
  · rw [if_neg h]; have : ¬ x.toInt < y.toInt := fun q => h (Int32.lt_iff_toInt_lt.mpr q); omega

theorem own_half (x y : Int32) (hx : 0 ≤ x.toInt) (hy : 0 ≤ y.toInt) (h : x.toInt + y.toInt < 2147483648) : (((x + y).toUInt32 >>> ((1 : Int32) &&& 31).toUInt32).toInt32).toInt = (x.toInt + y.toInt) / 2 := by
  rw [c_iushr (x + y) (1 : Int32) 1 (by decide) (by decide)]
  have c := c_iadd x y
  have r := rng32 (x + y)
  omega
theorem own_ltr {x y : Int32} (h : x.toInt < y.toInt) : x < y := Int32.lt_iff_toInt_lt.mpr h
theorem own_inc (x : Int32) (h : x.toInt < 2147483647) : (x + (1 : Int32)).toInt = x.toInt + 1 := by
  have c := c_iadd x (1 : Int32)
  have r := rng32 (x + (1 : Int32))
  have q := rng32 x
  have o : (1 : Int32).toInt = 1 := by decide
  omega
theorem own_read (f : Nat → Int32) (N : Nat) (j : Int32) (h0 : 0 ≤ j.toInt) (h1 : j.toInt < N) : ((List.range N).map fun i => Value.int (f i))[j.toNatClampNeg]? = some (.int (f j.toNatClampNeg)) := by
  have h := (own_idx h0 h1).2
  simp [h]
theorem own_t01 {t : Int} {P : Prop} [Decidable P] (h : t = if P then 1 else 0) : 0 ≤ t ∧ t ≤ 1 := by
  subst h; by_cases q : P
  · rw [if_pos q]; decide
  · rw [if_neg q]; decide
theorem own_add1 (x t : Int32) (n : Nat) (h0 : 0 ≤ x.toInt) (h1 : x.toInt ≤ n) (h2 : 0 ≤ t.toInt) (h3 : t.toInt ≤ 1) (hn : n ≤ 1000 := by decide) : (x + t).toInt = x.toInt + t.toInt := by
  have c := c_iadd x t
  have r := rng32 (x + t)
  omega
theorem own_cnt (f r : Int) (h0 : 0 ≤ f) (h1 : f ≤ r) (h2 : r ≤ 8) : ((((((((f + (if (f ≤ ((0 : Nat) : Int) ∧ ((0 : Nat) : Int) < r) then 1 else 0)) + (if (f ≤ ((1 : Nat) : Int) ∧ ((1 : Nat) : Int) < r) then 1 else 0)) + (if (f ≤ ((2 : Nat) : Int) ∧ ((2 : Nat) : Int) < r) then 1 else 0)) + (if (f ≤ ((3 : Nat) : Int) ∧ ((3 : Nat) : Int) < r) then 1 else 0)) + (if (f ≤ ((4 : Nat) : Int) ∧ ((4 : Nat) : Int) < r) then 1 else 0)) + (if (f ≤ ((5 : Nat) : Int) ∧ ((5 : Nat) : Int) < r) then 1 else 0)) + (if (f ≤ ((6 : Nat) : Int) ∧ ((6 : Nat) : Int) < r) then 1 else 0)) + (if (f ≤ ((7 : Nat) : Int) ∧ ((7 : Nat) : Int) < r) then 1 else 0)) = r := by
  have hf : f = 0 ∨ f = 1 ∨ f = 2 ∨ f = 3 ∨ f = 4 ∨ f = 5 ∨ f = 6 ∨ f = 7 ∨ f = 8 := by omega
  have hr : r = 0 ∨ r = 1 ∨ r = 2 ∨ r = 3 ∨ r = 4 ∨ r = 5 ∨ r = 6 ∨ r = 7 ∨ r = 8 := by omega
  rcases hf with rfl | rfl | rfl | rfl | rfl | rfl | rfl | rfl | rfl <;> rcases hr with rfl | rfl | rfl | rfl | rfl | rfl | rfl | rfl | rfl <;> first | (exfalso; omega) | decide
def own_lt (f : Nat → Int32) (k fr to vl : Int32) : Int32 := if (k.toInt < fr.toInt ∨ to.toInt ≤ k.toInt) then 0 else if (f k.toNatClampNeg).toInt < vl.toInt then 1 else 0
theorem d1_0 : decode jdk_29_method_65_code 0 = .ok (.iload_n 0, 1) := by decide +kernel
theorem d1_1 : decode jdk_29_method_65_code 1 = .ok (.iload_n 1, 1) := by decide +kernel
theorem d1_2 : decode jdk_29_method_65_code 2 = .ok (.if_icmp .lt 7, 3) := by decide +kernel
theorem d1_9 : decode jdk_29_method_65_code 9 = .ok (.iload_n 1, 1) := by decide +kernel
theorem d1_10 : decode jdk_29_method_65_code 10 = .ok (.ireturn, 1) := by decide +kernel
theorem d1_5 : decode jdk_29_method_65_code 5 = .ok (.iload_n 0, 1) := by decide +kernel
theorem d1_6 : decode jdk_29_method_65_code 6 = .ok (.goto 4, 3) := by decide +kernel
theorem ef_rm1 (m : MethodId) (x0 : Int32) (x1 : Int32) : entryFrame m #[(.int x0), (.int x1)] 2 = mkF m 0 #[.val (.int x0), .val (.int x1)] [] := by first | (simp [entryFrame, mkF, argsToLocals, Value.category]; done) | rfl
def Q1 (Z : State) (x : Int32) (y : Int32) (h0 : Heap) (n0 : Nat) (v : Option Value) (h : Heap) (L : List Loc) : Prop := v = some (.int (own_max x y)) ∧ Fr n0 L ∧ h = h0
set_option maxRecDepth 65536 in
set_option maxHeartbeats 40000000 in
theorem rm1 (l : Launch) (Z : State) (a0 : Array Value) (hw : ∀ d ∈ tables_1, d.before a0 Z = true) (ws : List Jvm.Cond) (x : Int32) (y : Int32) (h0 : Heap) (n0 : Nat) (Z0 : n0 ≤ h0.size) :
    MetFree l (⟨"java/lang/Math", "max", "(II)I"⟩ : MethodName) (head1 (Jvm.Cond.code (⟨"java/lang/Math", "max", "(II)I"⟩ : MethodName) jdk_29_method_65_code 2 (some .int) :: ws) ({ frames := 0, cells := 0, slots := 0, locals := 0 } : Room)) (fun aa U => aa = #[(.int x), (.int y)] ∧ Z.Warmed39 U.vm ∧ U.heap = h0) (fun _ _ _ _ _ => True) (fun _ U o U' => ∃ v L, o = .returned v ∧ Q1 Z x y h0 n0 v U'.heap L ∧ FrameEnd U o U' L ({ frames := 0, cells := 0, slots := 0, locals := 0 } : Room).cells ({ frames := 0, cells := 0, slots := 0, locals := 0 } : Room).slots) := by
  refine MetFree.of_bodySF (Jvm.Free.JP.mathPlain rfl (by decide +kernel)) hisR ?_
  intro p e s m args below meth c s₁ Bd hml0 hP hK
  obtain ⟨rfl, hZ, hh⟩ := hP
  have hx := Bd.exec
  have hby := Bd.bytes
  have hml : c.maxLocals = 2 := hml0
  have hown : s.vm.findClass "java/lang/Math" = some m.cls := findClass_of_methodNamed Bd.named
  have hnm := (name_of_methodNamed Bd.named Bd.method).1
  have X0 : Stand p l e ({ frames := 0, cells := 0, slots := 0, locals := 0 } : Room) s m #[(.int x), (.int y)] below meth c s₁ [] 0 0 := Stand.of_body Bd
  have e0 : s₁.heap = h0 := by rw [← hh, Bd.state]; rfl
  have N0 := Fr.nil n0
  obtain ⟨Ω, hΩ⟩ : ∃ z, z = s₁.setTop (entryFrame m #[(.int x), (.int y)] 2) := ⟨_, rfl⟩
  have S0 : Steps p.tables e below Ω (s₁.setTop (mkF m 0 #[.val (.int x), .val (.int y)] [])) := by rw [hΩ]; exact castTop (ef_rm1 m x y) (Steps.refl _)
  have S1 : Steps p.tables e below Ω (s₁.setTop (mkF m 2 #[.val (.int x), .val (.int y)] [(.int y), (.int x)])) := by
    refine S0.trans ?_
    refine XS.iloadN X0.here hx rfl (hb hby d1_0) rfl ?_
    show Steps p.tables e below (s₁.setTop (mkF m 1 #[.val (.int x), .val (.int y)] [(.int x)])) _
    refine XS.iloadN X0.here hx rfl (hb hby d1_1) rfl ?_
    exact Steps.refl _
  by_cases hc : x < y
  · have qhc : x.toInt < y.toInt := Int32.lt_iff_toInt_lt.mp hc
    have S2 : Steps p.tables e below Ω (s₁.setTop (mkF m 10 #[.val (.int x), .val (.int y)] [(.int y)])) := by
      refine S1.trans ?_
      refine XS.icmpYes X0.here hx rfl (pc0 := 2) (pc' := 9) rfl (hb hby d1_2) rfl (XT.ii_lt_t hc) (by decide) (by decide) ?_
      show Steps p.tables e below (s₁.setTop (mkF m 9 #[.val (.int x), .val (.int y)] [])) _
      refine XS.iloadN X0.here hx rfl (hb hby d1_9) rfl ?_
      exact Steps.refl _
    obtain ⟨fs, hr, hrun, hended, hW, hsame⟩ := X0.leave (v := some (.int y)) (fun h => by rw [Bd.returns] at h; cases h)
    have hfin : Steps p.tables e below Ω (s₁.setFrames fs) := by
      refine S2.trans ?_
      exact retI X0 hx Bd.returns (hb hby d1_10) hr
    rw [hΩ] at hfin
    refine ⟨_, _, hfin, hrun, hended, _, _, rfl, ?_, ⟨_, rfl⟩, hW, hsame.mono (by decide) (by decide)⟩
    show Q1 Z x y h0 n0 _ s₁.heap _
    rw [e0]
    exact ⟨by rw [own_max, if_pos hc], N0, rfl⟩
  · have qhc : ¬ x.toInt < y.toInt := fun q => hc (Int32.lt_iff_toInt_lt.mpr q)
    have S3 : Steps p.tables e below Ω (s₁.setTop (mkF m 10 #[.val (.int x), .val (.int y)] [(.int x)])) := by
      refine S1.trans ?_
      refine XS.icmpNo X0.here hx rfl (hb hby d1_2) rfl (XT.ii_lt_f hc) ?_
      show Steps p.tables e below (s₁.setTop (mkF m 5 #[.val (.int x), .val (.int y)] [])) _
      refine XS.iloadN X0.here hx rfl (hb hby d1_5) rfl ?_
      show Steps p.tables e below (s₁.setTop (mkF m 6 #[.val (.int x), .val (.int y)] [(.int x)])) _
      refine XS.goto X0.here hx rfl (pc0 := 6) (pc' := 10) rfl (hb hby d1_6) (by decide) (by decide) ?_
      exact Steps.refl _
    obtain ⟨fs, hr, hrun, hended, hW, hsame⟩ := X0.leave (v := some (.int x)) (fun h => by rw [Bd.returns] at h; cases h)
    have hfin : Steps p.tables e below Ω (s₁.setFrames fs) := by
      refine S3.trans ?_
      exact retI X0 hx Bd.returns (hb hby d1_10) hr
    rw [hΩ] at hfin
    refine ⟨_, _, hfin, hrun, hended, _, _, rfl, ?_, ⟨_, rfl⟩, hW, hsame.mono (by decide) (by decide)⟩
    show Q1 Z x y h0 n0 _ s₁.heap _
    rw [e0]
    exact ⟨by rw [own_max, if_neg hc], N0, rfl⟩
theorem d2_0 : decode prog_15_method_2_code 0 = .ok (.iload_n 1, 1) := by decide +kernel
theorem d2_1 : decode prog_15_method_2_code 1 = .ok (.istore 4, 2) := by decide +kernel
theorem d2_3 : decode prog_15_method_2_code 3 = .ok (.iload_n 2, 1) := by decide +kernel
theorem d2_4 : decode prog_15_method_2_code 4 = .ok (.istore 5, 2) := by decide +kernel
theorem d2_6 : decode prog_15_method_2_code 6 = .ok (.iload 4, 2) := by decide +kernel
theorem d2_8 : decode prog_15_method_2_code 8 = .ok (.iload 5, 2) := by decide +kernel
theorem d2_10 : decode prog_15_method_2_code 10 = .ok (.if_icmp .ge 36, 3) := by decide +kernel
theorem d2_13 : decode prog_15_method_2_code 13 = .ok (.iload 4, 2) := by decide +kernel
theorem d2_15 : decode prog_15_method_2_code 15 = .ok (.iload 5, 2) := by decide +kernel
theorem d2_17 : decode prog_15_method_2_code 17 = .ok (.iadd, 1) := by decide +kernel
theorem d2_18 : decode prog_15_method_2_code 18 = .ok (.iconst 1, 1) := by decide +kernel
theorem d2_19 : decode prog_15_method_2_code 19 = .ok (.iushr, 1) := by decide +kernel
theorem d2_20 : decode prog_15_method_2_code 20 = .ok (.istore 6, 2) := by decide +kernel
theorem d2_22 : decode prog_15_method_2_code 22 = .ok (.aload_n 0, 1) := by decide +kernel
theorem d2_23 : decode prog_15_method_2_code 23 = .ok (.iload 6, 2) := by decide +kernel
theorem d2_25 : decode prog_15_method_2_code 25 = .ok (.iaload, 1) := by decide +kernel
theorem d2_26 : decode prog_15_method_2_code 26 = .ok (.iload_n 3, 1) := by decide +kernel
theorem d2_27 : decode prog_15_method_2_code 27 = .ok (.if_icmp .ge 12, 3) := by decide +kernel
theorem d2_30 : decode prog_15_method_2_code 30 = .ok (.iload 6, 2) := by decide +kernel
theorem d2_32 : decode prog_15_method_2_code 32 = .ok (.iconst 1, 1) := by decide +kernel
theorem d2_33 : decode prog_15_method_2_code 33 = .ok (.iadd, 1) := by decide +kernel
theorem d2_34 : decode prog_15_method_2_code 34 = .ok (.istore 4, 2) := by decide +kernel
theorem d2_36 : decode prog_15_method_2_code 36 = .ok (.goto 7, 3) := by decide +kernel
theorem d2_43 : decode prog_15_method_2_code 43 = .ok (.goto (-37), 3) := by decide +kernel
theorem d2_39 : decode prog_15_method_2_code 39 = .ok (.iload 6, 2) := by decide +kernel
theorem d2_41 : decode prog_15_method_2_code 41 = .ok (.istore 5, 2) := by decide +kernel
theorem d2_46 : decode prog_15_method_2_code 46 = .ok (.iload 4, 2) := by decide +kernel
theorem d2_48 : decode prog_15_method_2_code 48 = .ok (.ireturn, 1) := by decide +kernel
theorem pn_0 : plainName "com/example/arcspan/arcspan/index/SortedInts" = true := by first | (simp [plainName, overriddenIn]; done) | decide +kernel
theorem ef_rm2 (m : MethodId) (x0 : Addr) (x1 : Int32) (x2 : Int32) (x3 : Int32) : entryFrame m #[(.ref x0), (.int x1), (.int x2), (.int x3)] 7 = mkF m 0 #[.val (.ref x0), .val (.int x1), .val (.int x2), .val (.int x3), .unset, .unset, .unset] [] := by first | (simp [entryFrame, mkF, argsToLocals, Value.category]; done) | rfl
def Q2 (Z : State) (a : Addr) (p1 : Int32) (p2 : Int32) (p3 : Int32) (f : Nat → Int32) (h0 : Heap) (n0 : Nat) (v : Option Value) (h : Heap) (L : List Loc) : Prop := ∃ r : Int32, v = some (.int r) ∧ Fr n0 L ∧ h = h0 ∧ p1.toInt ≤ r.toInt ∧ r.toInt ≤ p2.toInt ∧ (∀ i : Nat, p1.toInt ≤ i → (i : Int) < r.toInt → (f i).toInt < p3.toInt) ∧ (∀ i : Nat, r.toInt ≤ i → (i : Int) < p2.toInt → ¬ (f i).toInt < p3.toInt)
set_option maxRecDepth 65536 in
set_option maxHeartbeats 40000000 in
theorem rm2 (l : Launch) (Z : State) (a0 : Array Value) (hw : ∀ d ∈ tables_1, d.before a0 Z = true) (ws : List Jvm.Cond) (a : Addr) (p1 : Int32) (p2 : Int32) (p3 : Int32) (f : Nat → Int32) (h0 : Heap) (n0 : Nat) (Z0 : n0 ≤ h0.size) (A : LA Z h0 a .int ((List.range 8).map fun i => Value.int (f i))) (b1 : 0 ≤ p1.toInt) (b2 : p1.toInt ≤ p2.toInt) (b3 : p2.toInt ≤ 8) (srt : ∀ i j : Nat, i ≤ j → j < 8 → (f i).toInt ≤ (f j).toInt) :
    MetFree l (⟨"com/example/arcspan/arcspan/index/SortedInts", "firstAtOrAfter", "([IIII)I"⟩ : MethodName) (head1 (Jvm.Cond.code (⟨"com/example/arcspan/arcspan/index/SortedInts", "firstAtOrAfter", "([IIII)I"⟩ : MethodName) prog_15_method_2_code 7 (some .int) :: ws) ({ frames := 0, cells := 0, slots := 0, locals := 0 } : Room)) (fun aa U => aa = #[(.ref a), (.int p1), (.int p2), (.int p3)] ∧ Z.Warmed39 U.vm ∧ U.heap = h0) (fun _ _ _ _ _ => True) (fun _ U o U' => ∃ v L, o = .returned v ∧ Q2 Z a p1 p2 p3 f h0 n0 v U'.heap L ∧ FrameEnd U o U' L ({ frames := 0, cells := 0, slots := 0, locals := 0 } : Room).cells ({ frames := 0, cells := 0, slots := 0, locals := 0 } : Room).slots) := by
  refine MetFree.of_bodySF (plainFor_of_name pn_0) hisR ?_
  intro p e s m args below meth c s₁ Bd hml0 hP hK
  obtain ⟨rfl, hZ, hh⟩ := hP
  have hx := Bd.exec
  have hby := Bd.bytes
  have hml : c.maxLocals = 7 := hml0
  have hown : s.vm.findClass "com/example/arcspan/arcspan/index/SortedInts" = some m.cls := findClass_of_methodNamed Bd.named
  have hnm := (name_of_methodNamed Bd.named Bd.method).1
  have X0 : Stand p l e ({ frames := 0, cells := 0, slots := 0, locals := 0 } : Room) s m #[(.ref a), (.int p1), (.int p2), (.int p3)] below meth c s₁ [] 0 0 := Stand.of_body Bd
  have e0 : s₁.heap = h0 := by rw [← hh, Bd.state]; rfl
  have N0 := Fr.nil n0
  obtain ⟨Ω, hΩ⟩ : ∃ z, z = s₁.setTop (entryFrame m #[(.ref a), (.int p1), (.int p2), (.int p3)] 7) := ⟨_, rfl⟩
  have S0 : Steps p.tables e below Ω (s₁.setTop (mkF m 0 #[.val (.ref a), .val (.int p1), .val (.int p2), .val (.int p3), .unset, .unset, .unset] [])) := by rw [hΩ]; exact castTop (ef_rm2 m a p1 p2 p3) (Steps.refl _)
  have S1 : Steps p.tables e below Ω (s₁.setTop (mkF m 6 #[.val (.ref a), .val (.int p1), .val (.int p2), .val (.int p3), .val (.int p1), .val (.int p2), .unset] [])) := by
    refine S0.trans ?_
    refine XS.iloadN X0.here hx rfl (hb hby d2_0) rfl ?_
    show Steps p.tables e below (s₁.setTop (mkF m 1 #[.val (.ref a), .val (.int p1), .val (.int p2), .val (.int p3), .unset, .unset, .unset] [(.int p1)])) _
    refine XS.istore X0.here hx rfl (hb hby d2_1) rfl (l' := #[.val (.ref a), .val (.int p1), .val (.int p2), .val (.int p3), .val (.int p1), .unset, .unset]) rfl ?_
    show Steps p.tables e below (s₁.setTop (mkF m 3 #[.val (.ref a), .val (.int p1), .val (.int p2), .val (.int p3), .val (.int p1), .unset, .unset] [])) _
    refine XS.iloadN X0.here hx rfl (hb hby d2_3) rfl ?_
    show Steps p.tables e below (s₁.setTop (mkF m 4 #[.val (.ref a), .val (.int p1), .val (.int p2), .val (.int p3), .val (.int p1), .unset, .unset] [(.int p2)])) _
    refine XS.istore X0.here hx rfl (hb hby d2_4) rfl (l' := #[.val (.ref a), .val (.int p1), .val (.int p2), .val (.int p3), .val (.int p1), .val (.int p2), .unset]) rfl ?_
    exact Steps.refl _
  have LOOP : ∀ (k : Nat) (lo hi : Int32) (s6 : Slot), One s6 → p1.toInt ≤ lo.toInt → lo.toInt ≤ hi.toInt → hi.toInt ≤ p2.toInt → (∀ i : Nat, p1.toInt ≤ i → (i : Int) < lo.toInt → (f i).toInt < p3.toInt) → (∀ i : Nat, hi.toInt ≤ i → (i : Int) < p2.toInt → ¬ (f i).toInt < p3.toInt) → hi.toInt - lo.toInt < k → ∃ (r : Int32) (s5 s6' : Slot), (p1.toInt ≤ r.toInt ∧ r.toInt ≤ p2.toInt ∧ (∀ i : Nat, p1.toInt ≤ i → (i : Int) < r.toInt → (f i).toInt < p3.toInt) ∧ (∀ i : Nat, r.toInt ≤ i → (i : Int) < p2.toInt → ¬ (f i).toInt < p3.toInt)) ∧ Steps p.tables e below (s₁.setTop (mkF m 6 #[.val (.ref a), .val (.int p1), .val (.int p2), .val (.int p3), .val (.int lo), .val (.int hi), s6] [])) (s₁.setTop (mkF m 46 #[.val (.ref a), .val (.int p1), .val (.int p2), .val (.int p3), .val (.int r), s5, s6'] [])) := by
    intro k
    induction k with
    | zero => intro lo hi s6 hs6 i1 i2 i3 i4 i5 i6; exfalso; omega
    | succ k ih =>
      intro lo hi s6 hs6 i1 i2 i3 i4 i5 i6
      have P2 : Steps p.tables e below (s₁.setTop (mkF m 6 #[.val (.ref a), .val (.int p1), .val (.int p2), .val (.int p3), .val (.int lo), .val (.int hi), s6] [])) (s₁.setTop (mkF m 6 #[.val (.ref a), .val (.int p1), .val (.int p2), .val (.int p3), .val (.int lo), .val (.int hi), s6] [])) := Steps.refl _
      have S3 : Steps p.tables e below (s₁.setTop (mkF m 6 #[.val (.ref a), .val (.int p1), .val (.int p2), .val (.int p3), .val (.int lo), .val (.int hi), s6] [])) (s₁.setTop (mkF m 10 #[.val (.ref a), .val (.int p1), .val (.int p2), .val (.int p3), .val (.int lo), .val (.int hi), s6] [(.int hi), (.int lo)])) := by
        refine P2.trans ?_
        refine XS.iload X0.here hx rfl (hb hby d2_6) rfl ?_
        show Steps p.tables e below (s₁.setTop (mkF m 8 #[.val (.ref a), .val (.int p1), .val (.int p2), .val (.int p3), .val (.int lo), .val (.int hi), s6] [(.int lo)])) _
        refine XS.iload X0.here hx rfl (hb hby d2_8) rfl ?_
        exact Steps.refl _
      by_cases hc : lo < hi
      · have qhc : lo.toInt < hi.toInt := Int32.lt_iff_toInt_lt.mp hc
        have S4 : Steps p.tables e below (s₁.setTop (mkF m 6 #[.val (.ref a), .val (.int p1), .val (.int p2), .val (.int p3), .val (.int lo), .val (.int hi), s6] [])) (s₁.setTop (mkF m 20 #[.val (.ref a), .val (.int p1), .val (.int p2), .val (.int p3), .val (.int lo), .val (.int hi), s6] [(.int (((lo + hi).toUInt32 >>> ((1 : Int32) &&& 31).toUInt32).toInt32))])) := by
          refine S3.trans ?_
          refine XS.icmpNo X0.here hx rfl (hb hby d2_10) rfl (XT.ii_ge_f hc) ?_
          show Steps p.tables e below (s₁.setTop (mkF m 13 #[.val (.ref a), .val (.int p1), .val (.int p2), .val (.int p3), .val (.int lo), .val (.int hi), s6] [])) _
          refine XS.iload X0.here hx rfl (hb hby d2_13) rfl ?_
          show Steps p.tables e below (s₁.setTop (mkF m 15 #[.val (.ref a), .val (.int p1), .val (.int p2), .val (.int p3), .val (.int lo), .val (.int hi), s6] [(.int lo)])) _
          refine XS.iload X0.here hx rfl (hb hby d2_15) rfl ?_
          show Steps p.tables e below (s₁.setTop (mkF m 17 #[.val (.ref a), .val (.int p1), .val (.int p2), .val (.int p3), .val (.int lo), .val (.int hi), s6] [(.int hi), (.int lo)])) _
          refine XS.iadd X0.here hx rfl (hb hby d2_17) rfl ?_
          show Steps p.tables e below (s₁.setTop (mkF m 18 #[.val (.ref a), .val (.int p1), .val (.int p2), .val (.int p3), .val (.int lo), .val (.int hi), s6] [(.int (lo + hi))])) _
          refine XS.iconst X0.here hx rfl (hb hby d2_18) ?_
          show Steps p.tables e below (s₁.setTop (mkF m 19 #[.val (.ref a), .val (.int p1), .val (.int p2), .val (.int p3), .val (.int lo), .val (.int hi), s6] [(.int (1 : Int32)), (.int (lo + hi))])) _
          refine XS.iushr X0.here hx rfl (hb hby d2_19) rfl ?_
          exact Steps.refl _
        obtain ⟨mi, h_mi⟩ : ∃ z : Int32, z = (((lo + hi).toUInt32 >>> ((1 : Int32) &&& 31).toUInt32).toInt32) := ⟨_, rfl⟩
        rw [← h_mi] at S4
        have hmi := own_half lo hi (by omega) (by omega) (by omega)
        rw [← h_mi] at hmi
        have hin := own_idx (j := mi) (n := 8) (by omega) (by omega)
        have hnat := nat_of hin.1
        have hrd := own_read f 8 mi (by omega) (by omega)
        have S5 : Steps p.tables e below (s₁.setTop (mkF m 6 #[.val (.ref a), .val (.int p1), .val (.int p2), .val (.int p3), .val (.int lo), .val (.int hi), s6] [])) (s₁.setTop (mkF m 25 #[.val (.ref a), .val (.int p1), .val (.int p2), .val (.int p3), .val (.int lo), .val (.int hi), .val (.int mi)] [(.int mi), (.ref a)])) := by
          refine S4.trans ?_
          refine XS.istoreS X0.here hx rfl (hb hby d2_20) rfl rfl hs6 ?_
          show Steps p.tables e below (s₁.setTop (mkF m 22 #[.val (.ref a), .val (.int p1), .val (.int p2), .val (.int p3), .val (.int lo), .val (.int hi), .val (.int mi)] [])) _
          refine XS.aloadN X0.here hx rfl (hb hby d2_22) rfl rfl ?_
          show Steps p.tables e below (s₁.setTop (mkF m 23 #[.val (.ref a), .val (.int p1), .val (.int p2), .val (.int p3), .val (.int lo), .val (.int hi), .val (.int mi)] [(.ref a)])) _
          refine XS.iload X0.here hx rfl (hb hby d2_23) rfl ?_
          exact Steps.refl _
        have S6 : Steps p.tables e below (s₁.setTop (mkF m 6 #[.val (.ref a), .val (.int p1), .val (.int p2), .val (.int p3), .val (.int lo), .val (.int hi), s6] [])) (s₁.setTop (mkF m 26 #[.val (.ref a), .val (.int p1), .val (.int p2), .val (.int p3), .val (.int lo), .val (.int hi), .val (.int mi)] [(.int (f mi.toNatClampNeg))])) := S5.trans (own_ldI X0 hx hZ e0 A (j := mi) (x := (f mi.toNatClampNeg)) hin.1 hrd (g := (mkF m 25 #[.val (.ref a), .val (.int p1), .val (.int p2), .val (.int p3), .val (.int lo), .val (.int hi), .val (.int mi)] [(.int mi), (.ref a)])) rfl rfl (hb hby d2_25) _ (Steps.refl _))
        have S7 : Steps p.tables e below (s₁.setTop (mkF m 6 #[.val (.ref a), .val (.int p1), .val (.int p2), .val (.int p3), .val (.int lo), .val (.int hi), s6] [])) (s₁.setTop (mkF m 27 #[.val (.ref a), .val (.int p1), .val (.int p2), .val (.int p3), .val (.int lo), .val (.int hi), .val (.int mi)] [(.int p3), (.int (f mi.toNatClampNeg))])) := by
          refine S6.trans ?_
          refine XS.iloadN X0.here hx rfl (hb hby d2_26) rfl ?_
          exact Steps.refl _
        by_cases hd : (f mi.toNatClampNeg) < p3
        · have qhd : (f mi.toNatClampNeg).toInt < p3.toInt := Int32.lt_iff_toInt_lt.mp hd
          have S8 : Steps p.tables e below (s₁.setTop (mkF m 6 #[.val (.ref a), .val (.int p1), .val (.int p2), .val (.int p3), .val (.int lo), .val (.int hi), s6] [])) (s₁.setTop (mkF m 6 #[.val (.ref a), .val (.int p1), .val (.int p2), .val (.int p3), .val (.int (mi + (1 : Int32))), .val (.int hi), .val (.int mi)] [])) := by
            refine S7.trans ?_
            refine XS.icmpNo X0.here hx rfl (hb hby d2_27) rfl (XT.ii_ge_f hd) ?_
            show Steps p.tables e below (s₁.setTop (mkF m 30 #[.val (.ref a), .val (.int p1), .val (.int p2), .val (.int p3), .val (.int lo), .val (.int hi), .val (.int mi)] [])) _
            refine XS.iload X0.here hx rfl (hb hby d2_30) rfl ?_
            show Steps p.tables e below (s₁.setTop (mkF m 32 #[.val (.ref a), .val (.int p1), .val (.int p2), .val (.int p3), .val (.int lo), .val (.int hi), .val (.int mi)] [(.int mi)])) _
            refine XS.iconst X0.here hx rfl (hb hby d2_32) ?_
            show Steps p.tables e below (s₁.setTop (mkF m 33 #[.val (.ref a), .val (.int p1), .val (.int p2), .val (.int p3), .val (.int lo), .val (.int hi), .val (.int mi)] [(.int (1 : Int32)), (.int mi)])) _
            refine XS.iadd X0.here hx rfl (hb hby d2_33) rfl ?_
            show Steps p.tables e below (s₁.setTop (mkF m 34 #[.val (.ref a), .val (.int p1), .val (.int p2), .val (.int p3), .val (.int lo), .val (.int hi), .val (.int mi)] [(.int (mi + (1 : Int32)))])) _
            refine XS.istore X0.here hx rfl (hb hby d2_34) rfl (l' := #[.val (.ref a), .val (.int p1), .val (.int p2), .val (.int p3), .val (.int (mi + (1 : Int32))), .val (.int hi), .val (.int mi)]) rfl ?_
            show Steps p.tables e below (s₁.setTop (mkF m 36 #[.val (.ref a), .val (.int p1), .val (.int p2), .val (.int p3), .val (.int (mi + (1 : Int32))), .val (.int hi), .val (.int mi)] [])) _
            refine XS.goto X0.here hx rfl (pc0 := 36) (pc' := 43) rfl (hb hby d2_36) (by decide) (by decide) ?_
            show Steps p.tables e below (s₁.setTop (mkF m 43 #[.val (.ref a), .val (.int p1), .val (.int p2), .val (.int p3), .val (.int (mi + (1 : Int32))), .val (.int hi), .val (.int mi)] [])) _
            refine XS.goto X0.here hx rfl (pc0 := 43) (pc' := 6) rfl (hb hby d2_43) (by decide) (by decide) ?_
            exact Steps.refl _
          have hinc := own_inc mi (by omega)
          obtain ⟨r, s5, s6', hp, SL⟩ := ih (mi + (1 : Int32)) hi (.val (.int mi)) (One.val rfl) (by omega) (by omega) i3 (fun i j1 j2 => by have := srt i mi.toNatClampNeg (by omega) (by omega); omega) i5 (by omega)
          exact ⟨r, s5, s6', hp, S8.trans SL⟩
        · have qhd : ¬ (f mi.toNatClampNeg).toInt < p3.toInt := fun q => hd (Int32.lt_iff_toInt_lt.mpr q)
          have S9 : Steps p.tables e below (s₁.setTop (mkF m 6 #[.val (.ref a), .val (.int p1), .val (.int p2), .val (.int p3), .val (.int lo), .val (.int hi), s6] [])) (s₁.setTop (mkF m 6 #[.val (.ref a), .val (.int p1), .val (.int p2), .val (.int p3), .val (.int lo), .val (.int mi), .val (.int mi)] [])) := by
            refine S7.trans ?_
            refine XS.icmpYes X0.here hx rfl (pc0 := 27) (pc' := 39) rfl (hb hby d2_27) rfl (XT.ii_ge_t hd) (by decide) (by decide) ?_
            show Steps p.tables e below (s₁.setTop (mkF m 39 #[.val (.ref a), .val (.int p1), .val (.int p2), .val (.int p3), .val (.int lo), .val (.int hi), .val (.int mi)] [])) _
            refine XS.iload X0.here hx rfl (hb hby d2_39) rfl ?_
            show Steps p.tables e below (s₁.setTop (mkF m 41 #[.val (.ref a), .val (.int p1), .val (.int p2), .val (.int p3), .val (.int lo), .val (.int hi), .val (.int mi)] [(.int mi)])) _
            refine XS.istore X0.here hx rfl (hb hby d2_41) rfl (l' := #[.val (.ref a), .val (.int p1), .val (.int p2), .val (.int p3), .val (.int lo), .val (.int mi), .val (.int mi)]) rfl ?_
            show Steps p.tables e below (s₁.setTop (mkF m 43 #[.val (.ref a), .val (.int p1), .val (.int p2), .val (.int p3), .val (.int lo), .val (.int mi), .val (.int mi)] [])) _
            refine XS.goto X0.here hx rfl (pc0 := 43) (pc' := 6) rfl (hb hby d2_43) (by decide) (by decide) ?_
            exact Steps.refl _
          obtain ⟨r, s5, s6', hp, SL⟩ := ih lo mi (.val (.int mi)) (One.val rfl) i1 (by omega) (by omega) i4 (fun i j1 j2 => by have := srt mi.toNatClampNeg i (by omega) (by omega); omega) (by omega)
          exact ⟨r, s5, s6', hp, S9.trans SL⟩
      · have qhc : ¬ lo.toInt < hi.toInt := fun q => hc (Int32.lt_iff_toInt_lt.mpr q)
        have S10 : Steps p.tables e below (s₁.setTop (mkF m 6 #[.val (.ref a), .val (.int p1), .val (.int p2), .val (.int p3), .val (.int lo), .val (.int hi), s6] [])) (s₁.setTop (mkF m 46 #[.val (.ref a), .val (.int p1), .val (.int p2), .val (.int p3), .val (.int lo), .val (.int hi), s6] [])) := by
          refine S3.trans ?_
          refine XS.icmpYes X0.here hx rfl (pc0 := 10) (pc' := 46) rfl (hb hby d2_10) rfl (XT.ii_ge_t hc) (by decide) (by decide) ?_
          exact Steps.refl _
        have hq : lo.toInt = hi.toInt := by omega
        exact ⟨lo, _, _, ⟨i1, by omega, i4, fun i j1 j2 => i5 i (by omega) j2⟩, S10⟩
  obtain ⟨r, s5, s6', hp, SL⟩ := LOOP 9 p1 p2 .unset One.u (by omega) b2 (by omega) (fun i j1 j2 => by omega) (fun i j1 j2 => by omega) (by omega)
  have S11 : Steps p.tables e below Ω (s₁.setTop (mkF m 46 #[.val (.ref a), .val (.int p1), .val (.int p2), .val (.int p3), .val (.int r), s5, s6'] [])) := S1.trans SL
  have S12 : Steps p.tables e below Ω (s₁.setTop (mkF m 48 #[.val (.ref a), .val (.int p1), .val (.int p2), .val (.int p3), .val (.int r), s5, s6'] [(.int r)])) := by
    refine S11.trans ?_
    refine XS.iload X0.here hx rfl (hb hby d2_46) rfl ?_
    exact Steps.refl _
  obtain ⟨fs, hr, hrun, hended, hW, hsame⟩ := X0.leave (v := some (.int r)) (fun h => by rw [Bd.returns] at h; cases h)
  have hfin : Steps p.tables e below Ω (s₁.setFrames fs) := by
    refine S12.trans ?_
    exact retI X0 hx Bd.returns (hb hby d2_48) hr
  rw [hΩ] at hfin
  refine ⟨_, _, hfin, hrun, hended, _, _, rfl, ?_, ⟨_, rfl⟩, hW, hsame.mono (by decide) (by decide)⟩
  show Q2 Z a p1 p2 p3 f h0 n0 _ s₁.heap _
  rw [e0]
  exact ⟨r, rfl, N0, rfl, hp⟩
theorem d3_0 : decode method_3_code 0 = .ok (.iload_n 1, 1) := by decide +kernel
theorem d3_1 : decode method_3_code 1 = .ok (.iload_n 2, 1) := by decide +kernel
theorem d3_2 : decode method_3_code 2 = .ok (.if_icmp .lt 8, 3) := by decide +kernel
theorem d3_10 : decode method_3_code 10 = .ok (.iconst 0, 1) := by decide +kernel
theorem d3_11 : decode method_3_code 11 = .ok (.ireturn, 1) := by decide +kernel
theorem d3_5 : decode method_3_code 5 = .ok (.iload_n 1, 1) := by decide +kernel
theorem d3_6 : decode method_3_code 6 = .ok (.iload_n 3, 1) := by decide +kernel
theorem d3_7 : decode method_3_code 7 = .ok (.if_icmp .lt 5, 3) := by decide +kernel
theorem d3_12 : decode method_3_code 12 = .ok (.aload_n 0, 1) := by decide +kernel
theorem d3_13 : decode method_3_code 13 = .ok (.iload_n 1, 1) := by decide +kernel
theorem d3_14 : decode method_3_code 14 = .ok (.iaload, 1) := by decide +kernel
theorem d3_15 : decode method_3_code 15 = .ok (.iload 4, 2) := by decide +kernel
theorem d3_17 : decode method_3_code 17 = .ok (.if_icmp .ge 5, 3) := by decide +kernel
theorem d3_20 : decode method_3_code 20 = .ok (.iconst 1, 1) := by decide +kernel
theorem d3_21 : decode method_3_code 21 = .ok (.ireturn, 1) := by decide +kernel
theorem d3_22 : decode method_3_code 22 = .ok (.iconst 0, 1) := by decide +kernel
theorem d3_23 : decode method_3_code 23 = .ok (.ireturn, 1) := by decide +kernel
theorem pn_1 : plainName "com/example/arcspan/arcspan/index/SortedIntsFirstAtOrAfterPinLaw" = true := by first | (simp [plainName, overriddenIn]; done) | decide +kernel
theorem ef_rm3 (m : MethodId) (x0 : Addr) (x1 : Int32) (x2 : Int32) (x3 : Int32) (x4 : Int32) : entryFrame m #[(.ref x0), (.int x1), (.int x2), (.int x3), (.int x4)] 5 = mkF m 0 #[.val (.ref x0), .val (.int x1), .val (.int x2), .val (.int x3), .val (.int x4)] [] := by first | (simp [entryFrame, mkF, argsToLocals, Value.category]; done) | rfl
def Q3 (Z : State) (a : Addr) (k1 : Int32) (p1 : Int32) (p2 : Int32) (p3 : Int32) (f : Nat → Int32) (h0 : Heap) (n0 : Nat) (v : Option Value) (h : Heap) (L : List Loc) : Prop := v = some (.int (own_lt f k1 p1 p2 p3)) ∧ Fr n0 L ∧ h = h0
set_option maxRecDepth 65536 in
set_option maxHeartbeats 40000000 in
theorem rm3 (l : Launch) (Z : State) (a0 : Array Value) (hw : ∀ d ∈ tables_1, d.before a0 Z = true) (ws : List Jvm.Cond) (a : Addr) (k1 : Int32) (p1 : Int32) (p2 : Int32) (p3 : Int32) (f : Nat → Int32) (h0 : Heap) (n0 : Nat) (Z0 : n0 ≤ h0.size) (A : LA Z h0 a .int ((List.range 8).map fun i => Value.int (f i))) (b1 : 0 ≤ k1.toInt) (b2 : k1.toInt < 8) :
    MetFree l (⟨"com/example/arcspan/arcspan/index/SortedIntsFirstAtOrAfterPinLaw", "lt", "([IIIII)I"⟩ : MethodName) (head1 (Jvm.Cond.code (⟨"com/example/arcspan/arcspan/index/SortedIntsFirstAtOrAfterPinLaw", "lt", "([IIIII)I"⟩ : MethodName) method_3_code 5 (some .int) :: ws) ({ frames := 0, cells := 0, slots := 0, locals := 0 } : Room)) (fun aa U => aa = #[(.ref a), (.int k1), (.int p1), (.int p2), (.int p3)] ∧ Z.Warmed39 U.vm ∧ U.heap = h0) (fun _ _ _ _ _ => True) (fun _ U o U' => ∃ v L, o = .returned v ∧ Q3 Z a k1 p1 p2 p3 f h0 n0 v U'.heap L ∧ FrameEnd U o U' L ({ frames := 0, cells := 0, slots := 0, locals := 0 } : Room).cells ({ frames := 0, cells := 0, slots := 0, locals := 0 } : Room).slots) := by
  refine MetFree.of_bodySF (plainFor_of_name pn_1) hisR ?_
  intro p e s m args below meth c s₁ Bd hml0 hP hK
  obtain ⟨rfl, hZ, hh⟩ := hP
  have hx := Bd.exec
  have hby := Bd.bytes
  have hml : c.maxLocals = 5 := hml0
  have hown : s.vm.findClass "com/example/arcspan/arcspan/index/SortedIntsFirstAtOrAfterPinLaw" = some m.cls := findClass_of_methodNamed Bd.named
  have hnm := (name_of_methodNamed Bd.named Bd.method).1
  have X0 : Stand p l e ({ frames := 0, cells := 0, slots := 0, locals := 0 } : Room) s m #[(.ref a), (.int k1), (.int p1), (.int p2), (.int p3)] below meth c s₁ [] 0 0 := Stand.of_body Bd
  have e0 : s₁.heap = h0 := by rw [← hh, Bd.state]; rfl
  have N0 := Fr.nil n0
  obtain ⟨Ω, hΩ⟩ : ∃ z, z = s₁.setTop (entryFrame m #[(.ref a), (.int k1), (.int p1), (.int p2), (.int p3)] 5) := ⟨_, rfl⟩
  have S0 : Steps p.tables e below Ω (s₁.setTop (mkF m 0 #[.val (.ref a), .val (.int k1), .val (.int p1), .val (.int p2), .val (.int p3)] [])) := by rw [hΩ]; exact castTop (ef_rm3 m a k1 p1 p2 p3) (Steps.refl _)
  have S1 : Steps p.tables e below Ω (s₁.setTop (mkF m 2 #[.val (.ref a), .val (.int k1), .val (.int p1), .val (.int p2), .val (.int p3)] [(.int p1), (.int k1)])) := by
    refine S0.trans ?_
    refine XS.iloadN X0.here hx rfl (hb hby d3_0) rfl ?_
    show Steps p.tables e below (s₁.setTop (mkF m 1 #[.val (.ref a), .val (.int k1), .val (.int p1), .val (.int p2), .val (.int p3)] [(.int k1)])) _
    refine XS.iloadN X0.here hx rfl (hb hby d3_1) rfl ?_
    exact Steps.refl _
  by_cases c1 : k1 < p1
  · have qc1 : k1.toInt < p1.toInt := Int32.lt_iff_toInt_lt.mp c1
    have S2 : Steps p.tables e below Ω (s₁.setTop (mkF m 11 #[.val (.ref a), .val (.int k1), .val (.int p1), .val (.int p2), .val (.int p3)] [(.int (0 : Int32))])) := by
      refine S1.trans ?_
      refine XS.icmpYes X0.here hx rfl (pc0 := 2) (pc' := 10) rfl (hb hby d3_2) rfl (XT.ii_lt_t c1) (by decide) (by decide) ?_
      show Steps p.tables e below (s₁.setTop (mkF m 10 #[.val (.ref a), .val (.int k1), .val (.int p1), .val (.int p2), .val (.int p3)] [])) _
      refine XS.iconst X0.here hx rfl (hb hby d3_10) ?_
      exact Steps.refl _
    obtain ⟨fs, hr, hrun, hended, hW, hsame⟩ := X0.leave (v := some (.int (0 : Int32))) (fun h => by rw [Bd.returns] at h; cases h)
    have hfin : Steps p.tables e below Ω (s₁.setFrames fs) := by
      refine S2.trans ?_
      exact retI X0 hx Bd.returns (hb hby d3_11) hr
    rw [hΩ] at hfin
    refine ⟨_, _, hfin, hrun, hended, _, _, rfl, ?_, ⟨_, rfl⟩, hW, hsame.mono (by decide) (by decide)⟩
    show Q3 Z a k1 p1 p2 p3 f h0 n0 _ s₁.heap _
    rw [e0]
    exact ⟨by rw [own_lt, if_pos (by omega)], N0, rfl⟩
  · have qc1 : ¬ k1.toInt < p1.toInt := fun q => c1 (Int32.lt_iff_toInt_lt.mpr q)
    have S3 : Steps p.tables e below Ω (s₁.setTop (mkF m 7 #[.val (.ref a), .val (.int k1), .val (.int p1), .val (.int p2), .val (.int p3)] [(.int p2), (.int k1)])) := by
      refine S1.trans ?_
      refine XS.icmpNo X0.here hx rfl (hb hby d3_2) rfl (XT.ii_lt_f c1) ?_
      show Steps p.tables e below (s₁.setTop (mkF m 5 #[.val (.ref a), .val (.int k1), .val (.int p1), .val (.int p2), .val (.int p3)] [])) _
      refine XS.iloadN X0.here hx rfl (hb hby d3_5) rfl ?_
      show Steps p.tables e below (s₁.setTop (mkF m 6 #[.val (.ref a), .val (.int k1), .val (.int p1), .val (.int p2), .val (.int p3)] [(.int k1)])) _
      refine XS.iloadN X0.here hx rfl (hb hby d3_6) rfl ?_
      exact Steps.refl _
    by_cases c2 : k1 < p2
    · have qc2 : k1.toInt < p2.toInt := Int32.lt_iff_toInt_lt.mp c2
      have S5 : Steps p.tables e below Ω (s₁.setTop (mkF m 12 #[.val (.ref a), .val (.int k1), .val (.int p1), .val (.int p2), .val (.int p3)] [])) := by
        refine S3.trans ?_
        refine XS.icmpYes X0.here hx rfl (pc0 := 7) (pc' := 12) rfl (hb hby d3_7) rfl (XT.ii_lt_t c2) (by decide) (by decide) ?_
        exact Steps.refl _
      have hin := own_idx (j := k1) (n := 8) (by omega) (by omega)
      have S6 : Steps p.tables e below Ω (s₁.setTop (mkF m 14 #[.val (.ref a), .val (.int k1), .val (.int p1), .val (.int p2), .val (.int p3)] [(.int k1), (.ref a)])) := by
        refine S5.trans ?_
        refine XS.aloadN X0.here hx rfl (hb hby d3_12) rfl rfl ?_
        show Steps p.tables e below (s₁.setTop (mkF m 13 #[.val (.ref a), .val (.int k1), .val (.int p1), .val (.int p2), .val (.int p3)] [(.ref a)])) _
        refine XS.iloadN X0.here hx rfl (hb hby d3_13) rfl ?_
        exact Steps.refl _
      have S7 : Steps p.tables e below Ω (s₁.setTop (mkF m 15 #[.val (.ref a), .val (.int k1), .val (.int p1), .val (.int p2), .val (.int p3)] [(.int (f k1.toNatClampNeg))])) := S6.trans (own_ldI X0 hx hZ e0 A (j := k1) (x := (f k1.toNatClampNeg)) hin.1 (own_read f 8 k1 b1 b2) (g := (mkF m 14 #[.val (.ref a), .val (.int k1), .val (.int p1), .val (.int p2), .val (.int p3)] [(.int k1), (.ref a)])) rfl rfl (hb hby d3_14) _ (Steps.refl _))
      have S8 : Steps p.tables e below Ω (s₁.setTop (mkF m 17 #[.val (.ref a), .val (.int k1), .val (.int p1), .val (.int p2), .val (.int p3)] [(.int p3), (.int (f k1.toNatClampNeg))])) := by
        refine S7.trans ?_
        refine XS.iload X0.here hx rfl (hb hby d3_15) rfl ?_
        exact Steps.refl _
      by_cases c3 : (f k1.toNatClampNeg) < p3
      · have qc3 : (f k1.toNatClampNeg).toInt < p3.toInt := Int32.lt_iff_toInt_lt.mp c3
        have S9 : Steps p.tables e below Ω (s₁.setTop (mkF m 21 #[.val (.ref a), .val (.int k1), .val (.int p1), .val (.int p2), .val (.int p3)] [(.int (1 : Int32))])) := by
          refine S8.trans ?_
          refine XS.icmpNo X0.here hx rfl (hb hby d3_17) rfl (XT.ii_ge_f c3) ?_
          show Steps p.tables e below (s₁.setTop (mkF m 20 #[.val (.ref a), .val (.int k1), .val (.int p1), .val (.int p2), .val (.int p3)] [])) _
          refine XS.iconst X0.here hx rfl (hb hby d3_20) ?_
          exact Steps.refl _
        obtain ⟨fs, hr, hrun, hended, hW, hsame⟩ := X0.leave (v := some (.int (1 : Int32))) (fun h => by rw [Bd.returns] at h; cases h)
        have hfin : Steps p.tables e below Ω (s₁.setFrames fs) := by
          refine S9.trans ?_
          exact retI X0 hx Bd.returns (hb hby d3_21) hr
        rw [hΩ] at hfin
        refine ⟨_, _, hfin, hrun, hended, _, _, rfl, ?_, ⟨_, rfl⟩, hW, hsame.mono (by decide) (by decide)⟩
        show Q3 Z a k1 p1 p2 p3 f h0 n0 _ s₁.heap _
        rw [e0]
        exact ⟨by rw [own_lt, if_neg (by omega), if_pos (by omega)], N0, rfl⟩
      · have qc3 : ¬ (f k1.toNatClampNeg).toInt < p3.toInt := fun q => c3 (Int32.lt_iff_toInt_lt.mpr q)
        have S10 : Steps p.tables e below Ω (s₁.setTop (mkF m 23 #[.val (.ref a), .val (.int k1), .val (.int p1), .val (.int p2), .val (.int p3)] [(.int (0 : Int32))])) := by
          refine S8.trans ?_
          refine XS.icmpYes X0.here hx rfl (pc0 := 17) (pc' := 22) rfl (hb hby d3_17) rfl (XT.ii_ge_t c3) (by decide) (by decide) ?_
          show Steps p.tables e below (s₁.setTop (mkF m 22 #[.val (.ref a), .val (.int k1), .val (.int p1), .val (.int p2), .val (.int p3)] [])) _
          refine XS.iconst X0.here hx rfl (hb hby d3_22) ?_
          exact Steps.refl _
        obtain ⟨fs, hr, hrun, hended, hW, hsame⟩ := X0.leave (v := some (.int (0 : Int32))) (fun h => by rw [Bd.returns] at h; cases h)
        have hfin : Steps p.tables e below Ω (s₁.setFrames fs) := by
          refine S10.trans ?_
          exact retI X0 hx Bd.returns (hb hby d3_23) hr
        rw [hΩ] at hfin
        refine ⟨_, _, hfin, hrun, hended, _, _, rfl, ?_, ⟨_, rfl⟩, hW, hsame.mono (by decide) (by decide)⟩
        show Q3 Z a k1 p1 p2 p3 f h0 n0 _ s₁.heap _
        rw [e0]
        exact ⟨by rw [own_lt, if_neg (by omega), if_neg (by omega)], N0, rfl⟩
    · have qc2 : ¬ k1.toInt < p2.toInt := fun q => c2 (Int32.lt_iff_toInt_lt.mpr q)
      have S4 : Steps p.tables e below Ω (s₁.setTop (mkF m 11 #[.val (.ref a), .val (.int k1), .val (.int p1), .val (.int p2), .val (.int p3)] [(.int (0 : Int32))])) := by
        refine S3.trans ?_
        refine XS.icmpNo X0.here hx rfl (hb hby d3_7) rfl (XT.ii_lt_f c2) ?_
        show Steps p.tables e below (s₁.setTop (mkF m 10 #[.val (.ref a), .val (.int k1), .val (.int p1), .val (.int p2), .val (.int p3)] [])) _
        refine XS.iconst X0.here hx rfl (hb hby d3_10) ?_
        exact Steps.refl _
      obtain ⟨fs, hr, hrun, hended, hW, hsame⟩ := X0.leave (v := some (.int (0 : Int32))) (fun h => by rw [Bd.returns] at h; cases h)
      have hfin : Steps p.tables e below Ω (s₁.setFrames fs) := by
        refine S4.trans ?_
        exact retI X0 hx Bd.returns (hb hby d3_11) hr
      rw [hΩ] at hfin
      refine ⟨_, _, hfin, hrun, hended, _, _, rfl, ?_, ⟨_, rfl⟩, hW, hsame.mono (by decide) (by decide)⟩
      show Q3 Z a k1 p1 p2 p3 f h0 n0 _ s₁.heap _
      rw [e0]
      exact ⟨by rw [own_lt, if_pos (by omega)], N0, rfl⟩
theorem pd_0 : parseMethodDescriptor "(II)I" = some ⟨[.int, .int], some .int⟩ := by decide +kernel
theorem pd_1 : parseMethodDescriptor "([IIII)I" = some ⟨[(.array .int), .int, .int, .int], some .int⟩ := by decide +kernel
theorem pd_2 : parseMethodDescriptor "([IIIII)I" = some ⟨[(.array .int), .int, .int, .int, .int], some .int⟩ := by decide +kernel
theorem ef_rm0 (m : MethodId) (x0 : Int64) (x1 : Int64) (x2 : Int64) (x3 : Int64) (x4 : Int32) (x5 : Int32) : entryFrame m #[(.long x0), (.long x1), (.long x2), (.long x3), (.int x4), (.int x5)] maxLocals = mkF m 0 #[.val (.long x0), .second, .val (.long x1), .second, .val (.long x2), .second, .val (.long x3), .second, .val (.int x4), .val (.int x5), .unset, .unset, .unset, .unset, .unset] [] := by first | (simp [entryFrame, mkF, argsToLocals, Value.category, maxLocals]; done) | rfl
def Q0 (Z : State) (q1 : Int64) (q2 : Int64) (q3 : Int64) (q4 : Int64) (rg : Int32) (vl : Int32) (h0 : Heap) (n0 : Nat) (v : Option Value) (h : Heap) (L : List Loc) : Prop := v = some (.int 1) ∧ Fr n0 L
set_option maxRecDepth 65536 in
set_option maxHeartbeats 40000000 in
theorem rm0 (l : Launch) (Z : State) (a0 : Array Value) (hw : ∀ d ∈ tables_1, d.before a0 Z = true) (ws : List Jvm.Cond) (q1 : Int64) (q2 : Int64) (q3 : Int64) (q4 : Int64) (rg : Int32) (vl : Int32) (h0 : Heap) (n0 : Nat) (Z0 : n0 ≤ h0.size) :
    MetFree l x (head1 (Jvm.Cond.code x code maxLocals ret :: ws) room_1) (fun aa U => aa = #[(.long q1), (.long q2), (.long q3), (.long q4), (.int rg), (.int vl)] ∧ Z.Warmed39 U.vm ∧ U.heap = h0) (fun _ _ _ _ _ => True) (fun _ U o U' => ∃ v L, o = .returned v ∧ Q0 Z q1 q2 q3 q4 rg vl h0 n0 v U'.heap L ∧ FrameEnd U o U' L room_1.cells room_1.slots) := by
  refine MetFree.of_bodySF (plainFor_of_name pn_1) hisR ?_
  intro p e s m args below meth c s₁ Bd hml0 hP hK
  obtain ⟨rfl, hZ, hh⟩ := hP
  have hx := Bd.exec
  have hby := Bd.bytes
  have hml : c.maxLocals = 15 := hml0
  have hown : s.vm.findClass "com/example/arcspan/arcspan/index/SortedIntsFirstAtOrAfterPinLaw" = some m.cls := findClass_of_methodNamed Bd.named
  have hnm := (name_of_methodNamed Bd.named Bd.method).1
  have X0 : Stand p l e room_1 s m #[(.long q1), (.long q2), (.long q3), (.long q4), (.int rg), (.int vl)] below meth c s₁ [] 0 0 := Stand.of_body Bd
  have e0 : s₁.heap = h0 := by rw [← hh, Bd.state]; rfl
  have N0 := Fr.nil n0
  obtain ⟨Ω, hΩ⟩ : ∃ z, z = s₁.setTop (entryFrame m #[(.long q1), (.long q2), (.long q3), (.long q4), (.int rg), (.int vl)] maxLocals) := ⟨_, rfl⟩
  have S0 : Steps p.tables e below Ω (s₁.setTop (mkF m 0 #[.val (.long q1), .second, .val (.long q2), .second, .val (.long q3), .second, .val (.long q4), .second, .val (.int rg), .val (.int vl), .unset, .unset, .unset, .unset, .unset] [])) := by rw [hΩ]; exact castTop (ef_rm0 m q1 q2 q3 q4 rg vl) (Steps.refl _)
  have S1 : Steps p.tables e below Ω (s₁.setTop (mkF m 2 #[.val (.long q1), .second, .val (.long q2), .second, .val (.long q3), .second, .val (.long q4), .second, .val (.int rg), .val (.int vl), .unset, .unset, .unset, .unset, .unset] [(.int (8 : Int32))])) := by
    refine S0.trans ?_
    refine XS.bipush X0.here hx rfl (hb hby at_0) ?_
    exact Steps.refl _
  obtain ⟨T2, h2, k2, X2, e2, E2, A2, st2⟩ := newP X0 hx hZ (hw _ (List.mem_of_getElem? (i := 0) rfl)) e0 (g := (mkF m 2 #[.val (.long q1), .second, .val (.long q2), .second, .val (.long q3), .second, .val (.long q4), .second, .val (.int rg), .val (.int vl), .unset, .unset, .unset, .unset, .unset] [(.int (8 : Int32))])) rfl (hb hby at_2) rfl (by decide) (cap := 8) (by decide) (by decide) (by decide) (by decide)
  obtain ⟨b, s_b⟩ : ∃ z, z = h0.size := ⟨_, rfl⟩
  rw [← s_b] at A2 st2
  have g_b : n0 ≤ b := Nat.le_trans Z0 (Nat.le_of_eq s_b.symm)
  have S3 : Steps p.tables e below Ω (T2.setTop (mkF m 4 #[.val (.long q1), .second, .val (.long q2), .second, .val (.long q3), .second, .val (.long q4), .second, .val (.int rg), .val (.int vl), .unset, .unset, .unset, .unset, .unset] [(.ref b)])) := S1.trans (st2 _ (Steps.refl _))
  have V0 : LA Z h2 b .int [(.int (0 : Int32)), (.int (0 : Int32)), (.int (0 : Int32)), (.int (0 : Int32)), (.int (0 : Int32)), (.int (0 : Int32)), (.int (0 : Int32)), (.int (0 : Int32))] := LA.new A2 8 rfl
  have S4 : Steps p.tables e below Ω (T2.setTop (mkF m 14 #[.val (.long q1), .second, .val (.long q2), .second, .val (.long q3), .second, .val (.long q4), .second, .val (.int rg), .val (.int vl), .val (.ref b), .unset, .unset, .unset, .unset] [(.int (((q1.toUInt64 >>> ((32 : Int32) &&& 0x3f).toInt64.toUInt64).toInt64).toInt32)), (.int (0 : Int32)), (.ref b)])) := by
    refine S3.trans ?_
    refine XS.astore X2.here hx rfl (hb hby at_4) rfl rfl (l' := #[.val (.long q1), .second, .val (.long q2), .second, .val (.long q3), .second, .val (.long q4), .second, .val (.int rg), .val (.int vl), .val (.ref b), .unset, .unset, .unset, .unset]) rfl ?_
    show Steps p.tables e below (T2.setTop (mkF m 6 #[.val (.long q1), .second, .val (.long q2), .second, .val (.long q3), .second, .val (.long q4), .second, .val (.int rg), .val (.int vl), .val (.ref b), .unset, .unset, .unset, .unset] [])) _
    refine XS.aload X2.here hx rfl (hb hby at_6) rfl rfl ?_
    show Steps p.tables e below (T2.setTop (mkF m 8 #[.val (.long q1), .second, .val (.long q2), .second, .val (.long q3), .second, .val (.long q4), .second, .val (.int rg), .val (.int vl), .val (.ref b), .unset, .unset, .unset, .unset] [(.ref b)])) _
    refine XS.iconst X2.here hx rfl (hb hby at_8) ?_
    show Steps p.tables e below (T2.setTop (mkF m 9 #[.val (.long q1), .second, .val (.long q2), .second, .val (.long q3), .second, .val (.long q4), .second, .val (.int rg), .val (.int vl), .val (.ref b), .unset, .unset, .unset, .unset] [(.int (0 : Int32)), (.ref b)])) _
    refine XS.lloadN X2.here hx rfl (hb hby at_9) rfl ?_
    show Steps p.tables e below (T2.setTop (mkF m 10 #[.val (.long q1), .second, .val (.long q2), .second, .val (.long q3), .second, .val (.long q4), .second, .val (.int rg), .val (.int vl), .val (.ref b), .unset, .unset, .unset, .unset] [(.long q1), (.int (0 : Int32)), (.ref b)])) _
    refine XS.bipush X2.here hx rfl (hb hby at_10) ?_
    show Steps p.tables e below (T2.setTop (mkF m 12 #[.val (.long q1), .second, .val (.long q2), .second, .val (.long q3), .second, .val (.long q4), .second, .val (.int rg), .val (.int vl), .val (.ref b), .unset, .unset, .unset, .unset] [(.int (32 : Int32)), (.long q1), (.int (0 : Int32)), (.ref b)])) _
    refine XS.lushr X2.here hx rfl (hb hby at_12) rfl ?_
    show Steps p.tables e below (T2.setTop (mkF m 13 #[.val (.long q1), .second, .val (.long q2), .second, .val (.long q3), .second, .val (.long q4), .second, .val (.int rg), .val (.int vl), .val (.ref b), .unset, .unset, .unset, .unset] [(.long ((q1.toUInt64 >>> ((32 : Int32) &&& 0x3f).toInt64.toUInt64).toInt64)), (.int (0 : Int32)), (.ref b)])) _
    refine XS.l2i X2.here hx rfl (hb hby at_13) rfl ?_
    exact Steps.refl _
  obtain ⟨v0, h_v0⟩ : ∃ z : Int32, z = (((q1.toUInt64 >>> ((32 : Int32) &&& 0x3f).toInt64.toUInt64).toInt64).toInt32) := ⟨_, rfl⟩
  rw [← h_v0] at S4
  obtain ⟨T5, h5, X5, e5, W5, V5', st5⟩ := own_stI X2 hx hZ e2 V0 (j := (0 : Int32)) (i := 0) rfl ⟨by decide, Nat.le_of_ble_eq_true rfl⟩ (g := (mkF m 14 #[.val (.long q1), .second, .val (.long q2), .second, .val (.long q3), .second, .val (.long q4), .second, .val (.int rg), .val (.int vl), .val (.ref b), .unset, .unset, .unset, .unset] [(.int v0), (.int (0 : Int32)), (.ref b)])) rfl rfl (hb hby at_14)
  have V5 : LA Z h5 b .int [(.int v0), (.int (0 : Int32)), (.int (0 : Int32)), (.int (0 : Int32)), (.int (0 : Int32)), (.int (0 : Int32)), (.int (0 : Int32)), (.int (0 : Int32))] := V5'
  have S6 : Steps p.tables e below Ω (T5.setTop (mkF m 15 #[.val (.long q1), .second, .val (.long q2), .second, .val (.long q3), .second, .val (.long q4), .second, .val (.int rg), .val (.int vl), .val (.ref b), .unset, .unset, .unset, .unset] [])) := S4.trans (st5 _ (Steps.refl _))
  have N5 := Fr.snoc X5 N0 g_b
  have S7 : Steps p.tables e below Ω (T5.setTop (mkF m 21 #[.val (.long q1), .second, .val (.long q2), .second, .val (.long q3), .second, .val (.long q4), .second, .val (.int rg), .val (.int vl), .val (.ref b), .unset, .unset, .unset, .unset] [(.int (0 : Int32)), (.ref b), (.int (1 : Int32)), (.ref b)])) := by
    refine S6.trans ?_
    refine XS.aload X5.here hx rfl (hb hby at_15) rfl rfl ?_
    show Steps p.tables e below (T5.setTop (mkF m 17 #[.val (.long q1), .second, .val (.long q2), .second, .val (.long q3), .second, .val (.long q4), .second, .val (.int rg), .val (.int vl), .val (.ref b), .unset, .unset, .unset, .unset] [(.ref b)])) _
    refine XS.iconst X5.here hx rfl (hb hby at_17) ?_
    show Steps p.tables e below (T5.setTop (mkF m 18 #[.val (.long q1), .second, .val (.long q2), .second, .val (.long q3), .second, .val (.long q4), .second, .val (.int rg), .val (.int vl), .val (.ref b), .unset, .unset, .unset, .unset] [(.int (1 : Int32)), (.ref b)])) _
    refine XS.aload X5.here hx rfl (hb hby at_18) rfl rfl ?_
    show Steps p.tables e below (T5.setTop (mkF m 20 #[.val (.long q1), .second, .val (.long q2), .second, .val (.long q3), .second, .val (.long q4), .second, .val (.int rg), .val (.int vl), .val (.ref b), .unset, .unset, .unset, .unset] [(.ref b), (.int (1 : Int32)), (.ref b)])) _
    refine XS.iconst X5.here hx rfl (hb hby at_20) ?_
    exact Steps.refl _
  have S8 : Steps p.tables e below Ω (T5.setTop (mkF m 22 #[.val (.long q1), .second, .val (.long q2), .second, .val (.long q3), .second, .val (.long q4), .second, .val (.int rg), .val (.int vl), .val (.ref b), .unset, .unset, .unset, .unset] [(.int v0), (.int (1 : Int32)), (.ref b)])) := S7.trans (own_ldI X5 hx hZ e5 V5 (j := (0 : Int32)) (x := v0) (by decide) rfl (g := (mkF m 21 #[.val (.long q1), .second, .val (.long q2), .second, .val (.long q3), .second, .val (.long q4), .second, .val (.int rg), .val (.int vl), .val (.ref b), .unset, .unset, .unset, .unset] [(.int (0 : Int32)), (.ref b), (.int (1 : Int32)), (.ref b)])) rfl rfl (hb hby at_21) _ (Steps.refl _))
  have S9 : Steps p.tables e below Ω (T5.setTop (mkF m 24 #[.val (.long q1), .second, .val (.long q2), .second, .val (.long q3), .second, .val (.long q4), .second, .val (.int rg), .val (.int vl), .val (.ref b), .unset, .unset, .unset, .unset] [(.int (q1.toInt32)), (.int v0), (.int (1 : Int32)), (.ref b)])) := by
    refine S8.trans ?_
    refine XS.lloadN X5.here hx rfl (hb hby at_22) rfl ?_
    show Steps p.tables e below (T5.setTop (mkF m 23 #[.val (.long q1), .second, .val (.long q2), .second, .val (.long q3), .second, .val (.long q4), .second, .val (.int rg), .val (.int vl), .val (.ref b), .unset, .unset, .unset, .unset] [(.long q1), (.int v0), (.int (1 : Int32)), (.ref b)])) _
    refine XS.l2i X5.here hx rfl (hb hby at_23) rfl ?_
    exact Steps.refl _
  obtain ⟨v10, T10, L10, X10, hQ10, st10⟩ := own_callS X5 hx (y := (⟨"java/lang/Math", "max", "(II)I"⟩ : MethodName)) hown (mvT hZ (hw _ (List.mem_of_getElem? (i := 1) rfl))) (mvT hZ (hw _ (List.mem_of_getElem? (i := 2) rfl))) (mvT hZ (hw _ (List.mem_of_getElem? (i := 3) rfl))) (mvT hZ (hw _ (List.mem_of_getElem? (i := 4) rfl))) (by decide) (backOf (W := 2) (rm1 l Z a0 hw [] v0 (q1.toInt32)  h5 n0 (Nat.le_trans (Nat.le_trans Z0 E2.1) (Keep.of_wr W5).1) ) hZ (hw _ (List.mem_of_getElem? (i := 4) rfl)) (hw _ (List.mem_of_getElem? (i := 3) rfl)) (by decide) (by decide)) (g := (mkF m 24 #[.val (.long q1), .second, .val (.long q2), .second, .val (.long q3), .second, .val (.long q4), .second, .val (.int rg), .val (.int vl), .val (.ref b), .unset, .unset, .unset, .unset] [(.int (q1.toInt32)), (.int v0), (.int (1 : Int32)), (.ref b)])) rfl (by rw [hml]; rfl) (argsL := [(.int v0), (.int (q1.toInt32))]) (rest := [(.int (1 : Int32)), (.ref b)]) (lenOf pd_0 rfl) rfl (by show 2 * 0 + _ ≤ _; exact Nat.le_of_eq rfl) (hb hby at_24) ⟨rfl, e5, (by decide : 1 + 0 ≤ _), (by decide : 8 + 0 ≤ _)⟩
  obtain ⟨hv10, N10q, e10⟩ := hQ10
  rw [hv10] at st10
  have N10 := Fr.app N5 N10q
  have S11 : Steps p.tables e below Ω (T10.setTop (mkF m 27 #[.val (.long q1), .second, .val (.long q2), .second, .val (.long q3), .second, .val (.long q4), .second, .val (.int rg), .val (.int vl), .val (.ref b), .unset, .unset, .unset, .unset] [(.int (own_max v0 (q1.toInt32))), (.int (1 : Int32)), (.ref b)])) := S9.trans st10
  obtain ⟨v1, h_v1⟩ : ∃ z : Int32, z = (own_max v0 (q1.toInt32)) := ⟨_, rfl⟩
  rw [← h_v1] at S11
  have m1 : v0.toInt ≤ v1.toInt := by rw [h_v1, own_maxI]; omega
  obtain ⟨T12, h12, X12, e12, W12, V12', st12⟩ := own_stI X10 hx hZ e10 V5 (j := (1 : Int32)) (i := 1) rfl ⟨by decide, Nat.le_of_ble_eq_true rfl⟩ (g := (mkF m 27 #[.val (.long q1), .second, .val (.long q2), .second, .val (.long q3), .second, .val (.long q4), .second, .val (.int rg), .val (.int vl), .val (.ref b), .unset, .unset, .unset, .unset] [(.int v1), (.int (1 : Int32)), (.ref b)])) rfl rfl (hb hby at_27)
  have V12 : LA Z h12 b .int [(.int v0), (.int v1), (.int (0 : Int32)), (.int (0 : Int32)), (.int (0 : Int32)), (.int (0 : Int32)), (.int (0 : Int32)), (.int (0 : Int32))] := V12'
  have S13 : Steps p.tables e below Ω (T12.setTop (mkF m 28 #[.val (.long q1), .second, .val (.long q2), .second, .val (.long q3), .second, .val (.long q4), .second, .val (.int rg), .val (.int vl), .val (.ref b), .unset, .unset, .unset, .unset] [])) := S11.trans (st12 _ (Steps.refl _))
  have N12 := Fr.snoc X12 N10 g_b
  have S14 : Steps p.tables e below Ω (T12.setTop (mkF m 34 #[.val (.long q1), .second, .val (.long q2), .second, .val (.long q3), .second, .val (.long q4), .second, .val (.int rg), .val (.int vl), .val (.ref b), .unset, .unset, .unset, .unset] [(.int (1 : Int32)), (.ref b), (.int (2 : Int32)), (.ref b)])) := by
    refine S13.trans ?_
    refine XS.aload X12.here hx rfl (hb hby at_28) rfl rfl ?_
    show Steps p.tables e below (T12.setTop (mkF m 30 #[.val (.long q1), .second, .val (.long q2), .second, .val (.long q3), .second, .val (.long q4), .second, .val (.int rg), .val (.int vl), .val (.ref b), .unset, .unset, .unset, .unset] [(.ref b)])) _
    refine XS.iconst X12.here hx rfl (hb hby at_30) ?_
    show Steps p.tables e below (T12.setTop (mkF m 31 #[.val (.long q1), .second, .val (.long q2), .second, .val (.long q3), .second, .val (.long q4), .second, .val (.int rg), .val (.int vl), .val (.ref b), .unset, .unset, .unset, .unset] [(.int (2 : Int32)), (.ref b)])) _
    refine XS.aload X12.here hx rfl (hb hby at_31) rfl rfl ?_
    show Steps p.tables e below (T12.setTop (mkF m 33 #[.val (.long q1), .second, .val (.long q2), .second, .val (.long q3), .second, .val (.long q4), .second, .val (.int rg), .val (.int vl), .val (.ref b), .unset, .unset, .unset, .unset] [(.ref b), (.int (2 : Int32)), (.ref b)])) _
    refine XS.iconst X12.here hx rfl (hb hby at_33) ?_
    exact Steps.refl _
  have S15 : Steps p.tables e below Ω (T12.setTop (mkF m 35 #[.val (.long q1), .second, .val (.long q2), .second, .val (.long q3), .second, .val (.long q4), .second, .val (.int rg), .val (.int vl), .val (.ref b), .unset, .unset, .unset, .unset] [(.int v1), (.int (2 : Int32)), (.ref b)])) := S14.trans (own_ldI X12 hx hZ e12 V12 (j := (1 : Int32)) (x := v1) (by decide) rfl (g := (mkF m 34 #[.val (.long q1), .second, .val (.long q2), .second, .val (.long q3), .second, .val (.long q4), .second, .val (.int rg), .val (.int vl), .val (.ref b), .unset, .unset, .unset, .unset] [(.int (1 : Int32)), (.ref b), (.int (2 : Int32)), (.ref b)])) rfl rfl (hb hby at_34) _ (Steps.refl _))
  have S16 : Steps p.tables e below Ω (T12.setTop (mkF m 40 #[.val (.long q1), .second, .val (.long q2), .second, .val (.long q3), .second, .val (.long q4), .second, .val (.int rg), .val (.int vl), .val (.ref b), .unset, .unset, .unset, .unset] [(.int (((q2.toUInt64 >>> ((32 : Int32) &&& 0x3f).toInt64.toUInt64).toInt64).toInt32)), (.int v1), (.int (2 : Int32)), (.ref b)])) := by
    refine S15.trans ?_
    refine XS.lloadN X12.here hx rfl (hb hby at_35) rfl ?_
    show Steps p.tables e below (T12.setTop (mkF m 36 #[.val (.long q1), .second, .val (.long q2), .second, .val (.long q3), .second, .val (.long q4), .second, .val (.int rg), .val (.int vl), .val (.ref b), .unset, .unset, .unset, .unset] [(.long q2), (.int v1), (.int (2 : Int32)), (.ref b)])) _
    refine XS.bipush X12.here hx rfl (hb hby at_36) ?_
    show Steps p.tables e below (T12.setTop (mkF m 38 #[.val (.long q1), .second, .val (.long q2), .second, .val (.long q3), .second, .val (.long q4), .second, .val (.int rg), .val (.int vl), .val (.ref b), .unset, .unset, .unset, .unset] [(.int (32 : Int32)), (.long q2), (.int v1), (.int (2 : Int32)), (.ref b)])) _
    refine XS.lushr X12.here hx rfl (hb hby at_38) rfl ?_
    show Steps p.tables e below (T12.setTop (mkF m 39 #[.val (.long q1), .second, .val (.long q2), .second, .val (.long q3), .second, .val (.long q4), .second, .val (.int rg), .val (.int vl), .val (.ref b), .unset, .unset, .unset, .unset] [(.long ((q2.toUInt64 >>> ((32 : Int32) &&& 0x3f).toInt64.toUInt64).toInt64)), (.int v1), (.int (2 : Int32)), (.ref b)])) _
    refine XS.l2i X12.here hx rfl (hb hby at_39) rfl ?_
    exact Steps.refl _
  obtain ⟨v17, T17, L17, X17, hQ17, st17⟩ := own_callS X12 hx (y := (⟨"java/lang/Math", "max", "(II)I"⟩ : MethodName)) hown (mvT hZ (hw _ (List.mem_of_getElem? (i := 1) rfl))) (mvT hZ (hw _ (List.mem_of_getElem? (i := 2) rfl))) (mvT hZ (hw _ (List.mem_of_getElem? (i := 3) rfl))) (mvT hZ (hw _ (List.mem_of_getElem? (i := 4) rfl))) (by decide) (backOf (W := 2) (rm1 l Z a0 hw [] v1 (((q2.toUInt64 >>> ((32 : Int32) &&& 0x3f).toInt64.toUInt64).toInt64).toInt32)  h12 n0 (Nat.le_trans (Nat.le_trans (Nat.le_trans Z0 E2.1) (Keep.of_wr W5).1) (Keep.of_wr W12).1) ) hZ (hw _ (List.mem_of_getElem? (i := 4) rfl)) (hw _ (List.mem_of_getElem? (i := 3) rfl)) (by decide) (by decide)) (g := (mkF m 40 #[.val (.long q1), .second, .val (.long q2), .second, .val (.long q3), .second, .val (.long q4), .second, .val (.int rg), .val (.int vl), .val (.ref b), .unset, .unset, .unset, .unset] [(.int (((q2.toUInt64 >>> ((32 : Int32) &&& 0x3f).toInt64.toUInt64).toInt64).toInt32)), (.int v1), (.int (2 : Int32)), (.ref b)])) rfl (by rw [hml]; rfl) (argsL := [(.int v1), (.int (((q2.toUInt64 >>> ((32 : Int32) &&& 0x3f).toInt64.toUInt64).toInt64).toInt32))]) (rest := [(.int (2 : Int32)), (.ref b)]) (lenOf pd_0 rfl) rfl (by show 2 * 0 + _ ≤ _; exact Nat.le_of_eq rfl) (hb hby at_40) ⟨rfl, e12, (by decide : 1 + 0 ≤ _), (by decide : 8 + 0 ≤ _)⟩
  obtain ⟨hv17, N17q, e17⟩ := hQ17
  rw [hv17] at st17
  have N17 := Fr.app N12 N17q
  have S18 : Steps p.tables e below Ω (T17.setTop (mkF m 43 #[.val (.long q1), .second, .val (.long q2), .second, .val (.long q3), .second, .val (.long q4), .second, .val (.int rg), .val (.int vl), .val (.ref b), .unset, .unset, .unset, .unset] [(.int (own_max v1 (((q2.toUInt64 >>> ((32 : Int32) &&& 0x3f).toInt64.toUInt64).toInt64).toInt32))), (.int (2 : Int32)), (.ref b)])) := S16.trans st17
  obtain ⟨v2, h_v2⟩ : ∃ z : Int32, z = (own_max v1 (((q2.toUInt64 >>> ((32 : Int32) &&& 0x3f).toInt64.toUInt64).toInt64).toInt32)) := ⟨_, rfl⟩
  rw [← h_v2] at S18
  have m2 : v1.toInt ≤ v2.toInt := by rw [h_v2, own_maxI]; omega
  obtain ⟨T19, h19, X19, e19, W19, V19', st19⟩ := own_stI X17 hx hZ e17 V12 (j := (2 : Int32)) (i := 2) rfl ⟨by decide, Nat.le_of_ble_eq_true rfl⟩ (g := (mkF m 43 #[.val (.long q1), .second, .val (.long q2), .second, .val (.long q3), .second, .val (.long q4), .second, .val (.int rg), .val (.int vl), .val (.ref b), .unset, .unset, .unset, .unset] [(.int v2), (.int (2 : Int32)), (.ref b)])) rfl rfl (hb hby at_43)
  have V19 : LA Z h19 b .int [(.int v0), (.int v1), (.int v2), (.int (0 : Int32)), (.int (0 : Int32)), (.int (0 : Int32)), (.int (0 : Int32)), (.int (0 : Int32))] := V19'
  have S20 : Steps p.tables e below Ω (T19.setTop (mkF m 44 #[.val (.long q1), .second, .val (.long q2), .second, .val (.long q3), .second, .val (.long q4), .second, .val (.int rg), .val (.int vl), .val (.ref b), .unset, .unset, .unset, .unset] [])) := S18.trans (st19 _ (Steps.refl _))
  have N19 := Fr.snoc X19 N17 g_b
  have S21 : Steps p.tables e below Ω (T19.setTop (mkF m 50 #[.val (.long q1), .second, .val (.long q2), .second, .val (.long q3), .second, .val (.long q4), .second, .val (.int rg), .val (.int vl), .val (.ref b), .unset, .unset, .unset, .unset] [(.int (2 : Int32)), (.ref b), (.int (3 : Int32)), (.ref b)])) := by
    refine S20.trans ?_
    refine XS.aload X19.here hx rfl (hb hby at_44) rfl rfl ?_
    show Steps p.tables e below (T19.setTop (mkF m 46 #[.val (.long q1), .second, .val (.long q2), .second, .val (.long q3), .second, .val (.long q4), .second, .val (.int rg), .val (.int vl), .val (.ref b), .unset, .unset, .unset, .unset] [(.ref b)])) _
    refine XS.iconst X19.here hx rfl (hb hby at_46) ?_
    show Steps p.tables e below (T19.setTop (mkF m 47 #[.val (.long q1), .second, .val (.long q2), .second, .val (.long q3), .second, .val (.long q4), .second, .val (.int rg), .val (.int vl), .val (.ref b), .unset, .unset, .unset, .unset] [(.int (3 : Int32)), (.ref b)])) _
    refine XS.aload X19.here hx rfl (hb hby at_47) rfl rfl ?_
    show Steps p.tables e below (T19.setTop (mkF m 49 #[.val (.long q1), .second, .val (.long q2), .second, .val (.long q3), .second, .val (.long q4), .second, .val (.int rg), .val (.int vl), .val (.ref b), .unset, .unset, .unset, .unset] [(.ref b), (.int (3 : Int32)), (.ref b)])) _
    refine XS.iconst X19.here hx rfl (hb hby at_49) ?_
    exact Steps.refl _
  have S22 : Steps p.tables e below Ω (T19.setTop (mkF m 51 #[.val (.long q1), .second, .val (.long q2), .second, .val (.long q3), .second, .val (.long q4), .second, .val (.int rg), .val (.int vl), .val (.ref b), .unset, .unset, .unset, .unset] [(.int v2), (.int (3 : Int32)), (.ref b)])) := S21.trans (own_ldI X19 hx hZ e19 V19 (j := (2 : Int32)) (x := v2) (by decide) rfl (g := (mkF m 50 #[.val (.long q1), .second, .val (.long q2), .second, .val (.long q3), .second, .val (.long q4), .second, .val (.int rg), .val (.int vl), .val (.ref b), .unset, .unset, .unset, .unset] [(.int (2 : Int32)), (.ref b), (.int (3 : Int32)), (.ref b)])) rfl rfl (hb hby at_50) _ (Steps.refl _))
  have S23 : Steps p.tables e below Ω (T19.setTop (mkF m 53 #[.val (.long q1), .second, .val (.long q2), .second, .val (.long q3), .second, .val (.long q4), .second, .val (.int rg), .val (.int vl), .val (.ref b), .unset, .unset, .unset, .unset] [(.int (q2.toInt32)), (.int v2), (.int (3 : Int32)), (.ref b)])) := by
    refine S22.trans ?_
    refine XS.lloadN X19.here hx rfl (hb hby at_51) rfl ?_
    show Steps p.tables e below (T19.setTop (mkF m 52 #[.val (.long q1), .second, .val (.long q2), .second, .val (.long q3), .second, .val (.long q4), .second, .val (.int rg), .val (.int vl), .val (.ref b), .unset, .unset, .unset, .unset] [(.long q2), (.int v2), (.int (3 : Int32)), (.ref b)])) _
    refine XS.l2i X19.here hx rfl (hb hby at_52) rfl ?_
    exact Steps.refl _
  obtain ⟨v24, T24, L24, X24, hQ24, st24⟩ := own_callS X19 hx (y := (⟨"java/lang/Math", "max", "(II)I"⟩ : MethodName)) hown (mvT hZ (hw _ (List.mem_of_getElem? (i := 1) rfl))) (mvT hZ (hw _ (List.mem_of_getElem? (i := 2) rfl))) (mvT hZ (hw _ (List.mem_of_getElem? (i := 3) rfl))) (mvT hZ (hw _ (List.mem_of_getElem? (i := 4) rfl))) (by decide) (backOf (W := 2) (rm1 l Z a0 hw [] v2 (q2.toInt32)  h19 n0 (Nat.le_trans (Nat.le_trans (Nat.le_trans (Nat.le_trans Z0 E2.1) (Keep.of_wr W5).1) (Keep.of_wr W12).1) (Keep.of_wr W19).1) ) hZ (hw _ (List.mem_of_getElem? (i := 4) rfl)) (hw _ (List.mem_of_getElem? (i := 3) rfl)) (by decide) (by decide)) (g := (mkF m 53 #[.val (.long q1), .second, .val (.long q2), .second, .val (.long q3), .second, .val (.long q4), .second, .val (.int rg), .val (.int vl), .val (.ref b), .unset, .unset, .unset, .unset] [(.int (q2.toInt32)), (.int v2), (.int (3 : Int32)), (.ref b)])) rfl (by rw [hml]; rfl) (argsL := [(.int v2), (.int (q2.toInt32))]) (rest := [(.int (3 : Int32)), (.ref b)]) (lenOf pd_0 rfl) rfl (by show 2 * 0 + _ ≤ _; exact Nat.le_of_eq rfl) (hb hby at_53) ⟨rfl, e19, (by decide : 1 + 0 ≤ _), (by decide : 8 + 0 ≤ _)⟩
  obtain ⟨hv24, N24q, e24⟩ := hQ24
  rw [hv24] at st24
  have N24 := Fr.app N19 N24q
  have S25 : Steps p.tables e below Ω (T24.setTop (mkF m 56 #[.val (.long q1), .second, .val (.long q2), .second, .val (.long q3), .second, .val (.long q4), .second, .val (.int rg), .val (.int vl), .val (.ref b), .unset, .unset, .unset, .unset] [(.int (own_max v2 (q2.toInt32))), (.int (3 : Int32)), (.ref b)])) := S23.trans st24
  obtain ⟨v3, h_v3⟩ : ∃ z : Int32, z = (own_max v2 (q2.toInt32)) := ⟨_, rfl⟩
  rw [← h_v3] at S25
  have m3 : v2.toInt ≤ v3.toInt := by rw [h_v3, own_maxI]; omega
  obtain ⟨T26, h26, X26, e26, W26, V26', st26⟩ := own_stI X24 hx hZ e24 V19 (j := (3 : Int32)) (i := 3) rfl ⟨by decide, Nat.le_of_ble_eq_true rfl⟩ (g := (mkF m 56 #[.val (.long q1), .second, .val (.long q2), .second, .val (.long q3), .second, .val (.long q4), .second, .val (.int rg), .val (.int vl), .val (.ref b), .unset, .unset, .unset, .unset] [(.int v3), (.int (3 : Int32)), (.ref b)])) rfl rfl (hb hby at_56)
  have V26 : LA Z h26 b .int [(.int v0), (.int v1), (.int v2), (.int v3), (.int (0 : Int32)), (.int (0 : Int32)), (.int (0 : Int32)), (.int (0 : Int32))] := V26'
  have S27 : Steps p.tables e below Ω (T26.setTop (mkF m 57 #[.val (.long q1), .second, .val (.long q2), .second, .val (.long q3), .second, .val (.long q4), .second, .val (.int rg), .val (.int vl), .val (.ref b), .unset, .unset, .unset, .unset] [])) := S25.trans (st26 _ (Steps.refl _))
  have N26 := Fr.snoc X26 N24 g_b
  have S28 : Steps p.tables e below Ω (T26.setTop (mkF m 63 #[.val (.long q1), .second, .val (.long q2), .second, .val (.long q3), .second, .val (.long q4), .second, .val (.int rg), .val (.int vl), .val (.ref b), .unset, .unset, .unset, .unset] [(.int (3 : Int32)), (.ref b), (.int (4 : Int32)), (.ref b)])) := by
    refine S27.trans ?_
    refine XS.aload X26.here hx rfl (hb hby at_57) rfl rfl ?_
    show Steps p.tables e below (T26.setTop (mkF m 59 #[.val (.long q1), .second, .val (.long q2), .second, .val (.long q3), .second, .val (.long q4), .second, .val (.int rg), .val (.int vl), .val (.ref b), .unset, .unset, .unset, .unset] [(.ref b)])) _
    refine XS.iconst X26.here hx rfl (hb hby at_59) ?_
    show Steps p.tables e below (T26.setTop (mkF m 60 #[.val (.long q1), .second, .val (.long q2), .second, .val (.long q3), .second, .val (.long q4), .second, .val (.int rg), .val (.int vl), .val (.ref b), .unset, .unset, .unset, .unset] [(.int (4 : Int32)), (.ref b)])) _
    refine XS.aload X26.here hx rfl (hb hby at_60) rfl rfl ?_
    show Steps p.tables e below (T26.setTop (mkF m 62 #[.val (.long q1), .second, .val (.long q2), .second, .val (.long q3), .second, .val (.long q4), .second, .val (.int rg), .val (.int vl), .val (.ref b), .unset, .unset, .unset, .unset] [(.ref b), (.int (4 : Int32)), (.ref b)])) _
    refine XS.iconst X26.here hx rfl (hb hby at_62) ?_
    exact Steps.refl _
  have S29 : Steps p.tables e below Ω (T26.setTop (mkF m 64 #[.val (.long q1), .second, .val (.long q2), .second, .val (.long q3), .second, .val (.long q4), .second, .val (.int rg), .val (.int vl), .val (.ref b), .unset, .unset, .unset, .unset] [(.int v3), (.int (4 : Int32)), (.ref b)])) := S28.trans (own_ldI X26 hx hZ e26 V26 (j := (3 : Int32)) (x := v3) (by decide) rfl (g := (mkF m 63 #[.val (.long q1), .second, .val (.long q2), .second, .val (.long q3), .second, .val (.long q4), .second, .val (.int rg), .val (.int vl), .val (.ref b), .unset, .unset, .unset, .unset] [(.int (3 : Int32)), (.ref b), (.int (4 : Int32)), (.ref b)])) rfl rfl (hb hby at_63) _ (Steps.refl _))
  have S30 : Steps p.tables e below Ω (T26.setTop (mkF m 70 #[.val (.long q1), .second, .val (.long q2), .second, .val (.long q3), .second, .val (.long q4), .second, .val (.int rg), .val (.int vl), .val (.ref b), .unset, .unset, .unset, .unset] [(.int (((q3.toUInt64 >>> ((32 : Int32) &&& 0x3f).toInt64.toUInt64).toInt64).toInt32)), (.int v3), (.int (4 : Int32)), (.ref b)])) := by
    refine S29.trans ?_
    refine XS.lload X26.here hx rfl (hb hby at_64) rfl ?_
    show Steps p.tables e below (T26.setTop (mkF m 66 #[.val (.long q1), .second, .val (.long q2), .second, .val (.long q3), .second, .val (.long q4), .second, .val (.int rg), .val (.int vl), .val (.ref b), .unset, .unset, .unset, .unset] [(.long q3), (.int v3), (.int (4 : Int32)), (.ref b)])) _
    refine XS.bipush X26.here hx rfl (hb hby at_66) ?_
    show Steps p.tables e below (T26.setTop (mkF m 68 #[.val (.long q1), .second, .val (.long q2), .second, .val (.long q3), .second, .val (.long q4), .second, .val (.int rg), .val (.int vl), .val (.ref b), .unset, .unset, .unset, .unset] [(.int (32 : Int32)), (.long q3), (.int v3), (.int (4 : Int32)), (.ref b)])) _
    refine XS.lushr X26.here hx rfl (hb hby at_68) rfl ?_
    show Steps p.tables e below (T26.setTop (mkF m 69 #[.val (.long q1), .second, .val (.long q2), .second, .val (.long q3), .second, .val (.long q4), .second, .val (.int rg), .val (.int vl), .val (.ref b), .unset, .unset, .unset, .unset] [(.long ((q3.toUInt64 >>> ((32 : Int32) &&& 0x3f).toInt64.toUInt64).toInt64)), (.int v3), (.int (4 : Int32)), (.ref b)])) _
    refine XS.l2i X26.here hx rfl (hb hby at_69) rfl ?_
    exact Steps.refl _
  obtain ⟨v31, T31, L31, X31, hQ31, st31⟩ := own_callS X26 hx (y := (⟨"java/lang/Math", "max", "(II)I"⟩ : MethodName)) hown (mvT hZ (hw _ (List.mem_of_getElem? (i := 1) rfl))) (mvT hZ (hw _ (List.mem_of_getElem? (i := 2) rfl))) (mvT hZ (hw _ (List.mem_of_getElem? (i := 3) rfl))) (mvT hZ (hw _ (List.mem_of_getElem? (i := 4) rfl))) (by decide) (backOf (W := 2) (rm1 l Z a0 hw [] v3 (((q3.toUInt64 >>> ((32 : Int32) &&& 0x3f).toInt64.toUInt64).toInt64).toInt32)  h26 n0 (Nat.le_trans (Nat.le_trans (Nat.le_trans (Nat.le_trans (Nat.le_trans Z0 E2.1) (Keep.of_wr W5).1) (Keep.of_wr W12).1) (Keep.of_wr W19).1) (Keep.of_wr W26).1) ) hZ (hw _ (List.mem_of_getElem? (i := 4) rfl)) (hw _ (List.mem_of_getElem? (i := 3) rfl)) (by decide) (by decide)) (g := (mkF m 70 #[.val (.long q1), .second, .val (.long q2), .second, .val (.long q3), .second, .val (.long q4), .second, .val (.int rg), .val (.int vl), .val (.ref b), .unset, .unset, .unset, .unset] [(.int (((q3.toUInt64 >>> ((32 : Int32) &&& 0x3f).toInt64.toUInt64).toInt64).toInt32)), (.int v3), (.int (4 : Int32)), (.ref b)])) rfl (by rw [hml]; rfl) (argsL := [(.int v3), (.int (((q3.toUInt64 >>> ((32 : Int32) &&& 0x3f).toInt64.toUInt64).toInt64).toInt32))]) (rest := [(.int (4 : Int32)), (.ref b)]) (lenOf pd_0 rfl) rfl (by show 2 * 0 + _ ≤ _; exact Nat.le_of_eq rfl) (hb hby at_70) ⟨rfl, e26, (by decide : 1 + 0 ≤ _), (by decide : 8 + 0 ≤ _)⟩
  obtain ⟨hv31, N31q, e31⟩ := hQ31
  rw [hv31] at st31
  have N31 := Fr.app N26 N31q
  have S32 : Steps p.tables e below Ω (T31.setTop (mkF m 73 #[.val (.long q1), .second, .val (.long q2), .second, .val (.long q3), .second, .val (.long q4), .second, .val (.int rg), .val (.int vl), .val (.ref b), .unset, .unset, .unset, .unset] [(.int (own_max v3 (((q3.toUInt64 >>> ((32 : Int32) &&& 0x3f).toInt64.toUInt64).toInt64).toInt32))), (.int (4 : Int32)), (.ref b)])) := S30.trans st31
  obtain ⟨v4, h_v4⟩ : ∃ z : Int32, z = (own_max v3 (((q3.toUInt64 >>> ((32 : Int32) &&& 0x3f).toInt64.toUInt64).toInt64).toInt32)) := ⟨_, rfl⟩
  rw [← h_v4] at S32
  have m4 : v3.toInt ≤ v4.toInt := by rw [h_v4, own_maxI]; omega
  obtain ⟨T33, h33, X33, e33, W33, V33', st33⟩ := own_stI X31 hx hZ e31 V26 (j := (4 : Int32)) (i := 4) rfl ⟨by decide, Nat.le_of_ble_eq_true rfl⟩ (g := (mkF m 73 #[.val (.long q1), .second, .val (.long q2), .second, .val (.long q3), .second, .val (.long q4), .second, .val (.int rg), .val (.int vl), .val (.ref b), .unset, .unset, .unset, .unset] [(.int v4), (.int (4 : Int32)), (.ref b)])) rfl rfl (hb hby at_73)
  have V33 : LA Z h33 b .int [(.int v0), (.int v1), (.int v2), (.int v3), (.int v4), (.int (0 : Int32)), (.int (0 : Int32)), (.int (0 : Int32))] := V33'
  have S34 : Steps p.tables e below Ω (T33.setTop (mkF m 74 #[.val (.long q1), .second, .val (.long q2), .second, .val (.long q3), .second, .val (.long q4), .second, .val (.int rg), .val (.int vl), .val (.ref b), .unset, .unset, .unset, .unset] [])) := S32.trans (st33 _ (Steps.refl _))
  have N33 := Fr.snoc X33 N31 g_b
  have S35 : Steps p.tables e below Ω (T33.setTop (mkF m 80 #[.val (.long q1), .second, .val (.long q2), .second, .val (.long q3), .second, .val (.long q4), .second, .val (.int rg), .val (.int vl), .val (.ref b), .unset, .unset, .unset, .unset] [(.int (4 : Int32)), (.ref b), (.int (5 : Int32)), (.ref b)])) := by
    refine S34.trans ?_
    refine XS.aload X33.here hx rfl (hb hby at_74) rfl rfl ?_
    show Steps p.tables e below (T33.setTop (mkF m 76 #[.val (.long q1), .second, .val (.long q2), .second, .val (.long q3), .second, .val (.long q4), .second, .val (.int rg), .val (.int vl), .val (.ref b), .unset, .unset, .unset, .unset] [(.ref b)])) _
    refine XS.iconst X33.here hx rfl (hb hby at_76) ?_
    show Steps p.tables e below (T33.setTop (mkF m 77 #[.val (.long q1), .second, .val (.long q2), .second, .val (.long q3), .second, .val (.long q4), .second, .val (.int rg), .val (.int vl), .val (.ref b), .unset, .unset, .unset, .unset] [(.int (5 : Int32)), (.ref b)])) _
    refine XS.aload X33.here hx rfl (hb hby at_77) rfl rfl ?_
    show Steps p.tables e below (T33.setTop (mkF m 79 #[.val (.long q1), .second, .val (.long q2), .second, .val (.long q3), .second, .val (.long q4), .second, .val (.int rg), .val (.int vl), .val (.ref b), .unset, .unset, .unset, .unset] [(.ref b), (.int (5 : Int32)), (.ref b)])) _
    refine XS.iconst X33.here hx rfl (hb hby at_79) ?_
    exact Steps.refl _
  have S36 : Steps p.tables e below Ω (T33.setTop (mkF m 81 #[.val (.long q1), .second, .val (.long q2), .second, .val (.long q3), .second, .val (.long q4), .second, .val (.int rg), .val (.int vl), .val (.ref b), .unset, .unset, .unset, .unset] [(.int v4), (.int (5 : Int32)), (.ref b)])) := S35.trans (own_ldI X33 hx hZ e33 V33 (j := (4 : Int32)) (x := v4) (by decide) rfl (g := (mkF m 80 #[.val (.long q1), .second, .val (.long q2), .second, .val (.long q3), .second, .val (.long q4), .second, .val (.int rg), .val (.int vl), .val (.ref b), .unset, .unset, .unset, .unset] [(.int (4 : Int32)), (.ref b), (.int (5 : Int32)), (.ref b)])) rfl rfl (hb hby at_80) _ (Steps.refl _))
  have S37 : Steps p.tables e below Ω (T33.setTop (mkF m 84 #[.val (.long q1), .second, .val (.long q2), .second, .val (.long q3), .second, .val (.long q4), .second, .val (.int rg), .val (.int vl), .val (.ref b), .unset, .unset, .unset, .unset] [(.int (q3.toInt32)), (.int v4), (.int (5 : Int32)), (.ref b)])) := by
    refine S36.trans ?_
    refine XS.lload X33.here hx rfl (hb hby at_81) rfl ?_
    show Steps p.tables e below (T33.setTop (mkF m 83 #[.val (.long q1), .second, .val (.long q2), .second, .val (.long q3), .second, .val (.long q4), .second, .val (.int rg), .val (.int vl), .val (.ref b), .unset, .unset, .unset, .unset] [(.long q3), (.int v4), (.int (5 : Int32)), (.ref b)])) _
    refine XS.l2i X33.here hx rfl (hb hby at_83) rfl ?_
    exact Steps.refl _
  obtain ⟨v38, T38, L38, X38, hQ38, st38⟩ := own_callS X33 hx (y := (⟨"java/lang/Math", "max", "(II)I"⟩ : MethodName)) hown (mvT hZ (hw _ (List.mem_of_getElem? (i := 1) rfl))) (mvT hZ (hw _ (List.mem_of_getElem? (i := 2) rfl))) (mvT hZ (hw _ (List.mem_of_getElem? (i := 3) rfl))) (mvT hZ (hw _ (List.mem_of_getElem? (i := 4) rfl))) (by decide) (backOf (W := 2) (rm1 l Z a0 hw [] v4 (q3.toInt32)  h33 n0 (Nat.le_trans (Nat.le_trans (Nat.le_trans (Nat.le_trans (Nat.le_trans (Nat.le_trans Z0 E2.1) (Keep.of_wr W5).1) (Keep.of_wr W12).1) (Keep.of_wr W19).1) (Keep.of_wr W26).1) (Keep.of_wr W33).1) ) hZ (hw _ (List.mem_of_getElem? (i := 4) rfl)) (hw _ (List.mem_of_getElem? (i := 3) rfl)) (by decide) (by decide)) (g := (mkF m 84 #[.val (.long q1), .second, .val (.long q2), .second, .val (.long q3), .second, .val (.long q4), .second, .val (.int rg), .val (.int vl), .val (.ref b), .unset, .unset, .unset, .unset] [(.int (q3.toInt32)), (.int v4), (.int (5 : Int32)), (.ref b)])) rfl (by rw [hml]; rfl) (argsL := [(.int v4), (.int (q3.toInt32))]) (rest := [(.int (5 : Int32)), (.ref b)]) (lenOf pd_0 rfl) rfl (by show 2 * 0 + _ ≤ _; exact Nat.le_of_eq rfl) (hb hby at_84) ⟨rfl, e33, (by decide : 1 + 0 ≤ _), (by decide : 8 + 0 ≤ _)⟩
  obtain ⟨hv38, N38q, e38⟩ := hQ38
  rw [hv38] at st38
  have N38 := Fr.app N33 N38q
  have S39 : Steps p.tables e below Ω (T38.setTop (mkF m 87 #[.val (.long q1), .second, .val (.long q2), .second, .val (.long q3), .second, .val (.long q4), .second, .val (.int rg), .val (.int vl), .val (.ref b), .unset, .unset, .unset, .unset] [(.int (own_max v4 (q3.toInt32))), (.int (5 : Int32)), (.ref b)])) := S37.trans st38
  obtain ⟨v5, h_v5⟩ : ∃ z : Int32, z = (own_max v4 (q3.toInt32)) := ⟨_, rfl⟩
  rw [← h_v5] at S39
  have m5 : v4.toInt ≤ v5.toInt := by rw [h_v5, own_maxI]; omega
  obtain ⟨T40, h40, X40, e40, W40, V40', st40⟩ := own_stI X38 hx hZ e38 V33 (j := (5 : Int32)) (i := 5) rfl ⟨by decide, Nat.le_of_ble_eq_true rfl⟩ (g := (mkF m 87 #[.val (.long q1), .second, .val (.long q2), .second, .val (.long q3), .second, .val (.long q4), .second, .val (.int rg), .val (.int vl), .val (.ref b), .unset, .unset, .unset, .unset] [(.int v5), (.int (5 : Int32)), (.ref b)])) rfl rfl (hb hby at_87)
  have V40 : LA Z h40 b .int [(.int v0), (.int v1), (.int v2), (.int v3), (.int v4), (.int v5), (.int (0 : Int32)), (.int (0 : Int32))] := V40'
  have S41 : Steps p.tables e below Ω (T40.setTop (mkF m 88 #[.val (.long q1), .second, .val (.long q2), .second, .val (.long q3), .second, .val (.long q4), .second, .val (.int rg), .val (.int vl), .val (.ref b), .unset, .unset, .unset, .unset] [])) := S39.trans (st40 _ (Steps.refl _))
  have N40 := Fr.snoc X40 N38 g_b
  have S42 : Steps p.tables e below Ω (T40.setTop (mkF m 95 #[.val (.long q1), .second, .val (.long q2), .second, .val (.long q3), .second, .val (.long q4), .second, .val (.int rg), .val (.int vl), .val (.ref b), .unset, .unset, .unset, .unset] [(.int (5 : Int32)), (.ref b), (.int (6 : Int32)), (.ref b)])) := by
    refine S41.trans ?_
    refine XS.aload X40.here hx rfl (hb hby at_88) rfl rfl ?_
    show Steps p.tables e below (T40.setTop (mkF m 90 #[.val (.long q1), .second, .val (.long q2), .second, .val (.long q3), .second, .val (.long q4), .second, .val (.int rg), .val (.int vl), .val (.ref b), .unset, .unset, .unset, .unset] [(.ref b)])) _
    refine XS.bipush X40.here hx rfl (hb hby at_90) ?_
    show Steps p.tables e below (T40.setTop (mkF m 92 #[.val (.long q1), .second, .val (.long q2), .second, .val (.long q3), .second, .val (.long q4), .second, .val (.int rg), .val (.int vl), .val (.ref b), .unset, .unset, .unset, .unset] [(.int (6 : Int32)), (.ref b)])) _
    refine XS.aload X40.here hx rfl (hb hby at_92) rfl rfl ?_
    show Steps p.tables e below (T40.setTop (mkF m 94 #[.val (.long q1), .second, .val (.long q2), .second, .val (.long q3), .second, .val (.long q4), .second, .val (.int rg), .val (.int vl), .val (.ref b), .unset, .unset, .unset, .unset] [(.ref b), (.int (6 : Int32)), (.ref b)])) _
    refine XS.iconst X40.here hx rfl (hb hby at_94) ?_
    exact Steps.refl _
  have S43 : Steps p.tables e below Ω (T40.setTop (mkF m 96 #[.val (.long q1), .second, .val (.long q2), .second, .val (.long q3), .second, .val (.long q4), .second, .val (.int rg), .val (.int vl), .val (.ref b), .unset, .unset, .unset, .unset] [(.int v5), (.int (6 : Int32)), (.ref b)])) := S42.trans (own_ldI X40 hx hZ e40 V40 (j := (5 : Int32)) (x := v5) (by decide) rfl (g := (mkF m 95 #[.val (.long q1), .second, .val (.long q2), .second, .val (.long q3), .second, .val (.long q4), .second, .val (.int rg), .val (.int vl), .val (.ref b), .unset, .unset, .unset, .unset] [(.int (5 : Int32)), (.ref b), (.int (6 : Int32)), (.ref b)])) rfl rfl (hb hby at_95) _ (Steps.refl _))
  have S44 : Steps p.tables e below Ω (T40.setTop (mkF m 102 #[.val (.long q1), .second, .val (.long q2), .second, .val (.long q3), .second, .val (.long q4), .second, .val (.int rg), .val (.int vl), .val (.ref b), .unset, .unset, .unset, .unset] [(.int (((q4.toUInt64 >>> ((32 : Int32) &&& 0x3f).toInt64.toUInt64).toInt64).toInt32)), (.int v5), (.int (6 : Int32)), (.ref b)])) := by
    refine S43.trans ?_
    refine XS.lload X40.here hx rfl (hb hby at_96) rfl ?_
    show Steps p.tables e below (T40.setTop (mkF m 98 #[.val (.long q1), .second, .val (.long q2), .second, .val (.long q3), .second, .val (.long q4), .second, .val (.int rg), .val (.int vl), .val (.ref b), .unset, .unset, .unset, .unset] [(.long q4), (.int v5), (.int (6 : Int32)), (.ref b)])) _
    refine XS.bipush X40.here hx rfl (hb hby at_98) ?_
    show Steps p.tables e below (T40.setTop (mkF m 100 #[.val (.long q1), .second, .val (.long q2), .second, .val (.long q3), .second, .val (.long q4), .second, .val (.int rg), .val (.int vl), .val (.ref b), .unset, .unset, .unset, .unset] [(.int (32 : Int32)), (.long q4), (.int v5), (.int (6 : Int32)), (.ref b)])) _
    refine XS.lushr X40.here hx rfl (hb hby at_100) rfl ?_
    show Steps p.tables e below (T40.setTop (mkF m 101 #[.val (.long q1), .second, .val (.long q2), .second, .val (.long q3), .second, .val (.long q4), .second, .val (.int rg), .val (.int vl), .val (.ref b), .unset, .unset, .unset, .unset] [(.long ((q4.toUInt64 >>> ((32 : Int32) &&& 0x3f).toInt64.toUInt64).toInt64)), (.int v5), (.int (6 : Int32)), (.ref b)])) _
    refine XS.l2i X40.here hx rfl (hb hby at_101) rfl ?_
    exact Steps.refl _
  obtain ⟨v45, T45, L45, X45, hQ45, st45⟩ := own_callS X40 hx (y := (⟨"java/lang/Math", "max", "(II)I"⟩ : MethodName)) hown (mvT hZ (hw _ (List.mem_of_getElem? (i := 1) rfl))) (mvT hZ (hw _ (List.mem_of_getElem? (i := 2) rfl))) (mvT hZ (hw _ (List.mem_of_getElem? (i := 3) rfl))) (mvT hZ (hw _ (List.mem_of_getElem? (i := 4) rfl))) (by decide) (backOf (W := 2) (rm1 l Z a0 hw [] v5 (((q4.toUInt64 >>> ((32 : Int32) &&& 0x3f).toInt64.toUInt64).toInt64).toInt32)  h40 n0 (Nat.le_trans (Nat.le_trans (Nat.le_trans (Nat.le_trans (Nat.le_trans (Nat.le_trans (Nat.le_trans Z0 E2.1) (Keep.of_wr W5).1) (Keep.of_wr W12).1) (Keep.of_wr W19).1) (Keep.of_wr W26).1) (Keep.of_wr W33).1) (Keep.of_wr W40).1) ) hZ (hw _ (List.mem_of_getElem? (i := 4) rfl)) (hw _ (List.mem_of_getElem? (i := 3) rfl)) (by decide) (by decide)) (g := (mkF m 102 #[.val (.long q1), .second, .val (.long q2), .second, .val (.long q3), .second, .val (.long q4), .second, .val (.int rg), .val (.int vl), .val (.ref b), .unset, .unset, .unset, .unset] [(.int (((q4.toUInt64 >>> ((32 : Int32) &&& 0x3f).toInt64.toUInt64).toInt64).toInt32)), (.int v5), (.int (6 : Int32)), (.ref b)])) rfl (by rw [hml]; rfl) (argsL := [(.int v5), (.int (((q4.toUInt64 >>> ((32 : Int32) &&& 0x3f).toInt64.toUInt64).toInt64).toInt32))]) (rest := [(.int (6 : Int32)), (.ref b)]) (lenOf pd_0 rfl) rfl (by show 2 * 0 + _ ≤ _; exact Nat.le_of_eq rfl) (hb hby at_102) ⟨rfl, e40, (by decide : 1 + 0 ≤ _), (by decide : 8 + 0 ≤ _)⟩
  obtain ⟨hv45, N45q, e45⟩ := hQ45
  rw [hv45] at st45
  have N45 := Fr.app N40 N45q
  have S46 : Steps p.tables e below Ω (T45.setTop (mkF m 105 #[.val (.long q1), .second, .val (.long q2), .second, .val (.long q3), .second, .val (.long q4), .second, .val (.int rg), .val (.int vl), .val (.ref b), .unset, .unset, .unset, .unset] [(.int (own_max v5 (((q4.toUInt64 >>> ((32 : Int32) &&& 0x3f).toInt64.toUInt64).toInt64).toInt32))), (.int (6 : Int32)), (.ref b)])) := S44.trans st45
  obtain ⟨v6, h_v6⟩ : ∃ z : Int32, z = (own_max v5 (((q4.toUInt64 >>> ((32 : Int32) &&& 0x3f).toInt64.toUInt64).toInt64).toInt32)) := ⟨_, rfl⟩
  rw [← h_v6] at S46
  have m6 : v5.toInt ≤ v6.toInt := by rw [h_v6, own_maxI]; omega
  obtain ⟨T47, h47, X47, e47, W47, V47', st47⟩ := own_stI X45 hx hZ e45 V40 (j := (6 : Int32)) (i := 6) rfl ⟨by decide, Nat.le_of_ble_eq_true rfl⟩ (g := (mkF m 105 #[.val (.long q1), .second, .val (.long q2), .second, .val (.long q3), .second, .val (.long q4), .second, .val (.int rg), .val (.int vl), .val (.ref b), .unset, .unset, .unset, .unset] [(.int v6), (.int (6 : Int32)), (.ref b)])) rfl rfl (hb hby at_105)
  have V47 : LA Z h47 b .int [(.int v0), (.int v1), (.int v2), (.int v3), (.int v4), (.int v5), (.int v6), (.int (0 : Int32))] := V47'
  have S48 : Steps p.tables e below Ω (T47.setTop (mkF m 106 #[.val (.long q1), .second, .val (.long q2), .second, .val (.long q3), .second, .val (.long q4), .second, .val (.int rg), .val (.int vl), .val (.ref b), .unset, .unset, .unset, .unset] [])) := S46.trans (st47 _ (Steps.refl _))
  have N47 := Fr.snoc X47 N45 g_b
  have S49 : Steps p.tables e below Ω (T47.setTop (mkF m 114 #[.val (.long q1), .second, .val (.long q2), .second, .val (.long q3), .second, .val (.long q4), .second, .val (.int rg), .val (.int vl), .val (.ref b), .unset, .unset, .unset, .unset] [(.int (6 : Int32)), (.ref b), (.int (7 : Int32)), (.ref b)])) := by
    refine S48.trans ?_
    refine XS.aload X47.here hx rfl (hb hby at_106) rfl rfl ?_
    show Steps p.tables e below (T47.setTop (mkF m 108 #[.val (.long q1), .second, .val (.long q2), .second, .val (.long q3), .second, .val (.long q4), .second, .val (.int rg), .val (.int vl), .val (.ref b), .unset, .unset, .unset, .unset] [(.ref b)])) _
    refine XS.bipush X47.here hx rfl (hb hby at_108) ?_
    show Steps p.tables e below (T47.setTop (mkF m 110 #[.val (.long q1), .second, .val (.long q2), .second, .val (.long q3), .second, .val (.long q4), .second, .val (.int rg), .val (.int vl), .val (.ref b), .unset, .unset, .unset, .unset] [(.int (7 : Int32)), (.ref b)])) _
    refine XS.aload X47.here hx rfl (hb hby at_110) rfl rfl ?_
    show Steps p.tables e below (T47.setTop (mkF m 112 #[.val (.long q1), .second, .val (.long q2), .second, .val (.long q3), .second, .val (.long q4), .second, .val (.int rg), .val (.int vl), .val (.ref b), .unset, .unset, .unset, .unset] [(.ref b), (.int (7 : Int32)), (.ref b)])) _
    refine XS.bipush X47.here hx rfl (hb hby at_112) ?_
    exact Steps.refl _
  have S50 : Steps p.tables e below Ω (T47.setTop (mkF m 115 #[.val (.long q1), .second, .val (.long q2), .second, .val (.long q3), .second, .val (.long q4), .second, .val (.int rg), .val (.int vl), .val (.ref b), .unset, .unset, .unset, .unset] [(.int v6), (.int (7 : Int32)), (.ref b)])) := S49.trans (own_ldI X47 hx hZ e47 V47 (j := (6 : Int32)) (x := v6) (by decide) rfl (g := (mkF m 114 #[.val (.long q1), .second, .val (.long q2), .second, .val (.long q3), .second, .val (.long q4), .second, .val (.int rg), .val (.int vl), .val (.ref b), .unset, .unset, .unset, .unset] [(.int (6 : Int32)), (.ref b), (.int (7 : Int32)), (.ref b)])) rfl rfl (hb hby at_114) _ (Steps.refl _))
  have S51 : Steps p.tables e below Ω (T47.setTop (mkF m 118 #[.val (.long q1), .second, .val (.long q2), .second, .val (.long q3), .second, .val (.long q4), .second, .val (.int rg), .val (.int vl), .val (.ref b), .unset, .unset, .unset, .unset] [(.int (q4.toInt32)), (.int v6), (.int (7 : Int32)), (.ref b)])) := by
    refine S50.trans ?_
    refine XS.lload X47.here hx rfl (hb hby at_115) rfl ?_
    show Steps p.tables e below (T47.setTop (mkF m 117 #[.val (.long q1), .second, .val (.long q2), .second, .val (.long q3), .second, .val (.long q4), .second, .val (.int rg), .val (.int vl), .val (.ref b), .unset, .unset, .unset, .unset] [(.long q4), (.int v6), (.int (7 : Int32)), (.ref b)])) _
    refine XS.l2i X47.here hx rfl (hb hby at_117) rfl ?_
    exact Steps.refl _
  obtain ⟨v52, T52, L52, X52, hQ52, st52⟩ := own_callS X47 hx (y := (⟨"java/lang/Math", "max", "(II)I"⟩ : MethodName)) hown (mvT hZ (hw _ (List.mem_of_getElem? (i := 1) rfl))) (mvT hZ (hw _ (List.mem_of_getElem? (i := 2) rfl))) (mvT hZ (hw _ (List.mem_of_getElem? (i := 3) rfl))) (mvT hZ (hw _ (List.mem_of_getElem? (i := 4) rfl))) (by decide) (backOf (W := 2) (rm1 l Z a0 hw [] v6 (q4.toInt32)  h47 n0 (Nat.le_trans (Nat.le_trans (Nat.le_trans (Nat.le_trans (Nat.le_trans (Nat.le_trans (Nat.le_trans (Nat.le_trans Z0 E2.1) (Keep.of_wr W5).1) (Keep.of_wr W12).1) (Keep.of_wr W19).1) (Keep.of_wr W26).1) (Keep.of_wr W33).1) (Keep.of_wr W40).1) (Keep.of_wr W47).1) ) hZ (hw _ (List.mem_of_getElem? (i := 4) rfl)) (hw _ (List.mem_of_getElem? (i := 3) rfl)) (by decide) (by decide)) (g := (mkF m 118 #[.val (.long q1), .second, .val (.long q2), .second, .val (.long q3), .second, .val (.long q4), .second, .val (.int rg), .val (.int vl), .val (.ref b), .unset, .unset, .unset, .unset] [(.int (q4.toInt32)), (.int v6), (.int (7 : Int32)), (.ref b)])) rfl (by rw [hml]; rfl) (argsL := [(.int v6), (.int (q4.toInt32))]) (rest := [(.int (7 : Int32)), (.ref b)]) (lenOf pd_0 rfl) rfl (by show 2 * 0 + _ ≤ _; exact Nat.le_of_eq rfl) (hb hby at_118) ⟨rfl, e47, (by decide : 1 + 0 ≤ _), (by decide : 8 + 0 ≤ _)⟩
  obtain ⟨hv52, N52q, e52⟩ := hQ52
  rw [hv52] at st52
  have N52 := Fr.app N47 N52q
  have S53 : Steps p.tables e below Ω (T52.setTop (mkF m 121 #[.val (.long q1), .second, .val (.long q2), .second, .val (.long q3), .second, .val (.long q4), .second, .val (.int rg), .val (.int vl), .val (.ref b), .unset, .unset, .unset, .unset] [(.int (own_max v6 (q4.toInt32))), (.int (7 : Int32)), (.ref b)])) := S51.trans st52
  obtain ⟨v7, h_v7⟩ : ∃ z : Int32, z = (own_max v6 (q4.toInt32)) := ⟨_, rfl⟩
  rw [← h_v7] at S53
  have m7 : v6.toInt ≤ v7.toInt := by rw [h_v7, own_maxI]; omega
  obtain ⟨T54, h54, X54, e54, W54, V54', st54⟩ := own_stI X52 hx hZ e52 V47 (j := (7 : Int32)) (i := 7) rfl ⟨by decide, Nat.le_of_ble_eq_true rfl⟩ (g := (mkF m 121 #[.val (.long q1), .second, .val (.long q2), .second, .val (.long q3), .second, .val (.long q4), .second, .val (.int rg), .val (.int vl), .val (.ref b), .unset, .unset, .unset, .unset] [(.int v7), (.int (7 : Int32)), (.ref b)])) rfl rfl (hb hby at_121)
  have V54 : LA Z h54 b .int [(.int v0), (.int v1), (.int v2), (.int v3), (.int v4), (.int v5), (.int v6), (.int v7)] := V54'
  have S55 : Steps p.tables e below Ω (T54.setTop (mkF m 122 #[.val (.long q1), .second, .val (.long q2), .second, .val (.long q3), .second, .val (.long q4), .second, .val (.int rg), .val (.int vl), .val (.ref b), .unset, .unset, .unset, .unset] [])) := S53.trans (st54 _ (Steps.refl _))
  have N54 := Fr.snoc X54 N52 g_b
  obtain ⟨f, hf⟩ : ∃ f : Nat → Int32, f = fun i => [v0, v1, v2, v3, v4, v5, v6, v7].getD i 0 := ⟨_, rfl⟩
  have AA : LA Z h54 b .int ((List.range 8).map fun i => Value.int (f i)) := by rw [hf]; exact V54
  have srt : ∀ i j : Nat, i ≤ j → j < 8 → (f i).toInt ≤ (f j).toInt := by
    have st : ∀ i : Nat, i < 7 → (f i).toInt ≤ (f (i + 1)).toInt := fun i hi => by
      have hc : i = 0 ∨ i = 1 ∨ i = 2 ∨ i = 3 ∨ i = 4 ∨ i = 5 ∨ i = 6 := by omega
      rw [hf]; rcases hc with rfl | rfl | rfl | rfl | rfl | rfl | rfl
      · exact m1
      · exact m2
      · exact m3
      · exact m4
      · exact m5
      · exact m6
      · exact m7
    intro i j hij hj
    induction j with
    | zero => have : i = 0 := by omega
              subst this; exact Int.le_refl _
    | succ j ih => by_cases q : i = j + 1
                   · subst q; exact Int.le_refl _
                   · exact Int.le_trans (ih (by omega) (by omega)) (st j (by omega))
  have S56 : Steps p.tables e below Ω (T54.setTop (mkF m 133 #[.val (.long q1), .second, .val (.long q2), .second, .val (.long q3), .second, .val (.long q4), .second, .val (.int rg), .val (.int vl), .val (.ref b), .val (.int ((rg &&& (255 : Int32)) % (9 : Int32))), .unset, .unset, .unset] [])) := by
    refine S55.trans ?_
    refine XS.iload X54.here hx rfl (hb hby at_122) rfl ?_
    show Steps p.tables e below (T54.setTop (mkF m 124 #[.val (.long q1), .second, .val (.long q2), .second, .val (.long q3), .second, .val (.long q4), .second, .val (.int rg), .val (.int vl), .val (.ref b), .unset, .unset, .unset, .unset] [(.int rg)])) _
    refine XS.sipush X54.here hx rfl (hb hby at_124) ?_
    show Steps p.tables e below (T54.setTop (mkF m 127 #[.val (.long q1), .second, .val (.long q2), .second, .val (.long q3), .second, .val (.long q4), .second, .val (.int rg), .val (.int vl), .val (.ref b), .unset, .unset, .unset, .unset] [(.int (255 : Int32)), (.int rg)])) _
    refine XS.iand X54.here hx rfl (hb hby at_127) rfl ?_
    show Steps p.tables e below (T54.setTop (mkF m 128 #[.val (.long q1), .second, .val (.long q2), .second, .val (.long q3), .second, .val (.long q4), .second, .val (.int rg), .val (.int vl), .val (.ref b), .unset, .unset, .unset, .unset] [(.int (rg &&& (255 : Int32)))])) _
    refine XS.bipush X54.here hx rfl (hb hby at_128) ?_
    show Steps p.tables e below (T54.setTop (mkF m 130 #[.val (.long q1), .second, .val (.long q2), .second, .val (.long q3), .second, .val (.long q4), .second, .val (.int rg), .val (.int vl), .val (.ref b), .unset, .unset, .unset, .unset] [(.int (9 : Int32)), (.int (rg &&& (255 : Int32)))])) _
    refine iremM X54 hx rfl (hb hby at_130) rfl (by decide) ?_
    show Steps p.tables e below (T54.setTop (mkF m 131 #[.val (.long q1), .second, .val (.long q2), .second, .val (.long q3), .second, .val (.long q4), .second, .val (.int rg), .val (.int vl), .val (.ref b), .unset, .unset, .unset, .unset] [(.int ((rg &&& (255 : Int32)) % (9 : Int32)))])) _
    refine XS.istore X54.here hx rfl (hb hby at_131) rfl (l' := #[.val (.long q1), .second, .val (.long q2), .second, .val (.long q3), .second, .val (.long q4), .second, .val (.int rg), .val (.int vl), .val (.ref b), .val (.int ((rg &&& (255 : Int32)) % (9 : Int32))), .unset, .unset, .unset]) rfl ?_
    exact Steps.refl _
  obtain ⟨fr, h_fr⟩ : ∃ z : Int32, z = ((rg &&& (255 : Int32)) % (9 : Int32)) := ⟨_, rfl⟩
  rw [← h_fr] at S56
  have hm1 := c_and rg (255 : Int32) (by decide)
  have e255 : (255 : Int32).toInt = 255 := by decide
  have hr9 := c_irem (rg &&& (255 : Int32)) (9 : Int32) 9 (by decide)
  rw [← h_fr] at hr9
  have f1 : 0 ≤ fr.toInt ∧ fr.toInt < 9 := by omega
  have c9 := c_isub (9 : Int32) fr
  have e9 : (9 : Int32).toInt = 9 := by decide
  have r9 := rng32 ((9 : Int32) - fr)
  have h9 : ((9 : Int32) - fr).toInt = 9 - fr.toInt := by omega
  have n9 : ((9 : Int32) - fr) ≠ 0 := fun q => by rw [q] at h9; have z0 : (0 : Int32).toInt = 0 := (by decide); omega
  have S57 : Steps p.tables e below Ω (T54.setTop (mkF m 153 #[.val (.long q1), .second, .val (.long q2), .second, .val (.long q3), .second, .val (.long q4), .second, .val (.int rg), .val (.int vl), .val (.ref b), .val (.int fr), .val (.int (fr + ((((rg.toUInt32 >>> ((8 : Int32) &&& 31).toUInt32).toInt32) &&& (255 : Int32)) % ((9 : Int32) - fr)))), .unset, .unset] [])) := by
    refine S56.trans ?_
    refine XS.iload X54.here hx rfl (hb hby at_133) rfl ?_
    show Steps p.tables e below (T54.setTop (mkF m 135 #[.val (.long q1), .second, .val (.long q2), .second, .val (.long q3), .second, .val (.long q4), .second, .val (.int rg), .val (.int vl), .val (.ref b), .val (.int fr), .unset, .unset, .unset] [(.int fr)])) _
    refine XS.iload X54.here hx rfl (hb hby at_135) rfl ?_
    show Steps p.tables e below (T54.setTop (mkF m 137 #[.val (.long q1), .second, .val (.long q2), .second, .val (.long q3), .second, .val (.long q4), .second, .val (.int rg), .val (.int vl), .val (.ref b), .val (.int fr), .unset, .unset, .unset] [(.int rg), (.int fr)])) _
    refine XS.bipush X54.here hx rfl (hb hby at_137) ?_
    show Steps p.tables e below (T54.setTop (mkF m 139 #[.val (.long q1), .second, .val (.long q2), .second, .val (.long q3), .second, .val (.long q4), .second, .val (.int rg), .val (.int vl), .val (.ref b), .val (.int fr), .unset, .unset, .unset] [(.int (8 : Int32)), (.int rg), (.int fr)])) _
    refine XS.iushr X54.here hx rfl (hb hby at_139) rfl ?_
    show Steps p.tables e below (T54.setTop (mkF m 140 #[.val (.long q1), .second, .val (.long q2), .second, .val (.long q3), .second, .val (.long q4), .second, .val (.int rg), .val (.int vl), .val (.ref b), .val (.int fr), .unset, .unset, .unset] [(.int ((rg.toUInt32 >>> ((8 : Int32) &&& 31).toUInt32).toInt32)), (.int fr)])) _
    refine XS.sipush X54.here hx rfl (hb hby at_140) ?_
    show Steps p.tables e below (T54.setTop (mkF m 143 #[.val (.long q1), .second, .val (.long q2), .second, .val (.long q3), .second, .val (.long q4), .second, .val (.int rg), .val (.int vl), .val (.ref b), .val (.int fr), .unset, .unset, .unset] [(.int (255 : Int32)), (.int ((rg.toUInt32 >>> ((8 : Int32) &&& 31).toUInt32).toInt32)), (.int fr)])) _
    refine XS.iand X54.here hx rfl (hb hby at_143) rfl ?_
    show Steps p.tables e below (T54.setTop (mkF m 144 #[.val (.long q1), .second, .val (.long q2), .second, .val (.long q3), .second, .val (.long q4), .second, .val (.int rg), .val (.int vl), .val (.ref b), .val (.int fr), .unset, .unset, .unset] [(.int (((rg.toUInt32 >>> ((8 : Int32) &&& 31).toUInt32).toInt32) &&& (255 : Int32))), (.int fr)])) _
    refine XS.bipush X54.here hx rfl (hb hby at_144) ?_
    show Steps p.tables e below (T54.setTop (mkF m 146 #[.val (.long q1), .second, .val (.long q2), .second, .val (.long q3), .second, .val (.long q4), .second, .val (.int rg), .val (.int vl), .val (.ref b), .val (.int fr), .unset, .unset, .unset] [(.int (9 : Int32)), (.int (((rg.toUInt32 >>> ((8 : Int32) &&& 31).toUInt32).toInt32) &&& (255 : Int32))), (.int fr)])) _
    refine XS.iload X54.here hx rfl (hb hby at_146) rfl ?_
    show Steps p.tables e below (T54.setTop (mkF m 148 #[.val (.long q1), .second, .val (.long q2), .second, .val (.long q3), .second, .val (.long q4), .second, .val (.int rg), .val (.int vl), .val (.ref b), .val (.int fr), .unset, .unset, .unset] [(.int fr), (.int (9 : Int32)), (.int (((rg.toUInt32 >>> ((8 : Int32) &&& 31).toUInt32).toInt32) &&& (255 : Int32))), (.int fr)])) _
    refine XS.isub X54.here hx rfl (hb hby at_148) rfl ?_
    show Steps p.tables e below (T54.setTop (mkF m 149 #[.val (.long q1), .second, .val (.long q2), .second, .val (.long q3), .second, .val (.long q4), .second, .val (.int rg), .val (.int vl), .val (.ref b), .val (.int fr), .unset, .unset, .unset] [(.int ((9 : Int32) - fr)), (.int (((rg.toUInt32 >>> ((8 : Int32) &&& 31).toUInt32).toInt32) &&& (255 : Int32))), (.int fr)])) _
    refine iremM X54 hx rfl (hb hby at_149) rfl n9 ?_
    show Steps p.tables e below (T54.setTop (mkF m 150 #[.val (.long q1), .second, .val (.long q2), .second, .val (.long q3), .second, .val (.long q4), .second, .val (.int rg), .val (.int vl), .val (.ref b), .val (.int fr), .unset, .unset, .unset] [(.int ((((rg.toUInt32 >>> ((8 : Int32) &&& 31).toUInt32).toInt32) &&& (255 : Int32)) % ((9 : Int32) - fr))), (.int fr)])) _
    refine XS.iadd X54.here hx rfl (hb hby at_150) rfl ?_
    show Steps p.tables e below (T54.setTop (mkF m 151 #[.val (.long q1), .second, .val (.long q2), .second, .val (.long q3), .second, .val (.long q4), .second, .val (.int rg), .val (.int vl), .val (.ref b), .val (.int fr), .unset, .unset, .unset] [(.int (fr + ((((rg.toUInt32 >>> ((8 : Int32) &&& 31).toUInt32).toInt32) &&& (255 : Int32)) % ((9 : Int32) - fr))))])) _
    refine XS.istore X54.here hx rfl (hb hby at_151) rfl (l' := #[.val (.long q1), .second, .val (.long q2), .second, .val (.long q3), .second, .val (.long q4), .second, .val (.int rg), .val (.int vl), .val (.ref b), .val (.int fr), .val (.int (fr + ((((rg.toUInt32 >>> ((8 : Int32) &&& 31).toUInt32).toInt32) &&& (255 : Int32)) % ((9 : Int32) - fr)))), .unset, .unset]) rfl ?_
    exact Steps.refl _
  obtain ⟨to, h_to⟩ : ∃ z : Int32, z = (fr + ((((rg.toUInt32 >>> ((8 : Int32) &&& 31).toUInt32).toInt32) &&& (255 : Int32)) % ((9 : Int32) - fr))) := ⟨_, rfl⟩
  rw [← h_to] at S57
  have hm2 := c_and ((rg.toUInt32 >>> ((8 : Int32) &&& 31).toUInt32).toInt32) (255 : Int32) (by decide)
  have hrv := (c_iremV (((rg.toUInt32 >>> ((8 : Int32) &&& 31).toUInt32).toInt32) &&& (255 : Int32)) ((9 : Int32) - fr)).1 hm2.1 (by omega)
  have ca := c_iadd fr ((((rg.toUInt32 >>> ((8 : Int32) &&& 31).toUInt32).toInt32) &&& (255 : Int32)) % ((9 : Int32) - fr))
  rw [← h_to] at ca
  have rt := rng32 to
  have t1 : fr.toInt ≤ to.toInt ∧ to.toInt ≤ 8 := by omega
  have S58 : Steps p.tables e below Ω (T54.setTop (mkF m 161 #[.val (.long q1), .second, .val (.long q2), .second, .val (.long q3), .second, .val (.long q4), .second, .val (.int rg), .val (.int vl), .val (.ref b), .val (.int fr), .val (.int to), .unset, .unset] [(.int vl), (.int to), (.int fr), (.ref b)])) := by
    refine S57.trans ?_
    refine XS.aload X54.here hx rfl (hb hby at_153) rfl rfl ?_
    show Steps p.tables e below (T54.setTop (mkF m 155 #[.val (.long q1), .second, .val (.long q2), .second, .val (.long q3), .second, .val (.long q4), .second, .val (.int rg), .val (.int vl), .val (.ref b), .val (.int fr), .val (.int to), .unset, .unset] [(.ref b)])) _
    refine XS.iload X54.here hx rfl (hb hby at_155) rfl ?_
    show Steps p.tables e below (T54.setTop (mkF m 157 #[.val (.long q1), .second, .val (.long q2), .second, .val (.long q3), .second, .val (.long q4), .second, .val (.int rg), .val (.int vl), .val (.ref b), .val (.int fr), .val (.int to), .unset, .unset] [(.int fr), (.ref b)])) _
    refine XS.iload X54.here hx rfl (hb hby at_157) rfl ?_
    show Steps p.tables e below (T54.setTop (mkF m 159 #[.val (.long q1), .second, .val (.long q2), .second, .val (.long q3), .second, .val (.long q4), .second, .val (.int rg), .val (.int vl), .val (.ref b), .val (.int fr), .val (.int to), .unset, .unset] [(.int to), (.int fr), (.ref b)])) _
    refine XS.iload X54.here hx rfl (hb hby at_159) rfl ?_
    exact Steps.refl _
  obtain ⟨v59, T59, L59, X59, hQ59, st59⟩ := own_callS X54 hx (y := (⟨"com/example/arcspan/arcspan/index/SortedInts", "firstAtOrAfter", "([IIII)I"⟩ : MethodName)) hown (mvT hZ (hw _ (List.mem_of_getElem? (i := 5) rfl))) (mvT hZ (hw _ (List.mem_of_getElem? (i := 6) rfl))) (mvT hZ (hw _ (List.mem_of_getElem? (i := 7) rfl))) (mvT hZ (hw _ (List.mem_of_getElem? (i := 8) rfl))) (by decide) (backOf (W := 0) (rm2 l Z a0 hw [] b fr to vl f h54 n0 (Nat.le_trans (Nat.le_trans (Nat.le_trans (Nat.le_trans (Nat.le_trans (Nat.le_trans (Nat.le_trans (Nat.le_trans (Nat.le_trans Z0 E2.1) (Keep.of_wr W5).1) (Keep.of_wr W12).1) (Keep.of_wr W19).1) (Keep.of_wr W26).1) (Keep.of_wr W33).1) (Keep.of_wr W40).1) (Keep.of_wr W47).1) (Keep.of_wr W54).1) AA f1.1 t1.1 t1.2 srt) hZ (hw _ (List.mem_of_getElem? (i := 8) rfl)) (hw _ (List.mem_of_getElem? (i := 7) rfl)) (by decide) (by decide)) (g := (mkF m 161 #[.val (.long q1), .second, .val (.long q2), .second, .val (.long q3), .second, .val (.long q4), .second, .val (.int rg), .val (.int vl), .val (.ref b), .val (.int fr), .val (.int to), .unset, .unset] [(.int vl), (.int to), (.int fr), (.ref b)])) rfl (by rw [hml]; rfl) (argsL := [(.ref b), (.int fr), (.int to), (.int vl)]) (rest := []) (lenOf pd_1 rfl) rfl (by show 2 * 0 + _ ≤ _; exact Nat.le_of_eq rfl) (hb hby at_161) ⟨rfl, e54, (by decide : 1 + 0 ≤ _), (by decide : 8 + 0 ≤ _)⟩
  obtain ⟨r, hv59, N59q, e59, r1, r2, r3, r4⟩ := hQ59
  rw [hv59] at st59
  have N59 := Fr.app N54 N59q
  have S60 : Steps p.tables e below Ω (T59.setTop (mkF m 164 #[.val (.long q1), .second, .val (.long q2), .second, .val (.long q3), .second, .val (.long q4), .second, .val (.int rg), .val (.int vl), .val (.ref b), .val (.int fr), .val (.int to), .unset, .unset] [(.int r)])) := S58.trans st59
  have hlt : ∀ k : Nat, k < 8 → ∀ j : Int32, j.toInt = k → (own_lt f j fr to vl).toInt = if (fr.toInt ≤ k ∧ (k : Int) < r.toInt) then 1 else 0 := fun k hk j hj => by
    have hin := own_idx (j := j) (n := 8) (by omega) (by omega)
    have hn := nat_of hin.1
    have hjk : j.toNatClampNeg = k := by omega
    have o1 : (1 : Int32).toInt = 1 := by decide
    have o0 : (0 : Int32).toInt = 0 := by decide
    have r3' := r3 k
    have r4' := r4 k
    unfold own_lt; rw [hjk]
    by_cases q1 : (j.toInt < fr.toInt ∨ to.toInt ≤ j.toInt)
    · rw [if_pos q1, if_neg (by omega)]; exact o0
    · rw [if_neg q1]
      by_cases q2 : (f k).toInt < vl.toInt
      · rw [if_pos q2, if_pos (by have := r4' ; omega)]; exact o1
      · rw [if_neg q2, if_neg (fun z => q2 (r3' z.1 z.2))]; exact o0
  have S61 : Steps p.tables e below Ω (T59.setTop (mkF m 177 #[.val (.long q1), .second, .val (.long q2), .second, .val (.long q3), .second, .val (.long q4), .second, .val (.int rg), .val (.int vl), .val (.ref b), .val (.int fr), .val (.int to), .val (.int r), .unset] [(.int vl), (.int to), (.int fr), (.int (0 : Int32)), (.ref b), (.int fr)])) := by
    refine S60.trans ?_
    refine XS.istore X59.here hx rfl (hb hby at_164) rfl (l' := #[.val (.long q1), .second, .val (.long q2), .second, .val (.long q3), .second, .val (.long q4), .second, .val (.int rg), .val (.int vl), .val (.ref b), .val (.int fr), .val (.int to), .val (.int r), .unset]) rfl ?_
    show Steps p.tables e below (T59.setTop (mkF m 166 #[.val (.long q1), .second, .val (.long q2), .second, .val (.long q3), .second, .val (.long q4), .second, .val (.int rg), .val (.int vl), .val (.ref b), .val (.int fr), .val (.int to), .val (.int r), .unset] [])) _
    refine XS.iload X59.here hx rfl (hb hby at_166) rfl ?_
    show Steps p.tables e below (T59.setTop (mkF m 168 #[.val (.long q1), .second, .val (.long q2), .second, .val (.long q3), .second, .val (.long q4), .second, .val (.int rg), .val (.int vl), .val (.ref b), .val (.int fr), .val (.int to), .val (.int r), .unset] [(.int fr)])) _
    refine XS.aload X59.here hx rfl (hb hby at_168) rfl rfl ?_
    show Steps p.tables e below (T59.setTop (mkF m 170 #[.val (.long q1), .second, .val (.long q2), .second, .val (.long q3), .second, .val (.long q4), .second, .val (.int rg), .val (.int vl), .val (.ref b), .val (.int fr), .val (.int to), .val (.int r), .unset] [(.ref b), (.int fr)])) _
    refine XS.iconst X59.here hx rfl (hb hby at_170) ?_
    show Steps p.tables e below (T59.setTop (mkF m 171 #[.val (.long q1), .second, .val (.long q2), .second, .val (.long q3), .second, .val (.long q4), .second, .val (.int rg), .val (.int vl), .val (.ref b), .val (.int fr), .val (.int to), .val (.int r), .unset] [(.int (0 : Int32)), (.ref b), (.int fr)])) _
    refine XS.iload X59.here hx rfl (hb hby at_171) rfl ?_
    show Steps p.tables e below (T59.setTop (mkF m 173 #[.val (.long q1), .second, .val (.long q2), .second, .val (.long q3), .second, .val (.long q4), .second, .val (.int rg), .val (.int vl), .val (.ref b), .val (.int fr), .val (.int to), .val (.int r), .unset] [(.int fr), (.int (0 : Int32)), (.ref b), (.int fr)])) _
    refine XS.iload X59.here hx rfl (hb hby at_173) rfl ?_
    show Steps p.tables e below (T59.setTop (mkF m 175 #[.val (.long q1), .second, .val (.long q2), .second, .val (.long q3), .second, .val (.long q4), .second, .val (.int rg), .val (.int vl), .val (.ref b), .val (.int fr), .val (.int to), .val (.int r), .unset] [(.int to), (.int fr), (.int (0 : Int32)), (.ref b), (.int fr)])) _
    refine XS.iload X59.here hx rfl (hb hby at_175) rfl ?_
    exact Steps.refl _
  obtain ⟨v62, T62, L62, X62, hQ62, st62⟩ := own_callS X59 hx (y := (⟨"com/example/arcspan/arcspan/index/SortedIntsFirstAtOrAfterPinLaw", "lt", "([IIIII)I"⟩ : MethodName)) hown (mvT hZ (hw _ (List.mem_of_getElem? (i := 9) rfl))) (mvT hZ (hw _ (List.mem_of_getElem? (i := 10) rfl))) (mvT hZ (hw _ (List.mem_of_getElem? (i := 11) rfl))) (mvT hZ (hw _ (List.mem_of_getElem? (i := 12) rfl))) (by decide) (backOf (W := 1) (rm3 l Z a0 hw [] b (0 : Int32) fr to vl f h54 n0 (Nat.le_trans (Nat.le_trans (Nat.le_trans (Nat.le_trans (Nat.le_trans (Nat.le_trans (Nat.le_trans (Nat.le_trans (Nat.le_trans Z0 E2.1) (Keep.of_wr W5).1) (Keep.of_wr W12).1) (Keep.of_wr W19).1) (Keep.of_wr W26).1) (Keep.of_wr W33).1) (Keep.of_wr W40).1) (Keep.of_wr W47).1) (Keep.of_wr W54).1) AA (by decide) (by decide)) hZ (hw _ (List.mem_of_getElem? (i := 12) rfl)) (hw _ (List.mem_of_getElem? (i := 11) rfl)) (by decide) (by decide)) (g := (mkF m 177 #[.val (.long q1), .second, .val (.long q2), .second, .val (.long q3), .second, .val (.long q4), .second, .val (.int rg), .val (.int vl), .val (.ref b), .val (.int fr), .val (.int to), .val (.int r), .unset] [(.int vl), (.int to), (.int fr), (.int (0 : Int32)), (.ref b), (.int fr)])) rfl (by rw [hml]; rfl) (argsL := [(.ref b), (.int (0 : Int32)), (.int fr), (.int to), (.int vl)]) (rest := [(.int fr)]) (lenOf pd_2 rfl) rfl (by show 2 * 0 + _ ≤ _; exact Nat.le_of_eq rfl) (hb hby at_177) ⟨rfl, e59, (by decide : 1 + 0 ≤ _), (by decide : 8 + 0 ≤ _)⟩
  obtain ⟨hv62, N62q, e62⟩ := hQ62
  rw [hv62] at st62
  have N62 := Fr.app N59 N62q
  have S63 : Steps p.tables e below Ω (T62.setTop (mkF m 180 #[.val (.long q1), .second, .val (.long q2), .second, .val (.long q3), .second, .val (.long q4), .second, .val (.int rg), .val (.int vl), .val (.ref b), .val (.int fr), .val (.int to), .val (.int r), .unset] [(.int (own_lt f (0 : Int32) fr to vl)), (.int fr)])) := S61.trans st62
  obtain ⟨t0, h_t0⟩ : ∃ z : Int32, z = (own_lt f (0 : Int32) fr to vl) := ⟨_, rfl⟩
  rw [← h_t0] at S63
  have u0 := hlt 0 (by decide) (0 : Int32) (by decide)
  rw [← h_t0] at u0
  have S64 : Steps p.tables e below Ω (T62.setTop (mkF m 190 #[.val (.long q1), .second, .val (.long q2), .second, .val (.long q3), .second, .val (.long q4), .second, .val (.int rg), .val (.int vl), .val (.ref b), .val (.int fr), .val (.int to), .val (.int r), .unset] [(.int vl), (.int to), (.int fr), (.int (1 : Int32)), (.ref b), (.int (fr + t0))])) := by
    refine S63.trans ?_
    refine XS.iadd X62.here hx rfl (hb hby at_180) rfl ?_
    show Steps p.tables e below (T62.setTop (mkF m 181 #[.val (.long q1), .second, .val (.long q2), .second, .val (.long q3), .second, .val (.long q4), .second, .val (.int rg), .val (.int vl), .val (.ref b), .val (.int fr), .val (.int to), .val (.int r), .unset] [(.int (fr + t0))])) _
    refine XS.aload X62.here hx rfl (hb hby at_181) rfl rfl ?_
    show Steps p.tables e below (T62.setTop (mkF m 183 #[.val (.long q1), .second, .val (.long q2), .second, .val (.long q3), .second, .val (.long q4), .second, .val (.int rg), .val (.int vl), .val (.ref b), .val (.int fr), .val (.int to), .val (.int r), .unset] [(.ref b), (.int (fr + t0))])) _
    refine XS.iconst X62.here hx rfl (hb hby at_183) ?_
    show Steps p.tables e below (T62.setTop (mkF m 184 #[.val (.long q1), .second, .val (.long q2), .second, .val (.long q3), .second, .val (.long q4), .second, .val (.int rg), .val (.int vl), .val (.ref b), .val (.int fr), .val (.int to), .val (.int r), .unset] [(.int (1 : Int32)), (.ref b), (.int (fr + t0))])) _
    refine XS.iload X62.here hx rfl (hb hby at_184) rfl ?_
    show Steps p.tables e below (T62.setTop (mkF m 186 #[.val (.long q1), .second, .val (.long q2), .second, .val (.long q3), .second, .val (.long q4), .second, .val (.int rg), .val (.int vl), .val (.ref b), .val (.int fr), .val (.int to), .val (.int r), .unset] [(.int fr), (.int (1 : Int32)), (.ref b), (.int (fr + t0))])) _
    refine XS.iload X62.here hx rfl (hb hby at_186) rfl ?_
    show Steps p.tables e below (T62.setTop (mkF m 188 #[.val (.long q1), .second, .val (.long q2), .second, .val (.long q3), .second, .val (.long q4), .second, .val (.int rg), .val (.int vl), .val (.ref b), .val (.int fr), .val (.int to), .val (.int r), .unset] [(.int to), (.int fr), (.int (1 : Int32)), (.ref b), (.int (fr + t0))])) _
    refine XS.iload X62.here hx rfl (hb hby at_188) rfl ?_
    exact Steps.refl _
  obtain ⟨v65, T65, L65, X65, hQ65, st65⟩ := own_callS X62 hx (y := (⟨"com/example/arcspan/arcspan/index/SortedIntsFirstAtOrAfterPinLaw", "lt", "([IIIII)I"⟩ : MethodName)) hown (mvT hZ (hw _ (List.mem_of_getElem? (i := 9) rfl))) (mvT hZ (hw _ (List.mem_of_getElem? (i := 10) rfl))) (mvT hZ (hw _ (List.mem_of_getElem? (i := 11) rfl))) (mvT hZ (hw _ (List.mem_of_getElem? (i := 12) rfl))) (by decide) (backOf (W := 1) (rm3 l Z a0 hw [] b (1 : Int32) fr to vl f h54 n0 (Nat.le_trans (Nat.le_trans (Nat.le_trans (Nat.le_trans (Nat.le_trans (Nat.le_trans (Nat.le_trans (Nat.le_trans (Nat.le_trans Z0 E2.1) (Keep.of_wr W5).1) (Keep.of_wr W12).1) (Keep.of_wr W19).1) (Keep.of_wr W26).1) (Keep.of_wr W33).1) (Keep.of_wr W40).1) (Keep.of_wr W47).1) (Keep.of_wr W54).1) AA (by decide) (by decide)) hZ (hw _ (List.mem_of_getElem? (i := 12) rfl)) (hw _ (List.mem_of_getElem? (i := 11) rfl)) (by decide) (by decide)) (g := (mkF m 190 #[.val (.long q1), .second, .val (.long q2), .second, .val (.long q3), .second, .val (.long q4), .second, .val (.int rg), .val (.int vl), .val (.ref b), .val (.int fr), .val (.int to), .val (.int r), .unset] [(.int vl), (.int to), (.int fr), (.int (1 : Int32)), (.ref b), (.int (fr + t0))])) rfl (by rw [hml]; rfl) (argsL := [(.ref b), (.int (1 : Int32)), (.int fr), (.int to), (.int vl)]) (rest := [(.int (fr + t0))]) (lenOf pd_2 rfl) rfl (by show 2 * 0 + _ ≤ _; exact Nat.le_of_eq rfl) (hb hby at_190) ⟨rfl, e62, (by decide : 1 + 0 ≤ _), (by decide : 8 + 0 ≤ _)⟩
  obtain ⟨hv65, N65q, e65⟩ := hQ65
  rw [hv65] at st65
  have N65 := Fr.app N62 N65q
  have S66 : Steps p.tables e below Ω (T65.setTop (mkF m 193 #[.val (.long q1), .second, .val (.long q2), .second, .val (.long q3), .second, .val (.long q4), .second, .val (.int rg), .val (.int vl), .val (.ref b), .val (.int fr), .val (.int to), .val (.int r), .unset] [(.int (own_lt f (1 : Int32) fr to vl)), (.int (fr + t0))])) := S64.trans st65
  obtain ⟨t1, h_t1⟩ : ∃ z : Int32, z = (own_lt f (1 : Int32) fr to vl) := ⟨_, rfl⟩
  rw [← h_t1] at S66
  have u1 := hlt 1 (by decide) (1 : Int32) (by decide)
  rw [← h_t1] at u1
  have S67 : Steps p.tables e below Ω (T65.setTop (mkF m 203 #[.val (.long q1), .second, .val (.long q2), .second, .val (.long q3), .second, .val (.long q4), .second, .val (.int rg), .val (.int vl), .val (.ref b), .val (.int fr), .val (.int to), .val (.int r), .unset] [(.int vl), (.int to), (.int fr), (.int (2 : Int32)), (.ref b), (.int ((fr + t0) + t1))])) := by
    refine S66.trans ?_
    refine XS.iadd X65.here hx rfl (hb hby at_193) rfl ?_
    show Steps p.tables e below (T65.setTop (mkF m 194 #[.val (.long q1), .second, .val (.long q2), .second, .val (.long q3), .second, .val (.long q4), .second, .val (.int rg), .val (.int vl), .val (.ref b), .val (.int fr), .val (.int to), .val (.int r), .unset] [(.int ((fr + t0) + t1))])) _
    refine XS.aload X65.here hx rfl (hb hby at_194) rfl rfl ?_
    show Steps p.tables e below (T65.setTop (mkF m 196 #[.val (.long q1), .second, .val (.long q2), .second, .val (.long q3), .second, .val (.long q4), .second, .val (.int rg), .val (.int vl), .val (.ref b), .val (.int fr), .val (.int to), .val (.int r), .unset] [(.ref b), (.int ((fr + t0) + t1))])) _
    refine XS.iconst X65.here hx rfl (hb hby at_196) ?_
    show Steps p.tables e below (T65.setTop (mkF m 197 #[.val (.long q1), .second, .val (.long q2), .second, .val (.long q3), .second, .val (.long q4), .second, .val (.int rg), .val (.int vl), .val (.ref b), .val (.int fr), .val (.int to), .val (.int r), .unset] [(.int (2 : Int32)), (.ref b), (.int ((fr + t0) + t1))])) _
    refine XS.iload X65.here hx rfl (hb hby at_197) rfl ?_
    show Steps p.tables e below (T65.setTop (mkF m 199 #[.val (.long q1), .second, .val (.long q2), .second, .val (.long q3), .second, .val (.long q4), .second, .val (.int rg), .val (.int vl), .val (.ref b), .val (.int fr), .val (.int to), .val (.int r), .unset] [(.int fr), (.int (2 : Int32)), (.ref b), (.int ((fr + t0) + t1))])) _
    refine XS.iload X65.here hx rfl (hb hby at_199) rfl ?_
    show Steps p.tables e below (T65.setTop (mkF m 201 #[.val (.long q1), .second, .val (.long q2), .second, .val (.long q3), .second, .val (.long q4), .second, .val (.int rg), .val (.int vl), .val (.ref b), .val (.int fr), .val (.int to), .val (.int r), .unset] [(.int to), (.int fr), (.int (2 : Int32)), (.ref b), (.int ((fr + t0) + t1))])) _
    refine XS.iload X65.here hx rfl (hb hby at_201) rfl ?_
    exact Steps.refl _
  obtain ⟨v68, T68, L68, X68, hQ68, st68⟩ := own_callS X65 hx (y := (⟨"com/example/arcspan/arcspan/index/SortedIntsFirstAtOrAfterPinLaw", "lt", "([IIIII)I"⟩ : MethodName)) hown (mvT hZ (hw _ (List.mem_of_getElem? (i := 9) rfl))) (mvT hZ (hw _ (List.mem_of_getElem? (i := 10) rfl))) (mvT hZ (hw _ (List.mem_of_getElem? (i := 11) rfl))) (mvT hZ (hw _ (List.mem_of_getElem? (i := 12) rfl))) (by decide) (backOf (W := 1) (rm3 l Z a0 hw [] b (2 : Int32) fr to vl f h54 n0 (Nat.le_trans (Nat.le_trans (Nat.le_trans (Nat.le_trans (Nat.le_trans (Nat.le_trans (Nat.le_trans (Nat.le_trans (Nat.le_trans Z0 E2.1) (Keep.of_wr W5).1) (Keep.of_wr W12).1) (Keep.of_wr W19).1) (Keep.of_wr W26).1) (Keep.of_wr W33).1) (Keep.of_wr W40).1) (Keep.of_wr W47).1) (Keep.of_wr W54).1) AA (by decide) (by decide)) hZ (hw _ (List.mem_of_getElem? (i := 12) rfl)) (hw _ (List.mem_of_getElem? (i := 11) rfl)) (by decide) (by decide)) (g := (mkF m 203 #[.val (.long q1), .second, .val (.long q2), .second, .val (.long q3), .second, .val (.long q4), .second, .val (.int rg), .val (.int vl), .val (.ref b), .val (.int fr), .val (.int to), .val (.int r), .unset] [(.int vl), (.int to), (.int fr), (.int (2 : Int32)), (.ref b), (.int ((fr + t0) + t1))])) rfl (by rw [hml]; rfl) (argsL := [(.ref b), (.int (2 : Int32)), (.int fr), (.int to), (.int vl)]) (rest := [(.int ((fr + t0) + t1))]) (lenOf pd_2 rfl) rfl (by show 2 * 0 + _ ≤ _; exact Nat.le_of_eq rfl) (hb hby at_203) ⟨rfl, e65, (by decide : 1 + 0 ≤ _), (by decide : 8 + 0 ≤ _)⟩
  obtain ⟨hv68, N68q, e68⟩ := hQ68
  rw [hv68] at st68
  have N68 := Fr.app N65 N68q
  have S69 : Steps p.tables e below Ω (T68.setTop (mkF m 206 #[.val (.long q1), .second, .val (.long q2), .second, .val (.long q3), .second, .val (.long q4), .second, .val (.int rg), .val (.int vl), .val (.ref b), .val (.int fr), .val (.int to), .val (.int r), .unset] [(.int (own_lt f (2 : Int32) fr to vl)), (.int ((fr + t0) + t1))])) := S67.trans st68
  obtain ⟨t2, h_t2⟩ : ∃ z : Int32, z = (own_lt f (2 : Int32) fr to vl) := ⟨_, rfl⟩
  rw [← h_t2] at S69
  have u2 := hlt 2 (by decide) (2 : Int32) (by decide)
  rw [← h_t2] at u2
  have S70 : Steps p.tables e below Ω (T68.setTop (mkF m 216 #[.val (.long q1), .second, .val (.long q2), .second, .val (.long q3), .second, .val (.long q4), .second, .val (.int rg), .val (.int vl), .val (.ref b), .val (.int fr), .val (.int to), .val (.int r), .unset] [(.int vl), (.int to), (.int fr), (.int (3 : Int32)), (.ref b), (.int (((fr + t0) + t1) + t2))])) := by
    refine S69.trans ?_
    refine XS.iadd X68.here hx rfl (hb hby at_206) rfl ?_
    show Steps p.tables e below (T68.setTop (mkF m 207 #[.val (.long q1), .second, .val (.long q2), .second, .val (.long q3), .second, .val (.long q4), .second, .val (.int rg), .val (.int vl), .val (.ref b), .val (.int fr), .val (.int to), .val (.int r), .unset] [(.int (((fr + t0) + t1) + t2))])) _
    refine XS.aload X68.here hx rfl (hb hby at_207) rfl rfl ?_
    show Steps p.tables e below (T68.setTop (mkF m 209 #[.val (.long q1), .second, .val (.long q2), .second, .val (.long q3), .second, .val (.long q4), .second, .val (.int rg), .val (.int vl), .val (.ref b), .val (.int fr), .val (.int to), .val (.int r), .unset] [(.ref b), (.int (((fr + t0) + t1) + t2))])) _
    refine XS.iconst X68.here hx rfl (hb hby at_209) ?_
    show Steps p.tables e below (T68.setTop (mkF m 210 #[.val (.long q1), .second, .val (.long q2), .second, .val (.long q3), .second, .val (.long q4), .second, .val (.int rg), .val (.int vl), .val (.ref b), .val (.int fr), .val (.int to), .val (.int r), .unset] [(.int (3 : Int32)), (.ref b), (.int (((fr + t0) + t1) + t2))])) _
    refine XS.iload X68.here hx rfl (hb hby at_210) rfl ?_
    show Steps p.tables e below (T68.setTop (mkF m 212 #[.val (.long q1), .second, .val (.long q2), .second, .val (.long q3), .second, .val (.long q4), .second, .val (.int rg), .val (.int vl), .val (.ref b), .val (.int fr), .val (.int to), .val (.int r), .unset] [(.int fr), (.int (3 : Int32)), (.ref b), (.int (((fr + t0) + t1) + t2))])) _
    refine XS.iload X68.here hx rfl (hb hby at_212) rfl ?_
    show Steps p.tables e below (T68.setTop (mkF m 214 #[.val (.long q1), .second, .val (.long q2), .second, .val (.long q3), .second, .val (.long q4), .second, .val (.int rg), .val (.int vl), .val (.ref b), .val (.int fr), .val (.int to), .val (.int r), .unset] [(.int to), (.int fr), (.int (3 : Int32)), (.ref b), (.int (((fr + t0) + t1) + t2))])) _
    refine XS.iload X68.here hx rfl (hb hby at_214) rfl ?_
    exact Steps.refl _
  obtain ⟨v71, T71, L71, X71, hQ71, st71⟩ := own_callS X68 hx (y := (⟨"com/example/arcspan/arcspan/index/SortedIntsFirstAtOrAfterPinLaw", "lt", "([IIIII)I"⟩ : MethodName)) hown (mvT hZ (hw _ (List.mem_of_getElem? (i := 9) rfl))) (mvT hZ (hw _ (List.mem_of_getElem? (i := 10) rfl))) (mvT hZ (hw _ (List.mem_of_getElem? (i := 11) rfl))) (mvT hZ (hw _ (List.mem_of_getElem? (i := 12) rfl))) (by decide) (backOf (W := 1) (rm3 l Z a0 hw [] b (3 : Int32) fr to vl f h54 n0 (Nat.le_trans (Nat.le_trans (Nat.le_trans (Nat.le_trans (Nat.le_trans (Nat.le_trans (Nat.le_trans (Nat.le_trans (Nat.le_trans Z0 E2.1) (Keep.of_wr W5).1) (Keep.of_wr W12).1) (Keep.of_wr W19).1) (Keep.of_wr W26).1) (Keep.of_wr W33).1) (Keep.of_wr W40).1) (Keep.of_wr W47).1) (Keep.of_wr W54).1) AA (by decide) (by decide)) hZ (hw _ (List.mem_of_getElem? (i := 12) rfl)) (hw _ (List.mem_of_getElem? (i := 11) rfl)) (by decide) (by decide)) (g := (mkF m 216 #[.val (.long q1), .second, .val (.long q2), .second, .val (.long q3), .second, .val (.long q4), .second, .val (.int rg), .val (.int vl), .val (.ref b), .val (.int fr), .val (.int to), .val (.int r), .unset] [(.int vl), (.int to), (.int fr), (.int (3 : Int32)), (.ref b), (.int (((fr + t0) + t1) + t2))])) rfl (by rw [hml]; rfl) (argsL := [(.ref b), (.int (3 : Int32)), (.int fr), (.int to), (.int vl)]) (rest := [(.int (((fr + t0) + t1) + t2))]) (lenOf pd_2 rfl) rfl (by show 2 * 0 + _ ≤ _; exact Nat.le_of_eq rfl) (hb hby at_216) ⟨rfl, e68, (by decide : 1 + 0 ≤ _), (by decide : 8 + 0 ≤ _)⟩
  obtain ⟨hv71, N71q, e71⟩ := hQ71
  rw [hv71] at st71
  have N71 := Fr.app N68 N71q
  have S72 : Steps p.tables e below Ω (T71.setTop (mkF m 219 #[.val (.long q1), .second, .val (.long q2), .second, .val (.long q3), .second, .val (.long q4), .second, .val (.int rg), .val (.int vl), .val (.ref b), .val (.int fr), .val (.int to), .val (.int r), .unset] [(.int (own_lt f (3 : Int32) fr to vl)), (.int (((fr + t0) + t1) + t2))])) := S70.trans st71
  obtain ⟨t3, h_t3⟩ : ∃ z : Int32, z = (own_lt f (3 : Int32) fr to vl) := ⟨_, rfl⟩
  rw [← h_t3] at S72
  have u3 := hlt 3 (by decide) (3 : Int32) (by decide)
  rw [← h_t3] at u3
  have S73 : Steps p.tables e below Ω (T71.setTop (mkF m 229 #[.val (.long q1), .second, .val (.long q2), .second, .val (.long q3), .second, .val (.long q4), .second, .val (.int rg), .val (.int vl), .val (.ref b), .val (.int fr), .val (.int to), .val (.int r), .unset] [(.int vl), (.int to), (.int fr), (.int (4 : Int32)), (.ref b), (.int ((((fr + t0) + t1) + t2) + t3))])) := by
    refine S72.trans ?_
    refine XS.iadd X71.here hx rfl (hb hby at_219) rfl ?_
    show Steps p.tables e below (T71.setTop (mkF m 220 #[.val (.long q1), .second, .val (.long q2), .second, .val (.long q3), .second, .val (.long q4), .second, .val (.int rg), .val (.int vl), .val (.ref b), .val (.int fr), .val (.int to), .val (.int r), .unset] [(.int ((((fr + t0) + t1) + t2) + t3))])) _
    refine XS.aload X71.here hx rfl (hb hby at_220) rfl rfl ?_
    show Steps p.tables e below (T71.setTop (mkF m 222 #[.val (.long q1), .second, .val (.long q2), .second, .val (.long q3), .second, .val (.long q4), .second, .val (.int rg), .val (.int vl), .val (.ref b), .val (.int fr), .val (.int to), .val (.int r), .unset] [(.ref b), (.int ((((fr + t0) + t1) + t2) + t3))])) _
    refine XS.iconst X71.here hx rfl (hb hby at_222) ?_
    show Steps p.tables e below (T71.setTop (mkF m 223 #[.val (.long q1), .second, .val (.long q2), .second, .val (.long q3), .second, .val (.long q4), .second, .val (.int rg), .val (.int vl), .val (.ref b), .val (.int fr), .val (.int to), .val (.int r), .unset] [(.int (4 : Int32)), (.ref b), (.int ((((fr + t0) + t1) + t2) + t3))])) _
    refine XS.iload X71.here hx rfl (hb hby at_223) rfl ?_
    show Steps p.tables e below (T71.setTop (mkF m 225 #[.val (.long q1), .second, .val (.long q2), .second, .val (.long q3), .second, .val (.long q4), .second, .val (.int rg), .val (.int vl), .val (.ref b), .val (.int fr), .val (.int to), .val (.int r), .unset] [(.int fr), (.int (4 : Int32)), (.ref b), (.int ((((fr + t0) + t1) + t2) + t3))])) _
    refine XS.iload X71.here hx rfl (hb hby at_225) rfl ?_
    show Steps p.tables e below (T71.setTop (mkF m 227 #[.val (.long q1), .second, .val (.long q2), .second, .val (.long q3), .second, .val (.long q4), .second, .val (.int rg), .val (.int vl), .val (.ref b), .val (.int fr), .val (.int to), .val (.int r), .unset] [(.int to), (.int fr), (.int (4 : Int32)), (.ref b), (.int ((((fr + t0) + t1) + t2) + t3))])) _
    refine XS.iload X71.here hx rfl (hb hby at_227) rfl ?_
    exact Steps.refl _
  obtain ⟨v74, T74, L74, X74, hQ74, st74⟩ := own_callS X71 hx (y := (⟨"com/example/arcspan/arcspan/index/SortedIntsFirstAtOrAfterPinLaw", "lt", "([IIIII)I"⟩ : MethodName)) hown (mvT hZ (hw _ (List.mem_of_getElem? (i := 9) rfl))) (mvT hZ (hw _ (List.mem_of_getElem? (i := 10) rfl))) (mvT hZ (hw _ (List.mem_of_getElem? (i := 11) rfl))) (mvT hZ (hw _ (List.mem_of_getElem? (i := 12) rfl))) (by decide) (backOf (W := 1) (rm3 l Z a0 hw [] b (4 : Int32) fr to vl f h54 n0 (Nat.le_trans (Nat.le_trans (Nat.le_trans (Nat.le_trans (Nat.le_trans (Nat.le_trans (Nat.le_trans (Nat.le_trans (Nat.le_trans Z0 E2.1) (Keep.of_wr W5).1) (Keep.of_wr W12).1) (Keep.of_wr W19).1) (Keep.of_wr W26).1) (Keep.of_wr W33).1) (Keep.of_wr W40).1) (Keep.of_wr W47).1) (Keep.of_wr W54).1) AA (by decide) (by decide)) hZ (hw _ (List.mem_of_getElem? (i := 12) rfl)) (hw _ (List.mem_of_getElem? (i := 11) rfl)) (by decide) (by decide)) (g := (mkF m 229 #[.val (.long q1), .second, .val (.long q2), .second, .val (.long q3), .second, .val (.long q4), .second, .val (.int rg), .val (.int vl), .val (.ref b), .val (.int fr), .val (.int to), .val (.int r), .unset] [(.int vl), (.int to), (.int fr), (.int (4 : Int32)), (.ref b), (.int ((((fr + t0) + t1) + t2) + t3))])) rfl (by rw [hml]; rfl) (argsL := [(.ref b), (.int (4 : Int32)), (.int fr), (.int to), (.int vl)]) (rest := [(.int ((((fr + t0) + t1) + t2) + t3))]) (lenOf pd_2 rfl) rfl (by show 2 * 0 + _ ≤ _; exact Nat.le_of_eq rfl) (hb hby at_229) ⟨rfl, e71, (by decide : 1 + 0 ≤ _), (by decide : 8 + 0 ≤ _)⟩
  obtain ⟨hv74, N74q, e74⟩ := hQ74
  rw [hv74] at st74
  have N74 := Fr.app N71 N74q
  have S75 : Steps p.tables e below Ω (T74.setTop (mkF m 232 #[.val (.long q1), .second, .val (.long q2), .second, .val (.long q3), .second, .val (.long q4), .second, .val (.int rg), .val (.int vl), .val (.ref b), .val (.int fr), .val (.int to), .val (.int r), .unset] [(.int (own_lt f (4 : Int32) fr to vl)), (.int ((((fr + t0) + t1) + t2) + t3))])) := S73.trans st74
  obtain ⟨t4, h_t4⟩ : ∃ z : Int32, z = (own_lt f (4 : Int32) fr to vl) := ⟨_, rfl⟩
  rw [← h_t4] at S75
  have u4 := hlt 4 (by decide) (4 : Int32) (by decide)
  rw [← h_t4] at u4
  have S76 : Steps p.tables e below Ω (T74.setTop (mkF m 242 #[.val (.long q1), .second, .val (.long q2), .second, .val (.long q3), .second, .val (.long q4), .second, .val (.int rg), .val (.int vl), .val (.ref b), .val (.int fr), .val (.int to), .val (.int r), .unset] [(.int vl), (.int to), (.int fr), (.int (5 : Int32)), (.ref b), (.int (((((fr + t0) + t1) + t2) + t3) + t4))])) := by
    refine S75.trans ?_
    refine XS.iadd X74.here hx rfl (hb hby at_232) rfl ?_
    show Steps p.tables e below (T74.setTop (mkF m 233 #[.val (.long q1), .second, .val (.long q2), .second, .val (.long q3), .second, .val (.long q4), .second, .val (.int rg), .val (.int vl), .val (.ref b), .val (.int fr), .val (.int to), .val (.int r), .unset] [(.int (((((fr + t0) + t1) + t2) + t3) + t4))])) _
    refine XS.aload X74.here hx rfl (hb hby at_233) rfl rfl ?_
    show Steps p.tables e below (T74.setTop (mkF m 235 #[.val (.long q1), .second, .val (.long q2), .second, .val (.long q3), .second, .val (.long q4), .second, .val (.int rg), .val (.int vl), .val (.ref b), .val (.int fr), .val (.int to), .val (.int r), .unset] [(.ref b), (.int (((((fr + t0) + t1) + t2) + t3) + t4))])) _
    refine XS.iconst X74.here hx rfl (hb hby at_235) ?_
    show Steps p.tables e below (T74.setTop (mkF m 236 #[.val (.long q1), .second, .val (.long q2), .second, .val (.long q3), .second, .val (.long q4), .second, .val (.int rg), .val (.int vl), .val (.ref b), .val (.int fr), .val (.int to), .val (.int r), .unset] [(.int (5 : Int32)), (.ref b), (.int (((((fr + t0) + t1) + t2) + t3) + t4))])) _
    refine XS.iload X74.here hx rfl (hb hby at_236) rfl ?_
    show Steps p.tables e below (T74.setTop (mkF m 238 #[.val (.long q1), .second, .val (.long q2), .second, .val (.long q3), .second, .val (.long q4), .second, .val (.int rg), .val (.int vl), .val (.ref b), .val (.int fr), .val (.int to), .val (.int r), .unset] [(.int fr), (.int (5 : Int32)), (.ref b), (.int (((((fr + t0) + t1) + t2) + t3) + t4))])) _
    refine XS.iload X74.here hx rfl (hb hby at_238) rfl ?_
    show Steps p.tables e below (T74.setTop (mkF m 240 #[.val (.long q1), .second, .val (.long q2), .second, .val (.long q3), .second, .val (.long q4), .second, .val (.int rg), .val (.int vl), .val (.ref b), .val (.int fr), .val (.int to), .val (.int r), .unset] [(.int to), (.int fr), (.int (5 : Int32)), (.ref b), (.int (((((fr + t0) + t1) + t2) + t3) + t4))])) _
    refine XS.iload X74.here hx rfl (hb hby at_240) rfl ?_
    exact Steps.refl _
  obtain ⟨v77, T77, L77, X77, hQ77, st77⟩ := own_callS X74 hx (y := (⟨"com/example/arcspan/arcspan/index/SortedIntsFirstAtOrAfterPinLaw", "lt", "([IIIII)I"⟩ : MethodName)) hown (mvT hZ (hw _ (List.mem_of_getElem? (i := 9) rfl))) (mvT hZ (hw _ (List.mem_of_getElem? (i := 10) rfl))) (mvT hZ (hw _ (List.mem_of_getElem? (i := 11) rfl))) (mvT hZ (hw _ (List.mem_of_getElem? (i := 12) rfl))) (by decide) (backOf (W := 1) (rm3 l Z a0 hw [] b (5 : Int32) fr to vl f h54 n0 (Nat.le_trans (Nat.le_trans (Nat.le_trans (Nat.le_trans (Nat.le_trans (Nat.le_trans (Nat.le_trans (Nat.le_trans (Nat.le_trans Z0 E2.1) (Keep.of_wr W5).1) (Keep.of_wr W12).1) (Keep.of_wr W19).1) (Keep.of_wr W26).1) (Keep.of_wr W33).1) (Keep.of_wr W40).1) (Keep.of_wr W47).1) (Keep.of_wr W54).1) AA (by decide) (by decide)) hZ (hw _ (List.mem_of_getElem? (i := 12) rfl)) (hw _ (List.mem_of_getElem? (i := 11) rfl)) (by decide) (by decide)) (g := (mkF m 242 #[.val (.long q1), .second, .val (.long q2), .second, .val (.long q3), .second, .val (.long q4), .second, .val (.int rg), .val (.int vl), .val (.ref b), .val (.int fr), .val (.int to), .val (.int r), .unset] [(.int vl), (.int to), (.int fr), (.int (5 : Int32)), (.ref b), (.int (((((fr + t0) + t1) + t2) + t3) + t4))])) rfl (by rw [hml]; rfl) (argsL := [(.ref b), (.int (5 : Int32)), (.int fr), (.int to), (.int vl)]) (rest := [(.int (((((fr + t0) + t1) + t2) + t3) + t4))]) (lenOf pd_2 rfl) rfl (by show 2 * 0 + _ ≤ _; exact Nat.le_of_eq rfl) (hb hby at_242) ⟨rfl, e74, (by decide : 1 + 0 ≤ _), (by decide : 8 + 0 ≤ _)⟩
  obtain ⟨hv77, N77q, e77⟩ := hQ77
  rw [hv77] at st77
  have N77 := Fr.app N74 N77q
  have S78 : Steps p.tables e below Ω (T77.setTop (mkF m 245 #[.val (.long q1), .second, .val (.long q2), .second, .val (.long q3), .second, .val (.long q4), .second, .val (.int rg), .val (.int vl), .val (.ref b), .val (.int fr), .val (.int to), .val (.int r), .unset] [(.int (own_lt f (5 : Int32) fr to vl)), (.int (((((fr + t0) + t1) + t2) + t3) + t4))])) := S76.trans st77
  obtain ⟨t5, h_t5⟩ : ∃ z : Int32, z = (own_lt f (5 : Int32) fr to vl) := ⟨_, rfl⟩
  rw [← h_t5] at S78
  have u5 := hlt 5 (by decide) (5 : Int32) (by decide)
  rw [← h_t5] at u5
  have S79 : Steps p.tables e below Ω (T77.setTop (mkF m 256 #[.val (.long q1), .second, .val (.long q2), .second, .val (.long q3), .second, .val (.long q4), .second, .val (.int rg), .val (.int vl), .val (.ref b), .val (.int fr), .val (.int to), .val (.int r), .unset] [(.int vl), (.int to), (.int fr), (.int (6 : Int32)), (.ref b), (.int ((((((fr + t0) + t1) + t2) + t3) + t4) + t5))])) := by
    refine S78.trans ?_
    refine XS.iadd X77.here hx rfl (hb hby at_245) rfl ?_
    show Steps p.tables e below (T77.setTop (mkF m 246 #[.val (.long q1), .second, .val (.long q2), .second, .val (.long q3), .second, .val (.long q4), .second, .val (.int rg), .val (.int vl), .val (.ref b), .val (.int fr), .val (.int to), .val (.int r), .unset] [(.int ((((((fr + t0) + t1) + t2) + t3) + t4) + t5))])) _
    refine XS.aload X77.here hx rfl (hb hby at_246) rfl rfl ?_
    show Steps p.tables e below (T77.setTop (mkF m 248 #[.val (.long q1), .second, .val (.long q2), .second, .val (.long q3), .second, .val (.long q4), .second, .val (.int rg), .val (.int vl), .val (.ref b), .val (.int fr), .val (.int to), .val (.int r), .unset] [(.ref b), (.int ((((((fr + t0) + t1) + t2) + t3) + t4) + t5))])) _
    refine XS.bipush X77.here hx rfl (hb hby at_248) ?_
    show Steps p.tables e below (T77.setTop (mkF m 250 #[.val (.long q1), .second, .val (.long q2), .second, .val (.long q3), .second, .val (.long q4), .second, .val (.int rg), .val (.int vl), .val (.ref b), .val (.int fr), .val (.int to), .val (.int r), .unset] [(.int (6 : Int32)), (.ref b), (.int ((((((fr + t0) + t1) + t2) + t3) + t4) + t5))])) _
    refine XS.iload X77.here hx rfl (hb hby at_250) rfl ?_
    show Steps p.tables e below (T77.setTop (mkF m 252 #[.val (.long q1), .second, .val (.long q2), .second, .val (.long q3), .second, .val (.long q4), .second, .val (.int rg), .val (.int vl), .val (.ref b), .val (.int fr), .val (.int to), .val (.int r), .unset] [(.int fr), (.int (6 : Int32)), (.ref b), (.int ((((((fr + t0) + t1) + t2) + t3) + t4) + t5))])) _
    refine XS.iload X77.here hx rfl (hb hby at_252) rfl ?_
    show Steps p.tables e below (T77.setTop (mkF m 254 #[.val (.long q1), .second, .val (.long q2), .second, .val (.long q3), .second, .val (.long q4), .second, .val (.int rg), .val (.int vl), .val (.ref b), .val (.int fr), .val (.int to), .val (.int r), .unset] [(.int to), (.int fr), (.int (6 : Int32)), (.ref b), (.int ((((((fr + t0) + t1) + t2) + t3) + t4) + t5))])) _
    refine XS.iload X77.here hx rfl (hb hby at_254) rfl ?_
    exact Steps.refl _
  obtain ⟨v80, T80, L80, X80, hQ80, st80⟩ := own_callS X77 hx (y := (⟨"com/example/arcspan/arcspan/index/SortedIntsFirstAtOrAfterPinLaw", "lt", "([IIIII)I"⟩ : MethodName)) hown (mvT hZ (hw _ (List.mem_of_getElem? (i := 9) rfl))) (mvT hZ (hw _ (List.mem_of_getElem? (i := 10) rfl))) (mvT hZ (hw _ (List.mem_of_getElem? (i := 11) rfl))) (mvT hZ (hw _ (List.mem_of_getElem? (i := 12) rfl))) (by decide) (backOf (W := 1) (rm3 l Z a0 hw [] b (6 : Int32) fr to vl f h54 n0 (Nat.le_trans (Nat.le_trans (Nat.le_trans (Nat.le_trans (Nat.le_trans (Nat.le_trans (Nat.le_trans (Nat.le_trans (Nat.le_trans Z0 E2.1) (Keep.of_wr W5).1) (Keep.of_wr W12).1) (Keep.of_wr W19).1) (Keep.of_wr W26).1) (Keep.of_wr W33).1) (Keep.of_wr W40).1) (Keep.of_wr W47).1) (Keep.of_wr W54).1) AA (by decide) (by decide)) hZ (hw _ (List.mem_of_getElem? (i := 12) rfl)) (hw _ (List.mem_of_getElem? (i := 11) rfl)) (by decide) (by decide)) (g := (mkF m 256 #[.val (.long q1), .second, .val (.long q2), .second, .val (.long q3), .second, .val (.long q4), .second, .val (.int rg), .val (.int vl), .val (.ref b), .val (.int fr), .val (.int to), .val (.int r), .unset] [(.int vl), (.int to), (.int fr), (.int (6 : Int32)), (.ref b), (.int ((((((fr + t0) + t1) + t2) + t3) + t4) + t5))])) rfl (by rw [hml]; rfl) (argsL := [(.ref b), (.int (6 : Int32)), (.int fr), (.int to), (.int vl)]) (rest := [(.int ((((((fr + t0) + t1) + t2) + t3) + t4) + t5))]) (lenOf pd_2 rfl) rfl (by show 2 * 0 + _ ≤ _; exact Nat.le_of_eq rfl) (hb hby at_256) ⟨rfl, e77, (by decide : 1 + 0 ≤ _), (by decide : 8 + 0 ≤ _)⟩
  obtain ⟨hv80, N80q, e80⟩ := hQ80
  rw [hv80] at st80
  have N80 := Fr.app N77 N80q
  have S81 : Steps p.tables e below Ω (T80.setTop (mkF m 259 #[.val (.long q1), .second, .val (.long q2), .second, .val (.long q3), .second, .val (.long q4), .second, .val (.int rg), .val (.int vl), .val (.ref b), .val (.int fr), .val (.int to), .val (.int r), .unset] [(.int (own_lt f (6 : Int32) fr to vl)), (.int ((((((fr + t0) + t1) + t2) + t3) + t4) + t5))])) := S79.trans st80
  obtain ⟨t6, h_t6⟩ : ∃ z : Int32, z = (own_lt f (6 : Int32) fr to vl) := ⟨_, rfl⟩
  rw [← h_t6] at S81
  have u6 := hlt 6 (by decide) (6 : Int32) (by decide)
  rw [← h_t6] at u6
  have S82 : Steps p.tables e below Ω (T80.setTop (mkF m 270 #[.val (.long q1), .second, .val (.long q2), .second, .val (.long q3), .second, .val (.long q4), .second, .val (.int rg), .val (.int vl), .val (.ref b), .val (.int fr), .val (.int to), .val (.int r), .unset] [(.int vl), (.int to), (.int fr), (.int (7 : Int32)), (.ref b), (.int (((((((fr + t0) + t1) + t2) + t3) + t4) + t5) + t6))])) := by
    refine S81.trans ?_
    refine XS.iadd X80.here hx rfl (hb hby at_259) rfl ?_
    show Steps p.tables e below (T80.setTop (mkF m 260 #[.val (.long q1), .second, .val (.long q2), .second, .val (.long q3), .second, .val (.long q4), .second, .val (.int rg), .val (.int vl), .val (.ref b), .val (.int fr), .val (.int to), .val (.int r), .unset] [(.int (((((((fr + t0) + t1) + t2) + t3) + t4) + t5) + t6))])) _
    refine XS.aload X80.here hx rfl (hb hby at_260) rfl rfl ?_
    show Steps p.tables e below (T80.setTop (mkF m 262 #[.val (.long q1), .second, .val (.long q2), .second, .val (.long q3), .second, .val (.long q4), .second, .val (.int rg), .val (.int vl), .val (.ref b), .val (.int fr), .val (.int to), .val (.int r), .unset] [(.ref b), (.int (((((((fr + t0) + t1) + t2) + t3) + t4) + t5) + t6))])) _
    refine XS.bipush X80.here hx rfl (hb hby at_262) ?_
    show Steps p.tables e below (T80.setTop (mkF m 264 #[.val (.long q1), .second, .val (.long q2), .second, .val (.long q3), .second, .val (.long q4), .second, .val (.int rg), .val (.int vl), .val (.ref b), .val (.int fr), .val (.int to), .val (.int r), .unset] [(.int (7 : Int32)), (.ref b), (.int (((((((fr + t0) + t1) + t2) + t3) + t4) + t5) + t6))])) _
    refine XS.iload X80.here hx rfl (hb hby at_264) rfl ?_
    show Steps p.tables e below (T80.setTop (mkF m 266 #[.val (.long q1), .second, .val (.long q2), .second, .val (.long q3), .second, .val (.long q4), .second, .val (.int rg), .val (.int vl), .val (.ref b), .val (.int fr), .val (.int to), .val (.int r), .unset] [(.int fr), (.int (7 : Int32)), (.ref b), (.int (((((((fr + t0) + t1) + t2) + t3) + t4) + t5) + t6))])) _
    refine XS.iload X80.here hx rfl (hb hby at_266) rfl ?_
    show Steps p.tables e below (T80.setTop (mkF m 268 #[.val (.long q1), .second, .val (.long q2), .second, .val (.long q3), .second, .val (.long q4), .second, .val (.int rg), .val (.int vl), .val (.ref b), .val (.int fr), .val (.int to), .val (.int r), .unset] [(.int to), (.int fr), (.int (7 : Int32)), (.ref b), (.int (((((((fr + t0) + t1) + t2) + t3) + t4) + t5) + t6))])) _
    refine XS.iload X80.here hx rfl (hb hby at_268) rfl ?_
    exact Steps.refl _
  obtain ⟨v83, T83, L83, X83, hQ83, st83⟩ := own_callS X80 hx (y := (⟨"com/example/arcspan/arcspan/index/SortedIntsFirstAtOrAfterPinLaw", "lt", "([IIIII)I"⟩ : MethodName)) hown (mvT hZ (hw _ (List.mem_of_getElem? (i := 9) rfl))) (mvT hZ (hw _ (List.mem_of_getElem? (i := 10) rfl))) (mvT hZ (hw _ (List.mem_of_getElem? (i := 11) rfl))) (mvT hZ (hw _ (List.mem_of_getElem? (i := 12) rfl))) (by decide) (backOf (W := 1) (rm3 l Z a0 hw [] b (7 : Int32) fr to vl f h54 n0 (Nat.le_trans (Nat.le_trans (Nat.le_trans (Nat.le_trans (Nat.le_trans (Nat.le_trans (Nat.le_trans (Nat.le_trans (Nat.le_trans Z0 E2.1) (Keep.of_wr W5).1) (Keep.of_wr W12).1) (Keep.of_wr W19).1) (Keep.of_wr W26).1) (Keep.of_wr W33).1) (Keep.of_wr W40).1) (Keep.of_wr W47).1) (Keep.of_wr W54).1) AA (by decide) (by decide)) hZ (hw _ (List.mem_of_getElem? (i := 12) rfl)) (hw _ (List.mem_of_getElem? (i := 11) rfl)) (by decide) (by decide)) (g := (mkF m 270 #[.val (.long q1), .second, .val (.long q2), .second, .val (.long q3), .second, .val (.long q4), .second, .val (.int rg), .val (.int vl), .val (.ref b), .val (.int fr), .val (.int to), .val (.int r), .unset] [(.int vl), (.int to), (.int fr), (.int (7 : Int32)), (.ref b), (.int (((((((fr + t0) + t1) + t2) + t3) + t4) + t5) + t6))])) rfl (by rw [hml]; rfl) (argsL := [(.ref b), (.int (7 : Int32)), (.int fr), (.int to), (.int vl)]) (rest := [(.int (((((((fr + t0) + t1) + t2) + t3) + t4) + t5) + t6))]) (lenOf pd_2 rfl) rfl (by show 2 * 0 + _ ≤ _; exact Nat.le_of_eq rfl) (hb hby at_270) ⟨rfl, e80, (by decide : 1 + 0 ≤ _), (by decide : 8 + 0 ≤ _)⟩
  obtain ⟨hv83, N83q, e83⟩ := hQ83
  rw [hv83] at st83
  have N83 := Fr.app N80 N83q
  have S84 : Steps p.tables e below Ω (T83.setTop (mkF m 273 #[.val (.long q1), .second, .val (.long q2), .second, .val (.long q3), .second, .val (.long q4), .second, .val (.int rg), .val (.int vl), .val (.ref b), .val (.int fr), .val (.int to), .val (.int r), .unset] [(.int (own_lt f (7 : Int32) fr to vl)), (.int (((((((fr + t0) + t1) + t2) + t3) + t4) + t5) + t6))])) := S82.trans st83
  obtain ⟨t7, h_t7⟩ : ∃ z : Int32, z = (own_lt f (7 : Int32) fr to vl) := ⟨_, rfl⟩
  rw [← h_t7] at S84
  have u7 := hlt 7 (by decide) (7 : Int32) (by decide)
  rw [← h_t7] at u7
  have S85 : Steps p.tables e below Ω (T83.setTop (mkF m 280 #[.val (.long q1), .second, .val (.long q2), .second, .val (.long q3), .second, .val (.long q4), .second, .val (.int rg), .val (.int vl), .val (.ref b), .val (.int fr), .val (.int to), .val (.int r), .val (.int ((((((((fr + t0) + t1) + t2) + t3) + t4) + t5) + t6) + t7))] [(.int ((((((((fr + t0) + t1) + t2) + t3) + t4) + t5) + t6) + t7)), (.int r)])) := by
    refine S84.trans ?_
    refine XS.iadd X83.here hx rfl (hb hby at_273) rfl ?_
    show Steps p.tables e below (T83.setTop (mkF m 274 #[.val (.long q1), .second, .val (.long q2), .second, .val (.long q3), .second, .val (.long q4), .second, .val (.int rg), .val (.int vl), .val (.ref b), .val (.int fr), .val (.int to), .val (.int r), .unset] [(.int ((((((((fr + t0) + t1) + t2) + t3) + t4) + t5) + t6) + t7))])) _
    refine XS.istore X83.here hx rfl (hb hby at_274) rfl (l' := #[.val (.long q1), .second, .val (.long q2), .second, .val (.long q3), .second, .val (.long q4), .second, .val (.int rg), .val (.int vl), .val (.ref b), .val (.int fr), .val (.int to), .val (.int r), .val (.int ((((((((fr + t0) + t1) + t2) + t3) + t4) + t5) + t6) + t7))]) rfl ?_
    show Steps p.tables e below (T83.setTop (mkF m 276 #[.val (.long q1), .second, .val (.long q2), .second, .val (.long q3), .second, .val (.long q4), .second, .val (.int rg), .val (.int vl), .val (.ref b), .val (.int fr), .val (.int to), .val (.int r), .val (.int ((((((((fr + t0) + t1) + t2) + t3) + t4) + t5) + t6) + t7))] [])) _
    refine XS.iload X83.here hx rfl (hb hby at_276) rfl ?_
    show Steps p.tables e below (T83.setTop (mkF m 278 #[.val (.long q1), .second, .val (.long q2), .second, .val (.long q3), .second, .val (.long q4), .second, .val (.int rg), .val (.int vl), .val (.ref b), .val (.int fr), .val (.int to), .val (.int r), .val (.int ((((((((fr + t0) + t1) + t2) + t3) + t4) + t5) + t6) + t7))] [(.int r)])) _
    refine XS.iload X83.here hx rfl (hb hby at_278) rfl ?_
    exact Steps.refl _
  have hall : r = ((((((((fr + t0) + t1) + t2) + t3) + t4) + t5) + t6) + t7) := by
    apply Int32.toInt_inj.mp
    clear hlt r3 r4 srt hr9 hrv ca
    have v0 := own_t01 u0
    have a0 := own_add1 fr t0 9 (by omega) (by omega) v0.1 v0.2
    have v1 := own_t01 u1
    have a1 := own_add1 (fr + t0) t1 10 (by omega) (by omega) v1.1 v1.2
    have v2 := own_t01 u2
    have a2 := own_add1 ((fr + t0) + t1) t2 11 (by omega) (by omega) v2.1 v2.2
    have v3 := own_t01 u3
    have a3 := own_add1 (((fr + t0) + t1) + t2) t3 12 (by omega) (by omega) v3.1 v3.2
    have v4 := own_t01 u4
    have a4 := own_add1 ((((fr + t0) + t1) + t2) + t3) t4 13 (by omega) (by omega) v4.1 v4.2
    have v5 := own_t01 u5
    have a5 := own_add1 (((((fr + t0) + t1) + t2) + t3) + t4) t5 14 (by omega) (by omega) v5.1 v5.2
    have v6 := own_t01 u6
    have a6 := own_add1 ((((((fr + t0) + t1) + t2) + t3) + t4) + t5) t6 15 (by omega) (by omega) v6.1 v6.2
    have v7 := own_t01 u7
    have a7 := own_add1 (((((((fr + t0) + t1) + t2) + t3) + t4) + t5) + t6) t7 16 (by omega) (by omega) v7.1 v7.2
    have hcn := own_cnt fr.toInt r.toInt f1.1 r1 (by omega)
    rw [a7, a6, a5, a4, a3, a2, a1, a0, u0, u1, u2, u3, u4, u5, u6, u7]
    exact hcn.symm
  have S86 : Steps p.tables e below Ω (T83.setTop (mkF m 288 #[.val (.long q1), .second, .val (.long q2), .second, .val (.long q3), .second, .val (.long q4), .second, .val (.int rg), .val (.int vl), .val (.ref b), .val (.int fr), .val (.int to), .val (.int r), .val (.int ((((((((fr + t0) + t1) + t2) + t3) + t4) + t5) + t6) + t7))] [(.int (1 : Int32))])) := by
    refine S85.trans ?_
    refine XS.icmpNo X83.here hx rfl (hb hby at_280) rfl (XT.ii_ne_f hall) ?_
    show Steps p.tables e below (T83.setTop (mkF m 283 #[.val (.long q1), .second, .val (.long q2), .second, .val (.long q3), .second, .val (.long q4), .second, .val (.int rg), .val (.int vl), .val (.ref b), .val (.int fr), .val (.int to), .val (.int r), .val (.int ((((((((fr + t0) + t1) + t2) + t3) + t4) + t5) + t6) + t7))] [])) _
    refine XS.iconst X83.here hx rfl (hb hby at_283) ?_
    show Steps p.tables e below (T83.setTop (mkF m 284 #[.val (.long q1), .second, .val (.long q2), .second, .val (.long q3), .second, .val (.long q4), .second, .val (.int rg), .val (.int vl), .val (.ref b), .val (.int fr), .val (.int to), .val (.int r), .val (.int ((((((((fr + t0) + t1) + t2) + t3) + t4) + t5) + t6) + t7))] [(.int (1 : Int32))])) _
    refine XS.goto X83.here hx rfl (pc0 := 284) (pc' := 288) rfl (hb hby at_284) (by decide) (by decide) ?_
    exact Steps.refl _
  obtain ⟨fs, hr, hrun, hended, hW, hsame⟩ := X83.leave (v := some (.int (1 : Int32))) (fun h => by rw [Bd.returns] at h; cases h)
  have hfin : Steps p.tables e below Ω (T83.setFrames fs) := by
    refine S86.trans ?_
    exact own_retZ X83 hx Bd.returns (by decide) (hb hby at_288) hr
  rw [hΩ] at hfin
  refine ⟨_, _, hfin, hrun, hended, _, _, rfl, ?_, ⟨_, rfl⟩, hW, hsame.mono (by decide) (by decide)⟩
  show Q0 Z q1 q2 q3 q4 rg vl h0 n0 _ T83.heap _
  rw [e83]
  exact ⟨rfl, N83⟩
set_option maxRecDepth 65536 in
set_option maxHeartbeats 40000000 in
theorem comes_1 {Post : Tables → Env → Array Value → State → Outcome → State → Prop} (hpost : ∀ tb e args s v u, (limb_1_1.after args s (.returned v) u = true ∧ limb_1_2.after args s (.returned v) u = true ∧ True) → FrameEnd s (.returned v) u (Jvm.fieldLocs frame_1_writes args s ++ Jvm.arrayLocs frame_1_arrays args s ++ Jvm.staticLocs frame_1_statics s) 16 128 → Post tb e args s (.returned v) u) :
    ArmFor flags0 classFile x code maxLocals ret World_1 tables_1 room_1 Calls_1 rest_1 Pre_1 Post := by
  intro l hfl _ _ p e ha hc hk s m args below hf hA hF happ hP
  obtain ⟨hcalls, hrest, hpre⟩ := hP
  obtain ⟨-, -, -, hnamed, -, -, -, hat⟩ := (Spec.applies_iff hf).mp happ
  obtain ⟨hg, hn⟩ := and_e (Cond.before_iff.mp (show (Jvm.Cond.and given_1 narrow_1).before args s = true from hpre))
  obtain ⟨gc, g0⟩ := and_e hg
  obtain ⟨k0, g1⟩ := and_e g0
  obtain ⟨k1, g2⟩ := and_e g1
  obtain ⟨k2, g3⟩ := and_e g2
  obtain ⟨k3, g4⟩ := and_e g3
  obtain ⟨k4, g5⟩ := and_e g4
  obtain ⟨w0, w1, w2, w3, w4, w5, rfl⟩ : ∃ w0 w1 w2 w3 w4 w5 : Value, args = #[w0, w1, w2, w3, w4, w5] := by
    have hs : args.size = 6 := by simpa [Cond.value, given_1] using gc
    obtain ⟨L⟩ := args
    match L, hs with
    | [w0, w1, w2, w3, w4, w5], _ => exact ⟨w0, w1, w2, w3, w4, w5, rfl⟩
  have hw := fun d (hd : d ∈ tables_1) => atoms_spec (ws := Jvm.Cond.code x code maxLocals ret :: tables_1) hat d (List.mem_cons_of_mem _ hd)
  have hfit : Fit s := fun {y c} hc i hi => by
    obtain ⟨ha, rfl⟩ := Array.getElem?_eq_some_iff.mp hc
    have q := List.all_eq_true.mp ((Array.all_eq_true_iff_forall_mem.mp hF) _ (Array.getElem_mem ha)) i (List.mem_range.mpr hi)
    simpa [Array.getElem?_eq_getElem hi] using q
  obtain ⟨i0, ei0⟩ := isL_v k0
  obtain rfl : w0 = (.long i0) := Option.some.inj ei0
  obtain ⟨i1, ei1⟩ := isL_v k1
  obtain rfl : w1 = (.long i1) := Option.some.inj ei1
  obtain ⟨i2, ei2⟩ := isL_v k2
  obtain rfl : w2 = (.long i2) := Option.some.inj ei2
  obtain ⟨i3, ei3⟩ := isL_v k3
  obtain rfl : w3 = (.long i3) := Option.some.inj ei3
  obtain ⟨i4, ei4⟩ := is_v k4
  obtain rfl : w4 = (.int i4) := Option.some.inj ei4
  obtain ⟨i5, ei5⟩ := is_v g5
  obtain rfl : w5 = (.int i5) := Option.some.inj ei5
  obtain ⟨n, o, h1, h2, h3, _, L, rfl, ⟨rfl, N⟩, hq⟩ := rm0 l s _ hw tables_1 i0 i1 i2 i3 i4 i5  s.heap s.heap.size (Nat.le_refl _)  p e ha hc hk s m _ below hf ((Spec.applies_iff_loose hf).mp happ).1 ⟨rfl, State.Warmed39.refl s, rfl⟩ trivial
  refine ⟨n, _, h1, h2, h3, hpost _ _ _ _ _ _ ⟨Cond.after_iff.mpr rfl, Cond.after_iff.mpr (eq_i res_at (Term.int_eval (1)) rfl), trivial⟩ ⟨hq.1, hq.2.1, (hq.2.2.sift fun y hy => Or.inr (N y hy)).mono (by decide) (by decide)⟩⟩
theorem main_1_1 : Claimed_1_1 := comes_1 fun _ _ _ _ _ _ h hF => ⟨h.1, hF⟩
theorem main_1_2 : Claimed_1_2 := comes_1 fun _ _ _ _ _ _ h hF => ⟨h.2.1, hF⟩
end Jvm.Pilot.@@N@@
namespace Jvm.Pilot.@@N@@
open Jvm Jvm.ClassFile Sem Op Lib Jvm.Free Jvm.Stand Jvm.Pilot.@@N@@.Jvm.D
/-! MADE BY PROGRAM (witnessworld.py) out of the Statement's table words and the real class files: 10 classes; the members and pool entries that the words name. The judged class is class 1, her method 1. -/
namespace start1
open Jvm.ClassFile
def u (s : String) : CpInfo := .utf8 (stringToUtf16 s)
/-- a pool by its gaps: so many unusable entries, then the entry; so many at the end -/
def gap : Nat → List CpInfo → List CpInfo
  | 0, r => r
  | n + 1, r => .unusable :: gap n r
def poolList (es : List (Nat × CpInfo)) (last : Nat) : List CpInfo := es.foldr (fun e r => gap e.1 (e.2 :: r)) (gap last [])
def pool (es : List (Nat × CpInfo)) (last : Nat) : Array CpInfo := ⟨poolList es last⟩
def fileOf (pool : Array CpInfo) (this : Nat) (attrs : Array Attribute := #[]) (ms : Array MethodInfo := #[]) (fl : Nat := 33) (sup : Nat := 0) (ifs : Array Nat := #[]) (fds : Array FieldInfo := #[]) : ClassFile where
  minorVersion := 0
  majorVersion := 65
  constantPool := pool
  accessFlags := fl
  thisClass := this
  superClass := sup
  interfaces := ifs
  fields := fds
  methods := ms
  attributes := attrs
def plain (name : String) (sup : Option ClassId) : Class where
  name := name
  kind := .ordinary
  loader := none
  accessFlags := 33
  super := sup
  interfaces := #[]
  cf := none
  fields := #[]
  methods := #[]
  instanceTypes := #[]
  staticTypes := #[]
  resolved := #[]
  callSites := []
  init := .initialized
  statics := none
  mirror := none

def pool0 : Array CpInfo := pool [(5, u "<init>"), (0, u "()V"), (1, .class_ 10), (1, u "java/lang/Object")] 113

def k0m0 : Method := { name := "<init>", desc := "()V", sig := { parameters := [], returnType := none }, accessFlags := 1, code := none }
/-- java/lang/Object -/
def k0 : Class := { plain "java/lang/Object" none with
  accessFlags := 33
  interfaces := #[]
  cf := some (fileOf pool0 8 #[] #[{ accessFlags := 1, nameIndex := 5, descriptorIndex := 6, attributes := #[] }] 33 0 #[] #[])
  fields := #[]
  methods := #[k0m0]
  instanceTypes := #[]
  staticTypes := #[]
  resolved := Array.replicate 124 none
  statics := none }

def pool1 : Array CpInfo := pool [(2, .class_ 4), (1, u "java/lang/Object"), (0, u "<init>"), (0, u "()V"), (0, .methodref 8 9), (0, .class_ 10), (0, .nameAndType 11 12), (0, u "java/lang/Math"), (0, u "max"), (0, u "(II)I"), (0, .methodref 14 15), (0, .class_ 16), (0, .nameAndType 17 18), (0, u "com/example/arcspan/arcspan/index/SortedInts"), (0, u "firstAtOrAfter"), (0, u "([IIII)I"), (0, .methodref 20 21), (0, .class_ 22), (0, .nameAndType 23 24), (0, u "com/example/arcspan/arcspan/index/SortedIntsFirstAtOrAfterPinLaw"), (0, u "lt"), (0, u "([IIIII)I"), (2, u "law"), (0, u "(JJJJII)Z")] 5

def k1m0 : Method := { name := "<init>", desc := "()V", sig := { parameters := [], returnType := none }, accessFlags := 2, code := none }
def k1c1 : Code := { maxStack := 6, maxLocals := 15, code := code, exceptionTable := #[], attributes := #[] }
def k1m1 : Method := { name := "law", desc := "(JJJJII)Z", sig := { parameters := [.long, .long, .long, .long, .int, .int], returnType := some .boolean }, accessFlags := 9, code := some k1c1 }
def k1c2 : Code := { maxStack := 2, maxLocals := 5, code := method_3_code, exceptionTable := #[], attributes := #[] }
def k1m2 : Method := { name := "lt", desc := "([IIIII)I", sig := { parameters := [(.array .int), .int, .int, .int, .int], returnType := some .int }, accessFlags := 10, code := some k1c2 }
/-- com/example/arcspan/arcspan/index/SortedIntsFirstAtOrAfterPinLaw -/
def k1 : Class := { plain "com/example/arcspan/arcspan/index/SortedIntsFirstAtOrAfterPinLaw" (some 0) with
  accessFlags := 49
  interfaces := #[]
  cf := some (fileOf pool1 20 #[] #[{ accessFlags := 2, nameIndex := 5, descriptorIndex := 6, attributes := #[] }, { accessFlags := 9, nameIndex := 27, descriptorIndex := 28, attributes := #[] }, { accessFlags := 10, nameIndex := 23, descriptorIndex := 24, attributes := #[] }] 49 2 #[] #[])
  fields := #[]
  methods := #[k1m0, k1m1, k1m2]
  instanceTypes := #[]
  staticTypes := #[]
  resolved := Array.replicate 34 none
  statics := none }

def pool2 : Array CpInfo := pool [(1, .class_ 2), (0, u "java/lang/Math"), (1, .class_ 6), (1, u "java/lang/Object"), (0, u "<init>"), (0, u "()V"), (89, .class_ 100), (1, u "java/lang/Math$RandomNumberGeneratorHolder"), (71, u "negativeZeroFloatBits"), (0, u "J"), (2, u "negativeZeroDoubleBits"), (21, u "max"), (46, u "$assertionsDisabled"), (0, u "Z"), (88, u "(II)I"), (2, u "twoToTheDoubleScaleDown"), (0, u "D"), (4, u "twoToTheDoubleScaleUp"), (9, u "E"), (3, u "PI"), (2, u "TAU"), (2, u "DEGREES_TO_RADIANS"), (0, u "RADIANS_TO_DEGREES")] 94

def k2m0 : Method := { name := "<init>", desc := "()V", sig := { parameters := [], returnType := none }, accessFlags := 2, code := none }
def k2c1 : Code := { maxStack := 2, maxLocals := 2, code := jdk_29_method_65_code, exceptionTable := #[], attributes := #[] }
def k2m1 : Method := { name := "max", desc := "(II)I", sig := { parameters := [.int, .int], returnType := some .int }, accessFlags := 9, code := some k2c1 }
/-- java/lang/Math -/
def k2 : Class := { plain "java/lang/Math" (some 0) with
  accessFlags := 49
  interfaces := #[]
  cf := some (fileOf pool2 1 #[.nestMembers #[98]] #[{ accessFlags := 2, nameIndex := 7, descriptorIndex := 8, attributes := #[] }, { accessFlags := 9, nameIndex := 198, descriptorIndex := 335, attributes := #[] }] 49 4 #[] #[{ accessFlags := 25, nameIndex := 354, descriptorIndex := 339, attributes := #[] }, { accessFlags := 25, nameIndex := 358, descriptorIndex := 339, attributes := #[] }, { accessFlags := 25, nameIndex := 361, descriptorIndex := 339, attributes := #[] }, { accessFlags := 26, nameIndex := 364, descriptorIndex := 339, attributes := #[] }, { accessFlags := 26, nameIndex := 365, descriptorIndex := 339, attributes := #[] }, { accessFlags := 26, nameIndex := 172, descriptorIndex := 173, attributes := #[] }, { accessFlags := 26, nameIndex := 176, descriptorIndex := 173, attributes := #[] }, { accessFlags := 8, nameIndex := 344, descriptorIndex := 339, attributes := #[] }, { accessFlags := 8, nameIndex := 338, descriptorIndex := 339, attributes := #[] }, { accessFlags := 4120, nameIndex := 245, descriptorIndex := 246, attributes := #[] }])
  fields := #[{ name := "E", type := .double, accessFlags := 25, slot := 0, constantValue := 0 }, { name := "PI", type := .double, accessFlags := 25, slot := 1, constantValue := 0 }, { name := "TAU", type := .double, accessFlags := 25, slot := 2, constantValue := 0 }, { name := "DEGREES_TO_RADIANS", type := .double, accessFlags := 26, slot := 3, constantValue := 0 }, { name := "RADIANS_TO_DEGREES", type := .double, accessFlags := 26, slot := 4, constantValue := 0 }, { name := "negativeZeroFloatBits", type := .long, accessFlags := 26, slot := 5, constantValue := 0 }, { name := "negativeZeroDoubleBits", type := .long, accessFlags := 26, slot := 6, constantValue := 0 }, { name := "twoToTheDoubleScaleUp", type := .double, accessFlags := 8, slot := 7, constantValue := 0 }, { name := "twoToTheDoubleScaleDown", type := .double, accessFlags := 8, slot := 8, constantValue := 0 }, { name := "$assertionsDisabled", type := .boolean, accessFlags := 4120, slot := 9, constantValue := 0 }]
  methods := #[k2m0, k2m1]
  instanceTypes := #[]
  staticTypes := #[.double, .double, .double, .double, .double, .long, .long, .double, .double, .boolean]
  resolved := Array.replicate 460 none
  statics := none }

def pool3 : Array CpInfo := pool [(2, .class_ 4), (1, u "java/lang/Object"), (0, u "<init>"), (0, u "()V"), (0, .class_ 8), (0, u "com/example/arcspan/arcspan/index/SortedInts"), (2, u "firstAtOrAfter"), (0, u "([IIII)I")] 5

def k3m0 : Method := { name := "<init>", desc := "()V", sig := { parameters := [], returnType := none }, accessFlags := 2, code := none }
def k3c1 : Code := { maxStack := 2, maxLocals := 7, code := prog_15_method_2_code, exceptionTable := #[], attributes := #[] }
def k3m1 : Method := { name := "firstAtOrAfter", desc := "([IIII)I", sig := { parameters := [(.array .int), .int, .int, .int], returnType := some .int }, accessFlags := 9, code := some k3c1 }
/-- com/example/arcspan/arcspan/index/SortedInts -/
def k3 : Class := { plain "com/example/arcspan/arcspan/index/SortedInts" (some 0) with
  accessFlags := 49
  interfaces := #[]
  cf := some (fileOf pool3 7 #[] #[{ accessFlags := 2, nameIndex := 5, descriptorIndex := 6, attributes := #[] }, { accessFlags := 9, nameIndex := 11, descriptorIndex := 12, attributes := #[] }] 49 2 #[] #[])
  fields := #[]
  methods := #[k3m0, k3m1]
  instanceTypes := #[]
  staticTypes := #[]
  resolved := Array.replicate 18 none
  statics := none }

def pool4 : Array CpInfo := pool [(1, u "java/lang/Cloneable"), (0, .class_ 1), (0, u "java/lang/Object"), (0, .class_ 3)] 3

/-- java/lang/Cloneable -/
def k4 : Class := { plain "java/lang/Cloneable" (some 0) with
  accessFlags := 1537
  interfaces := #[]
  cf := some (fileOf pool4 2 #[] #[] 1537 4 #[] #[])
  fields := #[]
  methods := #[]
  instanceTypes := #[]
  staticTypes := #[]
  resolved := Array.replicate 8 none
  statics := none }

def pool5 : Array CpInfo := pool [(1, u "java/io/Serializable"), (0, .class_ 1), (0, u "java/lang/Object"), (0, .class_ 3)] 3

/-- java/io/Serializable -/
def k5 : Class := { plain "java/io/Serializable" (some 0) with
  accessFlags := 1537
  interfaces := #[]
  cf := some (fileOf pool5 2 #[] #[] 1537 4 #[] #[])
  fields := #[]
  methods := #[]
  instanceTypes := #[]
  staticTypes := #[]
  resolved := Array.replicate 8 none
  statics := none }

/-- the primitive byte -/
def k6 : Class := { plain "byte" none with kind := .primitive 'B', accessFlags := 0x411 }
/-- [B -/
def k7 : Class := { plain "[B" (some 0) with kind := .array 6 .byte, interfaces := #[4, 5], accessFlags := 1041 }

/-- the primitive int -/
def k8 : Class := { plain "int" none with kind := .primitive 'I', accessFlags := 0x411 }
/-- [I -/
def k9 : Class := { plain "[I" (some 0) with kind := .array 8 .int, interfaces := #[4, 5], accessFlags := 1041 }

def heap : Heap := #[]
def classes : Array Class := #[k0, k1, k2, k3, k4, k5, k6, k7, k8, k9]
def interned : List (Array UInt16 × Addr) := []
def slotsUsed : Nat := 0
def theMethod : MethodId := ⟨1, 1⟩
def args0 : Array Value := #[.long 5, .long 300, .long 7, .long 1, .int 5, .int 6]
def aboutOver (below : List Frame) : State where
  vm := { classes := classes, interned := interned.toArray }
  heap := heap
  slotsUsed := slotsUsed
  threads := #[{ frames := .invoking theMethod args0 :: below }]
def below0 : List Frame := [.native { method := ⟨0, 0⟩, args := #[] }]
def about1 : State := aboutOver below0
def p0 : Program := .bare "" "" ""
def e0 : Env := launch0.env 0 0 0
theorem w_frames : about1.frames = Frame.invoking theMethod args0 :: below0 := rfl
set_option maxRecDepth 65536 in
theorem w_args : argsFit about1.vm theMethod args0 = true := by decide +kernel
set_option maxRecDepth 65536 in
theorem w_heap : heapFits about1 = true := by decide +kernel
set_option maxRecDepth 65536 in
theorem w_runnable : about1.curStatus? = some .runnable := by decide +kernel
set_option maxRecDepth 65536 in
theorem w_alone : about1.alone = true := by decide +kernel
set_option maxRecDepth 65536 in
theorem w_named : about1.methodNamed? x = some theMethod := by decide +kernel
set_option maxRecDepth 65536 in
theorem w_hears : about1.hears theMethod below0 = true := by decide +kernel
set_option maxRecDepth 65536 in
theorem w_ripe : about1.ripe theMethod args0 below0 = true := by decide +kernel
theorem w_running : about1.status = .running := rfl
set_option maxRecDepth 65536 in
theorem w_room : about1.hasRoom e0.platform room_1 = true :=
  launch0.hasRoom_least _ room_1 (by decide +kernel) (by decide +kernel) (by decide +kernel) (by decide +kernel) (by decide +kernel) (by decide +kernel)
theorem allAtoms_all (ts : List Jvm.Cond) (a : Array Jvm.Value) (st : Jvm.State) : (allAtoms ts).before a st = ts.all (fun c => c.before a st) := by
  induction ts with
  | nil => rfl
  | cons c t ih =>
    show (Jvm.Cond.and c (allAtoms t)).before a st = _
    rw [Jvm.Cond.before_and, ih, List.all_cons]
def words1 : List Jvm.Cond := Jvm.Cond.code x code maxLocals ret :: tables_1
/-- a 'code' word, met by the world's own term for the bytes: nothing is compared byte by byte -/
theorem code_word {y : MethodName} {bytes : ByteArray} {mx : Nat} {rt : Option FieldType} {a : Array Value} {s : State} {m : MethodId} {meth : Method} {c : Code} (h1 : s.methodNamed? y = some m) (h2 : s.vm.method? m = some meth) (h3 : meth.code = some c) (h4 : c.code = bytes)
    (h5 : (c.maxLocals == mx && c.exceptionTable.isEmpty && decide (c.maxStack ≤ mostOperands) && decide (meth.sig.returnType = rt) && !meth.locks && decide (parseMethodDescriptor y.desc = some meth.sig)) = true) : (Jvm.Cond.code y bytes mx rt).before a s = true := by
  simp only [Bool.and_eq_true, beq_iff_eq, Bool.not_eq_true', decide_eq_true_eq] at h5
  obtain ⟨⟨⟨⟨⟨g1, g2⟩, g3⟩, g4⟩, g5⟩, g6⟩ := h5
  simp [Cond.before, Cond.holds, Cond.value, h1, h2, h3, h4, g1, g2, g3, g4, g5, g6]
def isCode : Jvm.Cond → Bool
  | .code _ _ _ _ => true
  | _ => false
theorem all_split {L : List Jvm.Cond} {P : Jvm.Cond → Bool} (h1 : L.all (fun c => isCode c || P c) = true) (h2 : ∀ c ∈ L.filter isCode, P c = true) : L.all P = true := by
  refine List.all_eq_true.mpr fun c hc => ?_
  have h := List.all_eq_true.mp h1 c hc
  rcases Bool.eq_false_or_eq_true (isCode c) with hi | hi
  · exact h2 c (List.mem_filter.mpr ⟨hc, hi⟩)
  · simpa [hi] using h
set_option maxRecDepth 65536 in
theorem w_c0 : (Jvm.Cond.code x code maxLocals ret).before args0 about1 = true := code_word (m := ⟨1, 1⟩) (meth := k1m1) (c := k1c1) (by decide +kernel) rfl rfl rfl (by decide +kernel)
set_option maxRecDepth 65536 in
theorem w_c1 : (Jvm.Cond.code ({ cls := "java/lang/Math", name := "max", desc := "(II)I" } : Jvm.MethodName) jdk_29_method_65_code (2 : Nat) (Option.some Jvm.ClassFile.FieldType.int)).before args0 about1 = true := code_word (m := ⟨2, 1⟩) (meth := k2m1) (c := k2c1) (by decide +kernel) rfl rfl rfl (by decide +kernel)
set_option maxRecDepth 65536 in
theorem w_c2 : (Jvm.Cond.code ({ cls := "com/example/arcspan/arcspan/index/SortedInts", name := "firstAtOrAfter", desc := "([IIII)I" } : Jvm.MethodName) prog_15_method_2_code (7 : Nat) (Option.some Jvm.ClassFile.FieldType.int)).before args0 about1 = true := code_word (m := ⟨3, 1⟩) (meth := k3m1) (c := k3c1) (by decide +kernel) rfl rfl rfl (by decide +kernel)
set_option maxRecDepth 65536 in
theorem w_c3 : (Jvm.Cond.code ({ cls := "com/example/arcspan/arcspan/index/SortedIntsFirstAtOrAfterPinLaw", name := "lt", desc := "([IIIII)I" } : Jvm.MethodName) method_3_code (5 : Nat) (Option.some Jvm.ClassFile.FieldType.int)).before args0 about1 = true := code_word (m := ⟨1, 2⟩) (meth := k1m2) (c := k1c2) (by decide +kernel) rfl rfl rfl (by decide +kernel)
def codes1 : List Jvm.Cond := [Jvm.Cond.code x code maxLocals ret, Jvm.Cond.code ({ cls := "java/lang/Math", name := "max", desc := "(II)I" } : Jvm.MethodName) jdk_29_method_65_code (2 : Nat) (Option.some Jvm.ClassFile.FieldType.int), Jvm.Cond.code ({ cls := "com/example/arcspan/arcspan/index/SortedInts", name := "firstAtOrAfter", desc := "([IIII)I" } : Jvm.MethodName) prog_15_method_2_code (7 : Nat) (Option.some Jvm.ClassFile.FieldType.int), Jvm.Cond.code ({ cls := "com/example/arcspan/arcspan/index/SortedIntsFirstAtOrAfterPinLaw", name := "lt", desc := "([IIIII)I" } : Jvm.MethodName) method_3_code (5 : Nat) (Option.some Jvm.ClassFile.FieldType.int)]
set_option maxRecDepth 65536 in
theorem codes_eq : words1.filter isCode = codes1 := rfl
theorem w_codes : ∀ c ∈ words1.filter isCode, c.before args0 about1 = true := by
  rw [codes_eq]
  intro c hc
  simp only [codes1, List.mem_cons, List.not_mem_nil, or_false] at hc
  rcases hc with rfl | rfl | rfl | rfl
  · exact w_c0
  · exact w_c1
  · exact w_c2
  · exact w_c3
set_option maxRecDepth 65536 in
theorem w_t1 : words1.all (fun c => isCode c || c.before args0 about1) = true := by decide +kernel
theorem w_tables : (allAtoms (Jvm.Cond.code x code maxLocals ret :: tables_1)).before args0 about1 = true := by
  rw [allAtoms_all]
  show words1.all (fun c => c.before args0 about1) = true
  refine all_split ?_ w_codes
  rw [w_t1]
set_option maxRecDepth 65536 in
theorem w_case : (Jvm.Cond.and given_1 narrow_1).before args0 about1 = true := by decide +kernel
theorem w_applies : (headSpec (Jvm.Cond.code x code maxLocals ret :: tables_1) room_1).applies x e0.platform about1 = true :=
  (Spec.applies_iff w_frames).mpr ⟨w_running, w_runnable, w_alone, w_named, w_hears, w_ripe, w_room, w_tables⟩
theorem atStart : AtStart classFile x code maxLocals ret World_1 tables_1 room_1 Calls_1 rest_1 Pre_1 launch0 p0 e0 about1 theMethod args0 below0 :=
  ⟨lists_1, trivial, launch0.admits_env _ _ _, launch0.least_env, fairChoices_fair.cas, fairChoices_fair.clock, w_frames, w_args, w_heap, w_applies, trivial, trivial, w_case⟩
end start1
theorem witness_1 : WitnessClaimed_1 := ⟨start1.p0, start1.e0, start1.about1, start1.theMethod, start1.args0, start1.below0, start1.atStart⟩
end Jvm.Pilot.@@N@@
