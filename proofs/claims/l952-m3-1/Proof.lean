import JvmDerived
import JvmDerived.Pilot.@@N@@Statement
import JvmDerived.Pilot.@@N@@Code
set_option linter.unusedVariables false
set_option linter.unusedSimpArgs false
namespace Jvm.RoadKit
open Sem ClassFile Op Lib Jvm.Stand Jvm.Free Jvm.LawKit
section New
variable {p : Program} {l : Launch} {e : Env} {R : Room} {s : State} {m : MethodId} {args : Array Value} {below : List Frame} {meth : Method} {c : Code} {T : State} {locs : List Loc} {cells slots : Nat}
theorem retI (X : Stand p l e R s m args below meth c T locs cells slots) (hx : p.tables.exec = Jvm.exec) {pc : Nat} {Ls : Array Slot} {z : Int32} {rest : List Value} (hret : meth.sig.returnType = some .int) (hd : decode c.code pc = .ok (.ireturn, 1)) {fs : List Frame}
    (hl : ∀ (f : JFrame) (acts : List Action), f.method = m → f.locked = none → f.entered = [] → (doReturn e (T.setTop f) acts (some (.int z))).1 = T.setFrames fs) : Steps p.tables e below (T.setTop (mkF m pc Ls (.int z :: rest))) (T.setFrames fs) := by
  have hm' : T.vm.method? m = some meth := X.method'
  have hn : narrow .int (.int z) = .int z := rfl
  show Steps p.tables e below (T.setTop { method := m, pc := pc, locals := Ls, stack := _ :: rest, locked := none }) _
  jvm_step X.here [X.here.top, hx, hd, hm', hret, hn]
  first | (intro acts; rw [hl _ acts rfl rfl rfl]) | rw [hl _ _ rfl rfl rfl]
  exact Steps.refl _
theorem own_retZ (X : Stand p l e R s m args below meth c T locs cells slots) (hx : p.tables.exec = Jvm.exec) {pc : Nat} {Ls : Array Slot} {z : Int32} {rest : List Value} (hret : meth.sig.returnType = some .boolean) (hz : z &&& 1 = z) (hd : decode c.code pc = .ok (.ireturn, 1)) {fs : List Frame}
    (hl : ∀ (f : JFrame) (acts : List Action), f.method = m → f.locked = none → f.entered = [] → (doReturn e (T.setTop f) acts (some (.int z))).1 = T.setFrames fs) : Steps p.tables e below (T.setTop (mkF m pc Ls (.int z :: rest))) (T.setFrames fs) :=
  retN X hx (t := .boolean) hret (Or.inl rfl) hd (by have q : nar .boolean z = z := hz; rw [q]; exact hl)
theorem own_lrem {g : JFrame} {target : State} (X : Stand p l e R s m args below meth c T locs cells slots) (hx : p.tables.exec = Jvm.exec) (hg : g.method = m) {x y : Int64} {rest : List Value} (hd : decode c.code g.pc = .ok (.lrem, 1)) (hs : g.stack = .long y :: .long x :: rest) (hy : y ≠ 0)
    (hr : Steps p.tables e below (T.setTop { g with pc := g.pc + 1, stack := .long (x % y) :: rest }) target) : Steps p.tables e below (T.setTop g) target :=
  XS.lrem X.here hx hg hd hs hy (by rw [lrem_mod x y]; exact hr)
end New
end Jvm.RoadKit
namespace Jvm.Pilot.@@N@@
open Jvm Jvm.ClassFile Sem Op Lib Jvm.Free Jvm.Stand Jvm.LawKit Jvm.RoadKit Bundle Jvm.Pilot.@@N@@.Jvm.D
section Own
variable {p : Program} {l : Launch} {e : Env} {R : Room} {s : State} {m : MethodId} {args : Array Value} {below : List Frame} {meth : Method} {c : Code} {T : State} {locs : List Loc} {cells slots : Nat} {Z : State} {h h' : Heap} {a b : Addr} {ty : FieldType} {vs : List Value}
/-- the array at a, of elements of kind ty, holds just vs -/
def LA (Z : State) (h : Heap) (a : Addr) (ty : FieldType) (vs : List Value) : Prop := ∃ c : Cell, Arr Z h a c ty ∧ c.slots.toList = vs
theorem LA.lt (F : LA Z h a ty vs) : a < h.size := by obtain ⟨c, A, -⟩ := F; exact A.lt
theorem LA.ext (F : LA Z h a ty vs) (E : Ext h h') : LA Z h' a ty vs := by obtain ⟨c, A, r⟩ := F; exact ⟨c, A.ext E, r⟩
theorem LA.other {sl : Nat} {v : Value} (F : LA Z h b ty vs) (W : Wr h h' a sl v) (q : b ≠ a) : LA Z h' b ty vs := by obtain ⟨c, A, r⟩ := F; exact ⟨c, A.other W q, r⟩
theorem LA.keep {ws : List Addr} (F : LA Z h a ty vs) (K : Keep h h' ws) (q : a ∉ ws) : LA Z h' a ty vs := by obtain ⟨c, A, r⟩ := F; exact ⟨c, ⟨K.2.1 a c A.1 q, A.2⟩, r⟩
theorem LA.new {k : ClassId} {z : Int32} (A : Arr Z h a (newA k ty z) ty) (n : Nat) (q : z.toNatClampNeg = n) : LA Z h a ty (List.replicate n (defaultValue ty)) := ⟨_, A, by subst q; simp [newA]⟩
theorem own_stI (X : Stand p l e R s m args below meth c T locs cells slots) (hx : p.tables.exec = Jvm.exec) (hZ : Z.Warmed39 s.vm) (eT : T.heap = h) (A : LA Z h a .int vs) {j x : Int32} {i : Nat} (hj : j.toNatClampNeg = i) (hi : ¬ j < 0 ∧ i < vs.length) {g : JFrame} (hg : g.method = m) {rest : List Value} (hs : g.stack = .int x :: .int j :: .ref a :: rest) (hd : decode c.code g.pc = .ok (.iastore, 1)) :
    ∃ T' h', Stand p l e R s m args below meth c T' (locs ++ [⟨a, j.toNatClampNeg⟩]) cells slots ∧ T'.heap = h' ∧ Wr h h' a j.toNatClampNeg (.int x) ∧ LA Z h' a .int (vs.set i (.int x)) ∧ ∀ target, Steps p.tables e below (T'.setTop { g with pc := g.pc + 1, stack := rest }) target → Steps p.tables e below (T.setTop g) target := by
  obtain ⟨cl, A, rfl⟩ := A
  subst hj
  have hb : ¬ (j < 0 ∨ cl.slots.size ≤ j.toNatClampNeg) := fun q => q.elim hi.1 fun r => by have := hi.2; rw [Array.length_toList] at this; omega
  obtain ⟨T', h', X', e', W, st⟩ := stI X hx hZ eT A hb hg hs hd
  exact ⟨T', h', X', e', W, ⟨_, A.same W, by simp [Cell.setSlot]⟩, st⟩
theorem own_stJ (X : Stand p l e R s m args below meth c T locs cells slots) (hx : p.tables.exec = Jvm.exec) (hZ : Z.Warmed39 s.vm) (eT : T.heap = h) (A : LA Z h a .long vs) {j : Int32} {x : Int64} {i : Nat} (hj : j.toNatClampNeg = i) (hi : ¬ j < 0 ∧ i < vs.length) {g : JFrame} (hg : g.method = m) {rest : List Value} (hs : g.stack = .long x :: .int j :: .ref a :: rest) (hd : decode c.code g.pc = .ok (.lastore, 1)) :
    ∃ T' h', Stand p l e R s m args below meth c T' (locs ++ [⟨a, j.toNatClampNeg⟩]) cells slots ∧ T'.heap = h' ∧ Wr h h' a j.toNatClampNeg (.long x) ∧ LA Z h' a .long (vs.set i (.long x)) ∧ ∀ target, Steps p.tables e below (T'.setTop { g with pc := g.pc + 1, stack := rest }) target → Steps p.tables e below (T.setTop g) target := by
  obtain ⟨cl, A, rfl⟩ := A
  subst hj
  have hb : ¬ (j < 0 ∨ cl.slots.size ≤ j.toNatClampNeg) := fun q => q.elim hi.1 fun r => by have := hi.2; rw [Array.length_toList] at this; omega
  obtain ⟨T', h', X', e', W, st⟩ := stJ X hx hZ eT A hb hg hs hd
  exact ⟨T', h', X', e', W, ⟨_, A.same W, by simp [Cell.setSlot]⟩, st⟩
theorem own_at {cl : Cell} {j : Int32} {v : Value} (hn : ¬ j < 0) (hat : cl.slots.toList[j.toNatClampNeg]? = some v) : ¬ (j < 0 ∨ cl.slots.size ≤ j.toNatClampNeg) ∧ cl.slots[j.toNatClampNeg]? = some v := by
  have q : cl.slots[j.toNatClampNeg]? = some v := by rw [← Array.getElem?_toList]; exact hat
  exact ⟨fun r => r.elim hn fun z => absurd (Array.getElem?_eq_some_iff.mp q).1 (Nat.not_lt.mpr z), q⟩
theorem own_ldI (X : Stand p l e R s m args below meth c T locs cells slots) (hx : p.tables.exec = Jvm.exec) (hZ : Z.Warmed39 s.vm) (eT : T.heap = h) (A : LA Z h a .int vs) {j x : Int32} (hn : ¬ j < 0) (hat : vs[j.toNatClampNeg]? = some (.int x)) {g : JFrame} (hg : g.method = m) {rest : List Value} (hs : g.stack = .int j :: .ref a :: rest) (hd : decode c.code g.pc = .ok (.iaload, 1)) (target : State)
    (hr : Steps p.tables e below (T.setTop { g with pc := g.pc + 1, stack := .int x :: rest }) target) : Steps p.tables e below (T.setTop g) target := by
  obtain ⟨cl, A, rfl⟩ := A
  exact X.iaload hx (by rw [eT]; exact A.1) (State.isArrayOf_alike hZ.alike A.2.1) A.2.2 (own_at hn hat).1 (own_at hn hat).2 hg hs hd target hr
theorem own_ldJ (X : Stand p l e R s m args below meth c T locs cells slots) (hx : p.tables.exec = Jvm.exec) (hZ : Z.Warmed39 s.vm) (eT : T.heap = h) (A : LA Z h a .long vs) {j : Int32} {x : Int64} (hn : ¬ j < 0) (hat : vs[j.toNatClampNeg]? = some (.long x)) {g : JFrame} (hg : g.method = m) {rest : List Value} (hs : g.stack = .int j :: .ref a :: rest) (hd : decode c.code g.pc = .ok (.laload, 1)) (target : State)
    (hr : Steps p.tables e below (T.setTop { g with pc := g.pc + 1, stack := .long x :: rest }) target) : Steps p.tables e below (T.setTop g) target := by
  obtain ⟨cl, A, rfl⟩ := A
  exact X.laload hx (by rw [eT]; exact A.1) (State.isArrayOf_alike hZ.alike A.2.1) A.2.2 (own_at hn hat).1 (own_at hn hat).2 hg hs hd target hr
theorem own_len (X : Stand p l e R s m args below meth c T locs cells slots) (hx : p.tables.exec = Jvm.exec) (hZ : Z.Warmed39 s.vm) (eT : T.heap = h) (A : LA Z h a ty vs) {n : Int32} (hn : vs.length.toInt32 = n) {g : JFrame} (hg : g.method = m) {rest : List Value} (hs : g.stack = .ref a :: rest) (hd : decode c.code g.pc = .ok (.arraylength, 1)) (target : State)
    (hr : Steps p.tables e below (T.setTop { g with pc := g.pc + 1, stack := .int n :: rest }) target) : Steps p.tables e below (T.setTop g) target := by
  obtain ⟨cl, A, rfl⟩ := A
  refine X.arraylength hx (by rw [eT]; exact A.1) (State.isArrayOf_alike hZ.alike A.2.1) hg hs hd target ?_
  have q : cl.slots.size.toInt32 = n := by rw [← hn, Array.length_toList]
  rw [q]; exact hr
theorem own_clone {a0 : Array Value} (X : Stand p l e R s m args below meth c T locs cells slots) (hx : p.tables.exec = Jvm.exec) (hZ : Z.Warmed39 s.vm) {own ad : String} {index : Nat} (hown : s.vm.findClass own = some m.cls)
    (w1 : (Cond.methodLink own index ⟨ad, "clone", "()Ljava/lang/Object;"⟩).before a0 Z = true) (w2 : (Cond.sameMethod ad "java/lang/Object" "clone" "()Ljava/lang/Object;").before a0 Z = true) (w3 : (Cond.native ⟨"java/lang/Object", "clone", "()Ljava/lang/Object;"⟩).before a0 Z = true)
    (w4 : (Cond.instanceMethod ⟨"java/lang/Object", "clone", "()Ljava/lang/Object;"⟩).before a0 Z = true) (w5 : (Cond.selects ad ⟨ad, "clone", "()Ljava/lang/Object;"⟩ ⟨"java/lang/Object", "clone", "()Ljava/lang/Object;"⟩).before a0 Z = true) (w6 : (Cond.castable ad "java/lang/Cloneable").before a0 Z = true)
    (eT : T.heap = h) (A : LA Z h a ty vs) (E : Exa Z h a ad) (F : ∀ v ∈ vs, fits ty v = true) {g : JFrame} (hg : g.method = m) (hsize : g.locals.size = c.maxLocals) {rest : List Value} (hs : g.stack = .ref a :: rest) (hd : decode c.code g.pc = .ok (.invokevirtual index, 3))
    (hf : 1 ≤ R.frames) {W cap : Nat} (hW : 2 * g.monitorRoom + (rest.map fun v => v.category).sum ≤ W) (hl : W + 14 ≤ R.locals) (hcap : vs.length ≤ cap) (hc : cells + 1 ≤ R.cells) (hsl : slots + cap ≤ R.slots) :
    ∃ T' h', Stand p l e R s m args below meth c T' locs (cells + 1) (slots + cap) ∧ T'.heap = h' ∧ Ext h h' ∧ LA Z h' h.size ty vs ∧ Exa Z h' h.size ad ∧
      ∀ target, Steps p.tables e below (T'.setTop { g with pc := g.pc + 3, stack := .ref h.size :: rest }) target → Steps p.tables e below (T.setTop g) target := by
  obtain ⟨cl, A, rfl⟩ := A
  have FC : FitC Z cl := fitC_of A fun i hi v hv => F v (Array.mem_toList_iff.mpr (Array.mem_of_getElem? hv))
  obtain ⟨T', h', X', e', ex, A', E', st⟩ := cloneA X hx hZ hown w1 w2 w3 w4 w5 w6 eT A E FC hg hsize hs hd hf hW hl (by rw [Array.length_toList] at hcap; exact hcap) hc hsl
  exact ⟨T', h', X', e', ex, ⟨cloneOf cl, A', rfl⟩, E', st⟩
theorem own_fitsJ (xs : List Int64) : ∀ v ∈ xs.map Value.long, fits .long v = true := fun v hv => by
  obtain ⟨x, -, rfl⟩ := List.mem_map.mp hv
  rfl
theorem own_readJ {xs pr rest : List Int64} {x : Int64} {k : Nat} (e : xs = pr ++ x :: rest) (hk : k = pr.length) : (xs.map Value.long)[k]? = some (.long x) := by
  subst e hk
  simp
end Own
section OwnCalls
variable {p : Program} {l : Launch} {e : Env} {R : Room} {s : State} {m : MethodId} {args : Array Value} {below : List Frame} {meth : Method} {c : Code} {T : State} {locs : List Loc} {cells slots : Nat}
abbrev OPre (R : Room) (as' : Array Value) (h : Heap) (rm : Room) : Pt → Array Value → Prop := fun A a => a = as' ∧ A.U.heap = h ∧ A.cells + rm.cells ≤ R.cells ∧ A.slots + rm.slots ≤ R.slots
abbrev OPost (Q : Option Value → Heap → List Loc → Prop) (rm : Room) : Pt → Array Value → Option Value → Pt → Prop := fun A _ v B => ∃ L, Q v B.U.heap L ∧ B.locs = A.locs ++ L ∧ B.cells = A.cells + rm.cells ∧ B.slots = A.slots + rm.slots
theorem own_callS (X : Stand p l e R s m args below meth c T locs cells slots) (hx : p.tables.exec = Jvm.exec) {own : String} {index : Nat} {y : MethodName} {bytes : ByteArray} {maxL : Nat} {ret : Option FieldType}
    (hown : s.vm.findClass own = some m.cls) (hlink : (Cond.methodLink own index y).before args s = true) (hstat : (Cond.static y).before args s = true) (hinit : (Cond.initialized y.cls).before args s = true)
    (hcode : (Cond.code y bytes maxL ret).before args s = true) (hy : y.cls ≠ "java/lang/invoke/MethodHandle" ∧ y.cls ≠ "java/lang/invoke/VarHandle")
    {W : Nat} {as' : Array Value} {h : Heap} {rm : Room} {Q : Option Value → Heap → List Loc → Prop} (hK : Back l R p e below s args y 3 W (OPre R as' h rm) (OPost Q rm))
    {g : JFrame} (hg : g.method = m) (hsize : g.locals.size = c.maxLocals) {argsL rest : List Value} (hlen : ∀ sig, parseMethodDescriptor y.desc = some sig → argsL.length = sig.parameters.length)
    (hstack : g.stack = argsL.reverse ++ rest) (hW : 2 * g.monitorRoom + (rest.map fun v => v.category).sum ≤ W) (hdg : decode c.code g.pc = .ok (.invokestatic index, 3))
    (hpre : argsL.toArray = as' ∧ T.heap = h ∧ cells + rm.cells ≤ R.cells ∧ slots + rm.slots ≤ R.slots) :
    ∃ (v : Option Value) (T' : State) (L : List Loc), Stand p l e R s m args below meth c T' (locs ++ L) (cells + rm.cells) (slots + rm.slots) ∧ Q v T'.heap L ∧ Steps p.tables e below (T.setTop g) (T'.setTop { g with pc := g.pc + 3, stack := v.toList ++ rest }) := by
  obtain ⟨v, vm, ⟨T', L', k', n'⟩, -, X', ⟨Lc, hQ, e1, e2, e3⟩, st⟩ := Jvm.LawKit.callS X hx hown hlink hstat hinit hcode hy hK hg hsize hlen hstack hW hdg (fun _ _ => hpre)
  dsimp only [Pt.U, Pt.locs, Pt.cells, Pt.slots] at X' e1 e2 e3 st hQ
  subst e1 e2 e3
  exact ⟨v, T', Lc, X', hQ, st _ (Steps.refl _)⟩
theorem own_callN (X : Stand p l e R s m args below meth c T locs cells slots) (hx : p.tables.exec = Jvm.exec) {own : String} {index : Nat} {y : MethodName} (hy1 : y.name = "<init>")
    (hown : s.vm.findClass own = some m.cls) (hlink : (Cond.methodLink own index y).before args s = true) (hinst : (Cond.instanceMethod y).before args s = true) {bytes : ByteArray} {maxL : Nat} (hcode : (Cond.code y bytes maxL none).before args s = true)
    (hy : y.cls ≠ "java/lang/invoke/MethodHandle" ∧ y.cls ≠ "java/lang/invoke/VarHandle")
    {W : Nat} {as' : Array Value} {h : Heap} {rm : Room} {Q : Option Value → Heap → List Loc → Prop} (hK : Back l R p e below s args y 3 W (OPre R as' h rm) (OPost Q rm))
    {g : JFrame} (hg : g.method = m) (hsize : g.locals.size = c.maxLocals) {a : Addr} {argsL rest : List Value} (hlen : ∀ sig, parseMethodDescriptor y.desc = some sig → argsL.length = sig.parameters.length)
    (hstack : g.stack = argsL.reverse ++ .ref a :: rest) (hW : 2 * g.monitorRoom + (rest.map fun v => v.category).sum ≤ W) (hdg : decode c.code g.pc = .ok (.invokespecial index, 3))
    (hpre : (Value.ref a :: argsL).toArray = as' ∧ T.heap = h ∧ cells + rm.cells ≤ R.cells ∧ slots + rm.slots ≤ R.slots) :
    ∃ (v : Option Value) (T' : State) (L : List Loc), Stand p l e R s m args below meth c T' (locs ++ L) (cells + rm.cells) (slots + rm.slots) ∧ Q v T'.heap L ∧ Steps p.tables e below (T.setTop g) (T'.setTop { g with pc := g.pc + 3, stack := v.toList ++ rest }) := by
  obtain ⟨v, vm, ⟨T', L', k', n'⟩, -, X', ⟨Lc, hQ, e1, e2, e3⟩, st⟩ := X.specialBack hx hy1 hown hlink hinst hcode hy hK hg hsize (Steps.refl _) hlen hstack hW hdg (fun _ _ => hpre)
  dsimp only [Pt.U, Pt.locs, Pt.cells, Pt.slots] at X' e1 e2 e3 st hQ
  subst e1 e2 e3
  exact ⟨v, T', Lc, X', hQ, st⟩
theorem own_callV (X : Stand p l e R s m args below meth c T locs cells slots) (hx : p.tables.exec = Jvm.exec) {own C : String} {index : Nat} {y : MethodName}
    (hown : s.vm.findClass own = some m.cls) (hlink : (Cond.methodLink own index y).before args s = true) (hdecl : (Cond.declares y).before args s = true) (hsel : (Cond.selects C y y).before args s = true) (hinst : (Cond.instanceMethod y).before args s = true)
    (hy : y.cls ≠ "java/lang/invoke/MethodHandle" ∧ y.cls ≠ "java/lang/invoke/VarHandle")
    {W : Nat} {as' : Array Value} {h : Heap} {rm : Room} {Q : Option Value → Heap → List Loc → Prop} (hK : Back l R p e below s args y 3 W (OPre R as' h rm) (OPost Q rm))
    {b : Addr} {cB : ClassId} (hcB : s.vm.findClass C = some cB) (hrecv : IsOf cB T b)
    {g : JFrame} (hg : g.method = m) (hsize : g.locals.size = c.maxLocals) {argsL rest : List Value} (hlen : ∀ sig, parseMethodDescriptor y.desc = some sig → argsL.length = sig.parameters.length)
    (hstack : g.stack = argsL.reverse ++ .ref b :: rest) (hW : 2 * g.monitorRoom + (rest.map fun v => v.category).sum ≤ W) (hdg : decode c.code g.pc = .ok (.invokevirtual index, 3))
    (hpre : (Value.ref b :: argsL).toArray = as' ∧ T.heap = h ∧ cells + rm.cells ≤ R.cells ∧ slots + rm.slots ≤ R.slots) :
    ∃ (v : Option Value) (T' : State) (L : List Loc), Stand p l e R s m args below meth c T' (locs ++ L) (cells + rm.cells) (slots + rm.slots) ∧ Q v T'.heap L ∧ Steps p.tables e below (T.setTop g) (T'.setTop { g with pc := g.pc + 3, stack := v.toList ++ rest }) := by
  obtain ⟨v, vm, ⟨T', L', k', n'⟩, -, X', ⟨Lc, hQ, e1, e2, e3⟩, st⟩ := X.virtualBack hx hown hlink hdecl (notFace_of_selects (args := args) hsel) hsel hinst hy hK hcB hrecv hg hsize (Steps.refl _) hlen hstack hW hdg (fun _ _ => hpre)
  dsimp only [Pt.U, Pt.locs, Pt.cells, Pt.slots] at X' e1 e2 e3 st hQ
  subst e1 e2 e3
  exact ⟨v, T', Lc, X', hQ, st⟩
end OwnCalls
theorem own_idx {j : Int32} {n : Nat} (h0 : 0 ≤ j.toInt) (h1 : j.toInt < n) : ¬ j < 0 ∧ j.toNatClampNeg < n := by
  have q : ¬ j < 0 := fun q => by have := Int32.lt_iff_toInt_lt.mp q; have z : (0 : Int32).toInt = 0 := (by decide); omega
  have r := nat_of q
  exact ⟨q, by omega⟩
theorem own_get {vs : List Value} (L : List Int32) (e : vs = L.map Value.int) {k : Nat} (hk : k < L.length) : ∃ x, vs[k]? = some (.int x) := by
  subst e
  exact ⟨L[k], by simp [hk]⟩
theorem own_inj {s t : Int32} {k : Int} (h : s.toInt = k) (e : t.toInt = k) : s = t := Int32.toInt_inj.mp (h.trans e.symm)
theorem own_inc (x : Int32) (h : x.toInt < 2147483647) : (x + (1 : Int32)).toInt = x.toInt + 1 := by
  have c := c_iadd x (1 : Int32)
  have r := rng32 (x + (1 : Int32))
  have q := rng32 x
  have o : (1 : Int32).toInt = 1 := by decide
  omega

def own_maxJ (x y : Int64) : Int64 := if x < y then y else x
theorem own_maxJI (x y : Int64) : (own_maxJ x y).toInt = max x.toInt y.toInt := by
  unfold own_maxJ
  by_cases h : x < y
  · rw [if_pos h]; have := Int64.lt_iff_toInt_lt.mp h; omega
  · rw [if_neg h]; have : ¬ x.toInt < y.toInt := fun q => h (Int64.lt_iff_toInt_lt.mpr q); omega
def own_upd (g : Nat → Int64) (k : Nat) (x : Int64) : Nat → Int64 := fun i => if i = k then x else g i
theorem own_set (g : Nat → Int64) (k : Nat) (x : Int64) : ((List.range 16).map fun i => Value.long (g i)).set k (.long x) = ((List.range 16).map fun i => Value.long (own_upd g k x i)) := by
  apply List.ext_getElem
  · simp
  · intro i h1 h2
    rw [List.getElem_set]
    simp only [List.getElem_map, List.getElem_range, own_upd]
    by_cases q : k = i
    · rw [if_pos q, if_pos q.symm]
    · rw [if_neg q, if_neg (Ne.symm q)]
theorem own_rd (g : Nat → Int64) (j : Int32) (h0 : 0 ≤ j.toInt) (h1 : j.toInt < 16) : ((List.range 16).map fun i => Value.long (g i))[j.toNatClampNeg]? = some (.long (g j.toNatClampNeg)) := by
  have h := (own_idx h0 (n := 16) h1).2
  simp [h]
theorem own_ln (g : Nat → Int64) : ((List.range 16).map fun i => Value.long (g i)).length.toInt32 = (16 : Int32) := by rw [List.length_map, List.length_range]; rfl
theorem own_l16 (g : Nat → Int64) : ((List.range 16).map fun i => Value.long (g i)).length = 16 := by simp
theorem own_dec (x : Int32) (h : 1 ≤ x.toInt) : (x - (1 : Int32)).toInt = x.toInt - 1 := by
  have c := c_isub x (1 : Int32)
  have r := rng32 (x - (1 : Int32))
  have q := rng32 x
  have o : (1 : Int32).toInt = 1 := by decide
  omega
theorem own_nat {j : Int32} {k : Nat} (h : j.toInt = k) : j.toNatClampNeg = k := by
  have q : ¬ j < 0 := fun q => by have := Int32.lt_iff_toInt_lt.mp q; have z : (0 : Int32).toInt = 0 := (by decide); omega
  have := nat_of q; omega
theorem own_first (g : Nat → Int64) (f1 f2 en w1 w2 mx : Int) (h1 : 0 ≤ f1) (h2 : f1 ≤ f2) (h3 : f2 ≤ en) (r3 : ∀ i : Nat, (i : Int) < f1 → ¬ w1 < (g i).toInt) (r4 : ∀ i : Nat, f1 = i → (i : Int) < en → w1 < (g i).toInt) (u3 : ∀ i : Nat, f1 ≤ i → (i : Int) < f2 → ¬ w2 < (g i).toInt) (u4 : ∀ i : Nat, f2 = i → (i : Int) < en → w2 < (g i).toInt) (mono : ∀ i j : Nat, i < j → (j : Int) < en → (g i).toInt < (g j).toInt) (hm : mx = max w1 w2) :
    (∀ i : Nat, (i : Int) < f2 → ¬ mx < (g i).toInt) ∧ (∀ i : Nat, f2 = i → (i : Int) < en → mx < (g i).toInt) := by
  refine ⟨fun i hi => ?_, fun i hi he => ?_⟩
  · by_cases q : (i : Int) < f1
    · have := r3 i q; omega
    · have := u3 i (by omega) hi; omega
  · have a := u4 i hi he
    by_cases q : f1 = i
    · have := r4 i q he; omega
    · have b := r4 f1.toNat (by omega) (by omega)
      have c := mono f1.toNat i (by omega) he
      omega
theorem own_e (g : Nat → Int64) (f2 en mx : Int) (h0 : 0 ≤ f2) (h : f2 ≤ en) (P2 : ∀ i : Nat, f2 = i → (i : Int) < en → mx < (g i).toInt) (hall : ∀ i : Nat, (i : Int) < en → ¬ mx < (g i).toInt) : f2 = en := by
  by_cases q : f2 < en
  · exfalso; exact hall f2.toNat (by omega) (P2 f2.toNat (by omega) (by omega))
  · omega
theorem own_fi (g : Nat → Int64) (f2 en mx : Int) (i : Nat) (h0 : 0 ≤ f2) (h : f2 ≤ en) (hi : (i : Int) < en) (P1 : ∀ i : Nat, (i : Int) < f2 → ¬ mx < (g i).toInt) (P2 : ∀ i : Nat, f2 = i → (i : Int) < en → mx < (g i).toInt) (hlo : ∀ j : Nat, j < i → ¬ mx < (g j).toInt) (hmx : mx < (g i).toInt) : f2 = i := by
  by_cases q1 : f2 < i
  · exfalso; exact hlo f2.toNat (by omega) (P2 f2.toNat (by omega) (by omega))
  · by_cases q2 : (i : Int) < f2
    · exact absurd hmx (P1 i q2)
    · omega
def own_emp (f e : Int32) : Int32 := if f = e then 1 else 0
theorem own_i3 {x y : Int32} (h : x.toInt = y.toInt) : x = y := Int32.toInt_inj.mp h
theorem own_lt32 {x y : Int32} (h : x.toInt < y.toInt) : x < y := Int32.lt_iff_toInt_lt.mpr h
theorem own_nlt32 {x y : Int32} (h : ¬ x.toInt < y.toInt) : ¬ x < y := fun q => h (Int32.lt_iff_toInt_lt.mp q)
theorem own_nltJ {x y : Int64} (h : ¬ x.toInt < y.toInt) : ¬ x < y := fun q => h (Int64.lt_iff_toInt_lt.mp q)
theorem own_c1 (f : Int32) (q1 : Int64) (g1 : Nat → Int64) (i : Nat) (h1 : f.toInt ≤ i) (h2 : (i : Int) < f.toInt + 1) (nn0 : ∀ i : Nat, (i : Int) = f.toInt + 0 → ¬ q1.toInt < (g1 i).toInt) : ¬ q1.toInt < (g1 i).toInt := by
  have h : (i : Int) = f.toInt + 0 := by omega
  exact nn0 i h
theorem own_c2 (f : Int32) (q1 : Int64) (g1 : Nat → Int64) (i : Nat) (h1 : f.toInt ≤ i) (h2 : (i : Int) < f.toInt + 2) (nn0 : ∀ i : Nat, (i : Int) = f.toInt + 0 → ¬ q1.toInt < (g1 i).toInt) (nn1 : ∀ i : Nat, (i : Int) = f.toInt + 1 → ¬ q1.toInt < (g1 i).toInt) : ¬ q1.toInt < (g1 i).toInt := by
  have h : (i : Int) = f.toInt + 0 ∨ (i : Int) = f.toInt + 1 := by omega
  rcases h with h | h
  · exact nn0 i h
  · exact nn1 i h
theorem own_c3 (f : Int32) (q1 : Int64) (g1 : Nat → Int64) (i : Nat) (h1 : f.toInt ≤ i) (h2 : (i : Int) < f.toInt + 3) (nn0 : ∀ i : Nat, (i : Int) = f.toInt + 0 → ¬ q1.toInt < (g1 i).toInt) (nn1 : ∀ i : Nat, (i : Int) = f.toInt + 1 → ¬ q1.toInt < (g1 i).toInt) (nn2 : ∀ i : Nat, (i : Int) = f.toInt + 2 → ¬ q1.toInt < (g1 i).toInt) : ¬ q1.toInt < (g1 i).toInt := by
  have h : (i : Int) = f.toInt + 0 ∨ (i : Int) = f.toInt + 1 ∨ (i : Int) = f.toInt + 2 := by omega
  rcases h with h | h | h
  · exact nn0 i h
  · exact nn1 i h
  · exact nn2 i h
theorem d5_0 : decode jdk_29_method_66_code 0 = .ok (.lload_n 0, 1) := by decide +kernel
theorem d5_1 : decode jdk_29_method_66_code 1 = .ok (.lload_n 2, 1) := by decide +kernel
theorem d5_2 : decode jdk_29_method_66_code 2 = .ok (.lcmp, 1) := by decide +kernel
theorem d5_3 : decode jdk_29_method_66_code 3 = .ok (.ifCond .lt 7, 3) := by decide +kernel
theorem d5_10 : decode jdk_29_method_66_code 10 = .ok (.lload_n 2, 1) := by decide +kernel
theorem d5_11 : decode jdk_29_method_66_code 11 = .ok (.lreturn, 1) := by decide +kernel
theorem d5_6 : decode jdk_29_method_66_code 6 = .ok (.lload_n 0, 1) := by decide +kernel
theorem d5_7 : decode jdk_29_method_66_code 7 = .ok (.goto 4, 3) := by decide +kernel
theorem ef_rm5 (m : MethodId) (x0 : Int64) (x1 : Int64) : entryFrame m #[(.long x0), (.long x1)] 4 = mkF m 0 #[.val (.long x0), .second, .val (.long x1), .second] [] := by first | (simp [entryFrame, mkF, argsToLocals, Value.category]; done) | rfl
def Q5 (Z : State) (x : Int64) (y : Int64) (h0 : Heap) (n0 : Nat) (v : Option Value) (h : Heap) (L : List Loc) : Prop := v = some (.long (own_maxJ x y)) ∧ Fr n0 L ∧ h = h0
set_option maxRecDepth 65536 in
set_option maxHeartbeats 40000000 in
theorem rm5 (l : Launch) (Z : State) (a0 : Array Value) (hw : ∀ d ∈ tables_1, d.before a0 Z = true) (ws : List Jvm.Cond) (x : Int64) (y : Int64) (h0 : Heap) (n0 : Nat) (Z0 : n0 ≤ h0.size) :
    MetFree l (⟨"java/lang/Math", "max", "(JJ)J"⟩ : MethodName) (head1 (Jvm.Cond.code (⟨"java/lang/Math", "max", "(JJ)J"⟩ : MethodName) jdk_29_method_66_code 4 (some .long) :: ws) ({ frames := 0, cells := 0, slots := 0, locals := 0 } : Room)) (fun aa U => aa = #[(.long x), (.long y)] ∧ Z.Warmed39 U.vm ∧ U.heap = h0) (fun _ _ _ _ _ => True) (fun _ U o U' => ∃ v L, o = .returned v ∧ Q5 Z x y h0 n0 v U'.heap L ∧ FrameEnd U o U' L ({ frames := 0, cells := 0, slots := 0, locals := 0 } : Room).cells ({ frames := 0, cells := 0, slots := 0, locals := 0 } : Room).slots) := by
  refine MetFree.of_bodySF (Jvm.Free.JP.mathPlain rfl (by decide +kernel)) hisR ?_
  intro p e s m args below meth c s₁ Bd hml0 hP hK
  obtain ⟨rfl, hZ, hh⟩ := hP
  have hx := Bd.exec
  have hby := Bd.bytes
  have hml : c.maxLocals = 4 := hml0
  have hown : s.vm.findClass "java/lang/Math" = some m.cls := findClass_of_methodNamed Bd.named
  have hnm := (name_of_methodNamed Bd.named Bd.method).1
  have X0 : Stand p l e ({ frames := 0, cells := 0, slots := 0, locals := 0 } : Room) s m #[(.long x), (.long y)] below meth c s₁ [] 0 0 := Stand.of_body Bd
  have e0 : s₁.heap = h0 := by rw [← hh, Bd.state]; rfl
  have N0 := Fr.nil n0
  obtain ⟨Ω, hΩ⟩ : ∃ z, z = s₁.setTop (entryFrame m #[(.long x), (.long y)] 4) := ⟨_, rfl⟩
  have S0 : Steps p.tables e below Ω (s₁.setTop (mkF m 0 #[.val (.long x), .second, .val (.long y), .second] [])) := by rw [hΩ]; exact castTop (ef_rm5 m x y) (Steps.refl _)
  have S1 : Steps p.tables e below Ω (s₁.setTop (mkF m 3 #[.val (.long x), .second, .val (.long y), .second] [(.int (lcmpW x y))])) := by
    refine S0.trans ?_
    refine XS.lloadN X0.here hx rfl (hb hby d5_0) rfl ?_
    show Steps p.tables e below (s₁.setTop (mkF m 1 #[.val (.long x), .second, .val (.long y), .second] [(.long x)])) _
    refine XS.lloadN X0.here hx rfl (hb hby d5_1) rfl ?_
    show Steps p.tables e below (s₁.setTop (mkF m 2 #[.val (.long x), .second, .val (.long y), .second] [(.long y), (.long x)])) _
    refine XS.lcmp X0.here hx rfl (hb hby d5_2) rfl ?_
    exact Steps.refl _
  by_cases hc : x < y
  · have qhc : x.toInt < y.toInt := Int64.lt_iff_toInt_lt.mp hc
    have S2 : Steps p.tables e below Ω (s₁.setTop (mkF m 11 #[.val (.long x), .second, .val (.long y), .second] [(.long y)])) := by
      refine S1.trans ?_
      refine XS.ifYes X0.here hx rfl (pc0 := 3) (pc' := 10) rfl (hb hby d5_3) rfl (XT.ll_lt_t hc) (by decide) (by decide) ?_
      show Steps p.tables e below (s₁.setTop (mkF m 10 #[.val (.long x), .second, .val (.long y), .second] [])) _
      refine XS.lloadN X0.here hx rfl (hb hby d5_10) rfl ?_
      exact Steps.refl _
    obtain ⟨fs, hr, hrun, hended, hW, hsame⟩ := X0.leave (v := some (.long y)) (fun h => by rw [Bd.returns] at h; cases h)
    have hfin : Steps p.tables e below Ω (s₁.setFrames fs) := by
      refine S2.trans ?_
      exact X0.lreturnOut hx Bd.returns (hb hby d5_11) hr
    rw [hΩ] at hfin
    refine ⟨_, _, hfin, hrun, hended, _, _, rfl, ?_, ⟨_, rfl⟩, hW, hsame.mono (by decide) (by decide)⟩
    show Q5 Z x y h0 n0 _ s₁.heap _
    rw [e0]
    exact ⟨by rw [own_maxJ, if_pos hc], N0, rfl⟩
  · have qhc : ¬ x.toInt < y.toInt := fun q => hc (Int64.lt_iff_toInt_lt.mpr q)
    have S3 : Steps p.tables e below Ω (s₁.setTop (mkF m 11 #[.val (.long x), .second, .val (.long y), .second] [(.long x)])) := by
      refine S1.trans ?_
      refine XS.ifNo X0.here hx rfl (hb hby d5_3) rfl (XT.ll_lt_f hc) ?_
      show Steps p.tables e below (s₁.setTop (mkF m 6 #[.val (.long x), .second, .val (.long y), .second] [])) _
      refine XS.lloadN X0.here hx rfl (hb hby d5_6) rfl ?_
      show Steps p.tables e below (s₁.setTop (mkF m 7 #[.val (.long x), .second, .val (.long y), .second] [(.long x)])) _
      refine XS.goto X0.here hx rfl (pc0 := 7) (pc' := 11) rfl (hb hby d5_7) (by decide) (by decide) ?_
      exact Steps.refl _
    obtain ⟨fs, hr, hrun, hended, hW, hsame⟩ := X0.leave (v := some (.long x)) (fun h => by rw [Bd.returns] at h; cases h)
    have hfin : Steps p.tables e below Ω (s₁.setFrames fs) := by
      refine S3.trans ?_
      exact X0.lreturnOut hx Bd.returns (hb hby d5_11) hr
    rw [hΩ] at hfin
    refine ⟨_, _, hfin, hrun, hended, _, _, rfl, ?_, ⟨_, rfl⟩, hW, hsame.mono (by decide) (by decide)⟩
    show Q5 Z x y h0 n0 _ s₁.heap _
    rw [e0]
    exact ⟨by rw [own_maxJ, if_neg hc], N0, rfl⟩
theorem d1_0 : decode prog_24_method_1_code 0 = .ok (.aload_n 0, 1) := by decide +kernel
theorem d1_1 : decode prog_24_method_1_code 1 = .ok (.invokespecial 1, 3) := by decide +kernel
theorem d1_4 : decode prog_24_method_1_code 4 = .ok (.aload_n 0, 1) := by decide +kernel
theorem d1_5 : decode prog_24_method_1_code 5 = .ok (.bipush 16, 2) := by decide +kernel
theorem d1_7 : decode prog_24_method_1_code 7 = .ok (.newarray .long, 2) := by decide +kernel
theorem d1_9 : decode prog_24_method_1_code 9 = .ok (.putfield 9, 3) := by decide +kernel
theorem d1_12 : decode prog_24_method_1_code 12 = .ok (.aload_n 0, 1) := by decide +kernel
theorem d1_13 : decode prog_24_method_1_code 13 = .ok (.bipush 16, 2) := by decide +kernel
theorem d1_15 : decode prog_24_method_1_code 15 = .ok (.newarray .long, 2) := by decide +kernel
theorem d1_17 : decode prog_24_method_1_code 17 = .ok (.putfield 13, 3) := by decide +kernel
theorem d1_20 : decode prog_24_method_1_code 20 = .ok (.return_, 1) := by decide +kernel
theorem pn_0 : plainName "com/example/arcspan/arcspan/io/ForwardHeads" = true := by first | (simp [plainName, overriddenIn]; done) | decide +kernel
theorem ef_rm1 (m : MethodId) (x0 : Addr) : entryFrame m #[(.ref x0)] 1 = mkF m 0 #[.val (.ref x0)] [] := by first | (simp [entryFrame, mkF, argsToLocals, Value.category]; done) | rfl
def Q1 (Z : State) (a : Addr) (h0 : Heap) (n0 : Nat) (v : Option Value) (h : Heap) (L : List Loc) : Prop := ∃ ha la : Addr, v = none ∧ Fr n0 L ∧ Keep h0 h [a] ∧ Exa Z h a "com/example/arcspan/arcspan/io/ForwardHeads" ∧ Fld Z h a "com/example/arcspan/arcspan/io/ForwardHeads" "heads" "[J" (.ref ha) ∧ Fld Z h a "com/example/arcspan/arcspan/io/ForwardHeads" "lines" "[J" (.ref la) ∧ Fld Z h a "com/example/arcspan/arcspan/io/ForwardHeads" "first" "I" (.int (0 : Int32)) ∧ Fld Z h a "com/example/arcspan/arcspan/io/ForwardHeads" "end" "I" (.int (0 : Int32)) ∧ LA Z h ha .long ((List.range 16).map fun i => Value.long ((fun _ => (0 : Int64)) i)) ∧ LA Z h la .long ((List.range 16).map fun i => Value.long ((fun _ => (0 : Int64)) i)) ∧ n0 ≤ ha ∧ n0 ≤ la ∧ ha ≠ la ∧ a ≠ ha ∧ a ≠ la
set_option maxRecDepth 65536 in
set_option maxHeartbeats 40000000 in
theorem rm1 (l : Launch) (Z : State) (a0 : Array Value) (hw : ∀ d ∈ tables_1, d.before a0 Z = true) (ws : List Jvm.Cond) (a : Addr) (h0 : Heap) (n0 : Nat) (Z0 : n0 ≤ h0.size) (E0 : Exa Z h0 a "com/example/arcspan/arcspan/io/ForwardHeads") (P_heads : Fld Z h0 a "com/example/arcspan/arcspan/io/ForwardHeads" "heads" "[J" .null) (P_lines : Fld Z h0 a "com/example/arcspan/arcspan/io/ForwardHeads" "lines" "[J" .null) (P_first : Fld Z h0 a "com/example/arcspan/arcspan/io/ForwardHeads" "first" "I" (.int (0 : Int32))) (P_end : Fld Z h0 a "com/example/arcspan/arcspan/io/ForwardHeads" "end" "I" (.int (0 : Int32))) (g : n0 ≤ a) :
    MetFree l (⟨"com/example/arcspan/arcspan/io/ForwardHeads", "<init>", "()V"⟩ : MethodName) (head1 (Jvm.Cond.code (⟨"com/example/arcspan/arcspan/io/ForwardHeads", "<init>", "()V"⟩ : MethodName) prog_24_method_1_code 1 none :: ws) ({ frames := 1, cells := 2, slots := 32, locals := 12 } : Room)) (fun aa U => aa = #[(.ref a)] ∧ Z.Warmed39 U.vm ∧ U.heap = h0) (fun _ _ _ _ _ => True) (fun _ U o U' => ∃ v L, o = .returned v ∧ Q1 Z a h0 n0 v U'.heap L ∧ FrameEnd U o U' L ({ frames := 1, cells := 2, slots := 32, locals := 12 } : Room).cells ({ frames := 1, cells := 2, slots := 32, locals := 12 } : Room).slots) := by
  refine MetFree.of_bodySF (plainFor_of_name pn_0) hisR ?_
  intro p e s m args below meth c s₁ Bd hml0 hP hK
  obtain ⟨rfl, hZ, hh⟩ := hP
  have hx := Bd.exec
  have hby := Bd.bytes
  have hml : c.maxLocals = 1 := hml0
  have hown : s.vm.findClass "com/example/arcspan/arcspan/io/ForwardHeads" = some m.cls := findClass_of_methodNamed Bd.named
  have hnm := (name_of_methodNamed Bd.named Bd.method).1
  have X0 : Stand p l e ({ frames := 1, cells := 2, slots := 32, locals := 12 } : Room) s m #[(.ref a)] below meth c s₁ [] 0 0 := Stand.of_body Bd
  have e0 : s₁.heap = h0 := by rw [← hh, Bd.state]; rfl
  have N0 := Fr.nil n0
  obtain ⟨Ω, hΩ⟩ : ∃ z, z = s₁.setTop (entryFrame m #[(.ref a)] 1) := ⟨_, rfl⟩
  have S0 : Steps p.tables e below Ω (s₁.setTop (mkF m 0 #[.val (.ref a)] [])) := by rw [hΩ]; exact castTop (ef_rm1 m a) (Steps.refl _)
  have la0 := E0.lt
  have S1 : Steps p.tables e below Ω (s₁.setTop (mkF m 1 #[.val (.ref a)] [(.ref a)])) := by
    refine S0.trans ?_
    refine XS.aloadN X0.here hx rfl (hb hby d1_0) rfl rfl ?_
    exact Steps.refl _
  obtain ⟨T2, X2, e2, st2⟩ := initO X0 hx hZ hown (hw _ (List.mem_of_getElem? (i := 6) rfl)) (hw _ (List.mem_of_getElem? (i := 7) rfl)) (hw _ (List.mem_of_getElem? (i := 8) rfl)) e0 (g := (mkF m 1 #[.val (.ref a)] [(.ref a)])) rfl (by rw [hml]; rfl) rfl (hb hby d1_1) (by decide) (W := 0) (by show 2 * 0 + _ ≤ _; exact Nat.le_of_eq rfl) (by decide)
  have S3 : Steps p.tables e below Ω (T2.setTop (mkF m 4 #[.val (.ref a)] [])) := S1.trans (st2 _ (Steps.refl _))
  have S4 : Steps p.tables e below Ω (T2.setTop (mkF m 7 #[.val (.ref a)] [(.int (16 : Int32)), (.ref a)])) := by
    refine S3.trans ?_
    refine XS.aloadN X2.here hx rfl (hb hby d1_4) rfl rfl ?_
    show Steps p.tables e below (T2.setTop (mkF m 5 #[.val (.ref a)] [(.ref a)])) _
    refine XS.bipush X2.here hx rfl (hb hby d1_5) ?_
    exact Steps.refl _
  obtain ⟨T5, h5, k5, X5, e5, E5, A5, st5⟩ := newP X2 hx hZ (hw _ (List.mem_of_getElem? (i := 9) rfl)) e2 (g := (mkF m 7 #[.val (.ref a)] [(.int (16 : Int32)), (.ref a)])) rfl (hb hby d1_7) rfl (by decide) (cap := 16) (by decide) (by decide) (by decide) (by decide)
  obtain ⟨ha, s_ha⟩ : ∃ z, z = h0.size := ⟨_, rfl⟩
  rw [← s_ha] at A5 st5
  have g_ha : n0 ≤ ha := Nat.le_trans Z0 (Nat.le_of_eq s_ha.symm)
  have S6 : Steps p.tables e below Ω (T5.setTop (mkF m 9 #[.val (.ref a)] [(.ref ha), (.ref a)])) := S4.trans (st5 _ (Steps.refl _))
  have V1 : LA Z h5 ha .long ((List.range 16).map fun i => Value.long ((fun _ => (0 : Int64)) i)) := LA.new A5 16 rfl
  have lt1 := V1.lt
  have E_a_5 := (E0).ext E5
  have F_heads_a_5 : Fld Z h5 a "com/example/arcspan/arcspan/io/ForwardHeads" "heads" "[J" .null := (P_heads).ext E5
  have F_lines_a_5 : Fld Z h5 a "com/example/arcspan/arcspan/io/ForwardHeads" "lines" "[J" .null := (P_lines).ext E5
  have F_first_a_5 : Fld Z h5 a "com/example/arcspan/arcspan/io/ForwardHeads" "first" "I" (.int (0 : Int32)) := (P_first).ext E5
  have F_end_a_5 : Fld Z h5 a "com/example/arcspan/arcspan/io/ForwardHeads" "end" "I" (.int (0 : Int32)) := (P_end).ext E5
  obtain ⟨T7, h7, X7, e7, W7, st7⟩ := putF X5 hx hZ hown (host := "") (Or.inl (hw _ (List.mem_of_getElem? (i := 10) rfl))) Via.refl e5 F_heads_a_5 E_a_5 (Or.inl (hw _ (List.mem_of_getElem? (i := 11) rfl))) (hw _ (List.mem_of_getElem? (i := 1) rfl)) (ty := (.array .long)) (by decide) rfl rfl (g := (mkF m 9 #[.val (.ref a)] [(.ref ha), (.ref a)])) rfl rfl (hb hby d1_9)
  have S8 : Steps p.tables e below Ω (T7.setTop (mkF m 12 #[.val (.ref a)] [])) := S6.trans (st7 _ (Steps.refl _))
  have N7 := Fr.snoc X7 N0 g
  have E_a_7 := (E_a_5).wr W7
  have F_heads_a_7 : Fld Z h7 a "com/example/arcspan/arcspan/io/ForwardHeads" "heads" "[J" (.ref ha) := (F_heads_a_5).same W7
  have F_lines_a_7 : Fld Z h7 a "com/example/arcspan/arcspan/io/ForwardHeads" "lines" "[J" .null := (F_lines_a_5).other W7 (Or.inr (slot_ne (Or.inl (hw _ (List.mem_of_getElem? (i := 13) rfl))) (Or.inl (hw _ (List.mem_of_getElem? (i := 11) rfl))) (by decide) (t := (.array .long)) (t' := (.array .long)) (by decide) (by decide)))
  have F_first_a_7 : Fld Z h7 a "com/example/arcspan/arcspan/io/ForwardHeads" "first" "I" (.int (0 : Int32)) := (F_first_a_5).other W7 (Or.inr (slot_ne (Or.inl (hw _ (List.mem_of_getElem? (i := 21) rfl))) (Or.inl (hw _ (List.mem_of_getElem? (i := 11) rfl))) (by decide) (t := .int) (t' := (.array .long)) (by decide) (by decide)))
  have F_end_a_7 : Fld Z h7 a "com/example/arcspan/arcspan/io/ForwardHeads" "end" "I" (.int (0 : Int32)) := (F_end_a_5).other W7 (Or.inr (slot_ne (Or.inl (hw _ (List.mem_of_getElem? (i := 23) rfl))) (Or.inl (hw _ (List.mem_of_getElem? (i := 11) rfl))) (by decide) (t := .int) (t' := (.array .long)) (by decide) (by decide)))
  have V2 := V1.other W7 (Nat.ne_of_gt (Nat.lt_of_lt_of_le la0 (Nat.le_of_eq s_ha.symm)))
  have sz2 := W7.size
  have S9 : Steps p.tables e below Ω (T7.setTop (mkF m 15 #[.val (.ref a)] [(.int (16 : Int32)), (.ref a)])) := by
    refine S8.trans ?_
    refine XS.aloadN X7.here hx rfl (hb hby d1_12) rfl rfl ?_
    show Steps p.tables e below (T7.setTop (mkF m 13 #[.val (.ref a)] [(.ref a)])) _
    refine XS.bipush X7.here hx rfl (hb hby d1_13) ?_
    exact Steps.refl _
  obtain ⟨T10, h10, k10, X10, e10, E10, A10, st10⟩ := newP X7 hx hZ (hw _ (List.mem_of_getElem? (i := 9) rfl)) e7 (g := (mkF m 15 #[.val (.ref a)] [(.int (16 : Int32)), (.ref a)])) rfl (hb hby d1_15) rfl (by decide) (cap := 16) (by decide) (by decide) (by decide) (by decide)
  obtain ⟨la, s_la⟩ : ∃ z, z = h7.size := ⟨_, rfl⟩
  rw [← s_la] at A10 st10
  have g_la : n0 ≤ la := Nat.le_trans (Nat.le_trans (Nat.le_trans Z0 E5.1) (Keep.of_wr W7).1) (Nat.le_of_eq s_la.symm)
  have S11 : Steps p.tables e below Ω (T10.setTop (mkF m 17 #[.val (.ref a)] [(.ref la), (.ref a)])) := S9.trans (st10 _ (Steps.refl _))
  have V3 := V2.ext E10
  have V4 : LA Z h10 la .long ((List.range 16).map fun i => Value.long ((fun _ => (0 : Int64)) i)) := LA.new A10 16 rfl
  have hne : ha ≠ la := Nat.ne_of_lt (Nat.lt_of_lt_of_le V2.lt (Nat.le_of_eq s_la.symm))
  have ha2 : a ≠ la := Nat.ne_of_lt (Nat.lt_of_lt_of_le (E_a_7).lt (Nat.le_of_eq s_la.symm))
  have ha1 : a ≠ ha := Nat.ne_of_lt (Nat.lt_of_lt_of_le la0 (Nat.le_of_eq s_ha.symm))
  have E_a_10 := (E_a_7).ext E10
  have F_heads_a_10 : Fld Z h10 a "com/example/arcspan/arcspan/io/ForwardHeads" "heads" "[J" (.ref ha) := (F_heads_a_7).ext E10
  have F_lines_a_10 : Fld Z h10 a "com/example/arcspan/arcspan/io/ForwardHeads" "lines" "[J" .null := (F_lines_a_7).ext E10
  have F_first_a_10 : Fld Z h10 a "com/example/arcspan/arcspan/io/ForwardHeads" "first" "I" (.int (0 : Int32)) := (F_first_a_7).ext E10
  have F_end_a_10 : Fld Z h10 a "com/example/arcspan/arcspan/io/ForwardHeads" "end" "I" (.int (0 : Int32)) := (F_end_a_7).ext E10
  obtain ⟨T12, h12, X12, e12, W12, st12⟩ := putF X10 hx hZ hown (host := "") (Or.inl (hw _ (List.mem_of_getElem? (i := 12) rfl))) Via.refl e10 F_lines_a_10 E_a_10 (Or.inl (hw _ (List.mem_of_getElem? (i := 13) rfl))) (hw _ (List.mem_of_getElem? (i := 1) rfl)) (ty := (.array .long)) (by decide) rfl rfl (g := (mkF m 17 #[.val (.ref a)] [(.ref la), (.ref a)])) rfl rfl (hb hby d1_17)
  have S13 : Steps p.tables e below Ω (T12.setTop (mkF m 20 #[.val (.ref a)] [])) := S11.trans (st12 _ (Steps.refl _))
  have N12 := Fr.snoc X12 N7 g
  have E_a_12 := (E_a_10).wr W12
  have F_heads_a_12 : Fld Z h12 a "com/example/arcspan/arcspan/io/ForwardHeads" "heads" "[J" (.ref ha) := (F_heads_a_10).other W12 (Or.inr (slot_ne (Or.inl (hw _ (List.mem_of_getElem? (i := 11) rfl))) (Or.inl (hw _ (List.mem_of_getElem? (i := 13) rfl))) (by decide) (t := (.array .long)) (t' := (.array .long)) (by decide) (by decide)))
  have F_lines_a_12 : Fld Z h12 a "com/example/arcspan/arcspan/io/ForwardHeads" "lines" "[J" (.ref la) := (F_lines_a_10).same W12
  have F_first_a_12 : Fld Z h12 a "com/example/arcspan/arcspan/io/ForwardHeads" "first" "I" (.int (0 : Int32)) := (F_first_a_10).other W12 (Or.inr (slot_ne (Or.inl (hw _ (List.mem_of_getElem? (i := 21) rfl))) (Or.inl (hw _ (List.mem_of_getElem? (i := 13) rfl))) (by decide) (t := .int) (t' := (.array .long)) (by decide) (by decide)))
  have F_end_a_12 : Fld Z h12 a "com/example/arcspan/arcspan/io/ForwardHeads" "end" "I" (.int (0 : Int32)) := (F_end_a_10).other W12 (Or.inr (slot_ne (Or.inl (hw _ (List.mem_of_getElem? (i := 23) rfl))) (Or.inl (hw _ (List.mem_of_getElem? (i := 13) rfl))) (by decide) (t := .int) (t' := (.array .long)) (by decide) (by decide)))
  have V5 := V3.other W12 (Ne.symm ha1)
  have V6 := V4.other W12 (Ne.symm ha2)
  obtain ⟨fs, hr, hrun, hended, hW, hsame⟩ := X12.leave (v := none) (fun _ => rfl)
  have hfin : Steps p.tables e below Ω (T12.setFrames fs) := by
    refine S13.trans ?_
    exact X12.returnOut hx Bd.returns (hb hby d1_20) hr
  rw [hΩ] at hfin
  refine ⟨_, _, hfin, hrun, hended, _, _, rfl, ?_, ⟨_, rfl⟩, hW, hsame.mono (by decide) (by decide)⟩
  show Q1 Z a h0 n0 _ T12.heap _
  rw [e12]
  exact ⟨ha, la, rfl, N12, (((((((((Keep.refl h0 [a])).ext E5)).wr W7 (Or.inl (List.mem_of_getElem? (i := 0) rfl)))).ext E10)).wr W12 (Or.inl (List.mem_of_getElem? (i := 0) rfl))), E_a_12, F_heads_a_12, F_lines_a_12, F_first_a_12, F_end_a_12, V5, V6, g_ha, g_la, hne, ha1, ha2⟩
theorem d3_0 : decode prog_24_method_2_code 0 = .ok (.aload_n 0, 1) := by decide +kernel
theorem d3_1 : decode prog_24_method_2_code 1 = .ok (.getfield 16, 3) := by decide +kernel
theorem d3_4 : decode prog_24_method_2_code 4 = .ok (.aload_n 0, 1) := by decide +kernel
theorem d3_5 : decode prog_24_method_2_code 5 = .ok (.getfield 20, 3) := by decide +kernel
theorem d3_8 : decode prog_24_method_2_code 8 = .ok (.if_icmp .ge 20, 3) := by decide +kernel
theorem d3_11 : decode prog_24_method_2_code 11 = .ok (.aload_n 0, 1) := by decide +kernel
theorem d3_12 : decode prog_24_method_2_code 12 = .ok (.getfield 9, 3) := by decide +kernel
theorem d3_15 : decode prog_24_method_2_code 15 = .ok (.aload_n 0, 1) := by decide +kernel
theorem d3_16 : decode prog_24_method_2_code 16 = .ok (.getfield 20, 3) := by decide +kernel
theorem d3_19 : decode prog_24_method_2_code 19 = .ok (.iconst 1, 1) := by decide +kernel
theorem d3_20 : decode prog_24_method_2_code 20 = .ok (.isub, 1) := by decide +kernel
theorem d3_21 : decode prog_24_method_2_code 21 = .ok (.laload, 1) := by decide +kernel
theorem d3_22 : decode prog_24_method_2_code 22 = .ok (.lload_n 1, 1) := by decide +kernel
theorem d3_23 : decode prog_24_method_2_code 23 = .ok (.lcmp, 1) := by decide +kernel
theorem d3_24 : decode prog_24_method_2_code 24 = .ok (.ifCond .lt 4, 3) := by decide +kernel
theorem d3_27 : decode prog_24_method_2_code 27 = .ok (.return_, 1) := by decide +kernel
theorem ef_rm2s (m : MethodId) (x0 : Addr) (x1 : Int64) (x2 : Int64) : entryFrame m #[(.ref x0), (.long x1), (.long x2)] 5 = mkF m 0 #[.val (.ref x0), .val (.long x1), .second, .val (.long x2), .second] [] := by first | (simp [entryFrame, mkF, argsToLocals, Value.category]; done) | rfl
def Q2s (Z : State) (a : Addr) (q1 : Int64) (q2 : Int64) (ha : Addr) (la : Addr) (f : Int32) (en : Int32) (g1 : Nat → Int64) (g2 : Nat → Int64) (h0 : Heap) (n0 : Nat) (v : Option Value) (h : Heap) (L : List Loc) : Prop := v = none ∧ Fr n0 L ∧ h = h0
set_option maxRecDepth 65536 in
set_option maxHeartbeats 40000000 in
theorem rm2s (l : Launch) (Z : State) (a0 : Array Value) (hw : ∀ d ∈ tables_1, d.before a0 Z = true) (ws : List Jvm.Cond) (a : Addr) (q1 : Int64) (q2 : Int64) (ha : Addr) (la : Addr) (f : Int32) (en : Int32) (g1 : Nat → Int64) (g2 : Nat → Int64) (h0 : Heap) (n0 : Nat) (Z0 : n0 ≤ h0.size) (E0 : Exa Z h0 a "com/example/arcspan/arcspan/io/ForwardHeads") (P_heads : Fld Z h0 a "com/example/arcspan/arcspan/io/ForwardHeads" "heads" "[J" (.ref ha)) (P_lines : Fld Z h0 a "com/example/arcspan/arcspan/io/ForwardHeads" "lines" "[J" (.ref la)) (P_first : Fld Z h0 a "com/example/arcspan/arcspan/io/ForwardHeads" "first" "I" (.int f)) (P_end : Fld Z h0 a "com/example/arcspan/arcspan/io/ForwardHeads" "end" "I" (.int en)) (A1 : LA Z h0 ha .long ((List.range 16).map fun i => Value.long (g1 i))) (A2 : LA Z h0 la .long ((List.range 16).map fun i => Value.long (g2 i))) (g : n0 ≤ a) (ga : n0 ≤ ha) (gl : n0 ≤ la) (d1 : ha ≠ la) (d2 : a ≠ ha) (d3 : a ≠ la) (b1 : 0 ≤ en.toInt) (b2 : en.toInt < 15) (b3 : f < en) (b4 : 1 ≤ en.toInt) (b5 : ¬ g1 (en - (1 : Int32)).toNatClampNeg < q1) :
    MetFree l (⟨"com/example/arcspan/arcspan/io/ForwardHeads", "add", "(JJ)V"⟩ : MethodName) (head1 (Jvm.Cond.code (⟨"com/example/arcspan/arcspan/io/ForwardHeads", "add", "(JJ)V"⟩ : MethodName) prog_24_method_2_code 5 none :: ws) ({ frames := 0, cells := 0, slots := 0, locals := 0 } : Room)) (fun aa U => aa = #[(.ref a), (.long q1), (.long q2)] ∧ Z.Warmed39 U.vm ∧ U.heap = h0) (fun _ _ _ _ _ => True) (fun _ U o U' => ∃ v L, o = .returned v ∧ Q2s Z a q1 q2 ha la f en g1 g2 h0 n0 v U'.heap L ∧ FrameEnd U o U' L ({ frames := 0, cells := 0, slots := 0, locals := 0 } : Room).cells ({ frames := 0, cells := 0, slots := 0, locals := 0 } : Room).slots) := by
  refine MetFree.of_bodySF (plainFor_of_name pn_0) hisR ?_
  intro p e s m args below meth c s₁ Bd hml0 hP hK
  obtain ⟨rfl, hZ, hh⟩ := hP
  have hx := Bd.exec
  have hby := Bd.bytes
  have hml : c.maxLocals = 5 := hml0
  have hown : s.vm.findClass "com/example/arcspan/arcspan/io/ForwardHeads" = some m.cls := findClass_of_methodNamed Bd.named
  have hnm := (name_of_methodNamed Bd.named Bd.method).1
  have X0 : Stand p l e ({ frames := 0, cells := 0, slots := 0, locals := 0 } : Room) s m #[(.ref a), (.long q1), (.long q2)] below meth c s₁ [] 0 0 := Stand.of_body Bd
  have e0 : s₁.heap = h0 := by rw [← hh, Bd.state]; rfl
  have N0 := Fr.nil n0
  obtain ⟨Ω, hΩ⟩ : ∃ z, z = s₁.setTop (entryFrame m #[(.ref a), (.long q1), (.long q2)] 5) := ⟨_, rfl⟩
  have S0 : Steps p.tables e below Ω (s₁.setTop (mkF m 0 #[.val (.ref a), .val (.long q1), .second, .val (.long q2), .second] [])) := by rw [hΩ]; exact castTop (ef_rm2s m a q1 q2) (Steps.refl _)
  have S1 : Steps p.tables e below Ω (s₁.setTop (mkF m 1 #[.val (.ref a), .val (.long q1), .second, .val (.long q2), .second] [(.ref a)])) := by
    refine S0.trans ?_
    refine XS.aloadN X0.here hx rfl (hb hby d3_0) rfl rfl ?_
    exact Steps.refl _
  obtain ⟨T2, X2, e2, st2⟩ := getF X0 hx hZ hown (host := "") (Or.inl (hw _ (List.mem_of_getElem? (i := 20) rfl))) Via.refl e0 P_first (g := (mkF m 1 #[.val (.ref a), .val (.long q1), .second, .val (.long q2), .second] [(.ref a)])) rfl rfl (hb hby d3_1)
  have S3 : Steps p.tables e below Ω (T2.setTop (mkF m 4 #[.val (.ref a), .val (.long q1), .second, .val (.long q2), .second] [(.int f)])) := S1.trans (st2 _ (Steps.refl _))
  have S4 : Steps p.tables e below Ω (T2.setTop (mkF m 5 #[.val (.ref a), .val (.long q1), .second, .val (.long q2), .second] [(.ref a), (.int f)])) := by
    refine S3.trans ?_
    refine XS.aloadN X2.here hx rfl (hb hby d3_4) rfl rfl ?_
    exact Steps.refl _
  obtain ⟨T5, X5, e5, st5⟩ := getF X2 hx hZ hown (host := "") (Or.inl (hw _ (List.mem_of_getElem? (i := 22) rfl))) Via.refl e2 P_end (g := (mkF m 5 #[.val (.ref a), .val (.long q1), .second, .val (.long q2), .second] [(.ref a), (.int f)])) rfl rfl (hb hby d3_5)
  have S6 : Steps p.tables e below Ω (T5.setTop (mkF m 8 #[.val (.ref a), .val (.long q1), .second, .val (.long q2), .second] [(.int en), (.int f)])) := S4.trans (st5 _ (Steps.refl _))
  have S7 : Steps p.tables e below Ω (T5.setTop (mkF m 12 #[.val (.ref a), .val (.long q1), .second, .val (.long q2), .second] [(.ref a)])) := by
    refine S6.trans ?_
    refine XS.icmpNo X5.here hx rfl (hb hby d3_8) rfl (XT.ii_ge_f b3) ?_
    show Steps p.tables e below (T5.setTop (mkF m 11 #[.val (.ref a), .val (.long q1), .second, .val (.long q2), .second] [])) _
    refine XS.aloadN X5.here hx rfl (hb hby d3_11) rfl rfl ?_
    exact Steps.refl _
  obtain ⟨T8, X8, e8, st8⟩ := getF X5 hx hZ hown (host := "") (Or.inl (hw _ (List.mem_of_getElem? (i := 10) rfl))) Via.refl e5 P_heads (g := (mkF m 12 #[.val (.ref a), .val (.long q1), .second, .val (.long q2), .second] [(.ref a)])) rfl rfl (hb hby d3_12)
  have S9 : Steps p.tables e below Ω (T8.setTop (mkF m 15 #[.val (.ref a), .val (.long q1), .second, .val (.long q2), .second] [(.ref ha)])) := S7.trans (st8 _ (Steps.refl _))
  have S10 : Steps p.tables e below Ω (T8.setTop (mkF m 16 #[.val (.ref a), .val (.long q1), .second, .val (.long q2), .second] [(.ref a), (.ref ha)])) := by
    refine S9.trans ?_
    refine XS.aloadN X8.here hx rfl (hb hby d3_15) rfl rfl ?_
    exact Steps.refl _
  obtain ⟨T11, X11, e11, st11⟩ := getF X8 hx hZ hown (host := "") (Or.inl (hw _ (List.mem_of_getElem? (i := 22) rfl))) Via.refl e8 P_end (g := (mkF m 16 #[.val (.ref a), .val (.long q1), .second, .val (.long q2), .second] [(.ref a), (.ref ha)])) rfl rfl (hb hby d3_16)
  have S12 : Steps p.tables e below Ω (T11.setTop (mkF m 19 #[.val (.ref a), .val (.long q1), .second, .val (.long q2), .second] [(.int en), (.ref ha)])) := S10.trans (st11 _ (Steps.refl _))
  have S13 : Steps p.tables e below Ω (T11.setTop (mkF m 21 #[.val (.ref a), .val (.long q1), .second, .val (.long q2), .second] [(.int (en - (1 : Int32))), (.ref ha)])) := by
    refine S12.trans ?_
    refine XS.iconst X11.here hx rfl (hb hby d3_19) ?_
    show Steps p.tables e below (T11.setTop (mkF m 20 #[.val (.ref a), .val (.long q1), .second, .val (.long q2), .second] [(.int (1 : Int32)), (.int en), (.ref ha)])) _
    refine XS.isub X11.here hx rfl (hb hby d3_20) rfl ?_
    exact Steps.refl _
  have hde := own_dec en b4
  have hin := own_idx (j := (en - (1 : Int32))) (n := 16) (by omega) (by omega)
  have S14 : Steps p.tables e below Ω (T11.setTop (mkF m 22 #[.val (.ref a), .val (.long q1), .second, .val (.long q2), .second] [(.long (g1 (en - (1 : Int32)).toNatClampNeg))])) := S13.trans (own_ldJ X11 hx hZ e11 A1 (j := (en - (1 : Int32))) (x := (g1 (en - (1 : Int32)).toNatClampNeg)) hin.1 (own_rd g1 (en - (1 : Int32)) (by omega) (by omega)) (g := (mkF m 21 #[.val (.ref a), .val (.long q1), .second, .val (.long q2), .second] [(.int (en - (1 : Int32))), (.ref ha)])) rfl rfl (hb hby d3_21) _ (Steps.refl _))
  have S15 : Steps p.tables e below Ω (T11.setTop (mkF m 27 #[.val (.ref a), .val (.long q1), .second, .val (.long q2), .second] [])) := by
    refine S14.trans ?_
    refine XS.lloadN X11.here hx rfl (hb hby d3_22) rfl ?_
    show Steps p.tables e below (T11.setTop (mkF m 23 #[.val (.ref a), .val (.long q1), .second, .val (.long q2), .second] [(.long q1), (.long (g1 (en - (1 : Int32)).toNatClampNeg))])) _
    refine XS.lcmp X11.here hx rfl (hb hby d3_23) rfl ?_
    show Steps p.tables e below (T11.setTop (mkF m 24 #[.val (.ref a), .val (.long q1), .second, .val (.long q2), .second] [(.int (lcmpW (g1 (en - (1 : Int32)).toNatClampNeg) q1))])) _
    refine XS.ifNo X11.here hx rfl (hb hby d3_24) rfl (XT.ll_lt_f b5) ?_
    exact Steps.refl _
  obtain ⟨fs, hr, hrun, hended, hW, hsame⟩ := X11.leave (v := none) (fun _ => rfl)
  have hfin : Steps p.tables e below Ω (T11.setFrames fs) := by
    refine S15.trans ?_
    exact X11.returnOut hx Bd.returns (hb hby d3_27) hr
  rw [hΩ] at hfin
  refine ⟨_, _, hfin, hrun, hended, _, _, rfl, ?_, ⟨_, rfl⟩, hW, hsame.mono (by decide) (by decide)⟩
  show Q2s Z a q1 q2 ha la f en g1 g2 h0 n0 _ T11.heap _
  rw [e11]
  exact ⟨rfl, N0, rfl⟩
theorem d3_28 : decode prog_24_method_2_code 28 = .ok (.aload_n 0, 1) := by decide +kernel
theorem d3_29 : decode prog_24_method_2_code 29 = .ok (.getfield 20, 3) := by decide +kernel
theorem d3_32 : decode prog_24_method_2_code 32 = .ok (.aload_n 0, 1) := by decide +kernel
theorem d3_33 : decode prog_24_method_2_code 33 = .ok (.getfield 9, 3) := by decide +kernel
theorem d3_36 : decode prog_24_method_2_code 36 = .ok (.arraylength, 1) := by decide +kernel
theorem d3_37 : decode prog_24_method_2_code 37 = .ok (.if_icmp .ne 7, 3) := by decide +kernel
theorem d3_44 : decode prog_24_method_2_code 44 = .ok (.aload_n 0, 1) := by decide +kernel
theorem d3_45 : decode prog_24_method_2_code 45 = .ok (.getfield 9, 3) := by decide +kernel
theorem d3_48 : decode prog_24_method_2_code 48 = .ok (.aload_n 0, 1) := by decide +kernel
theorem d3_49 : decode prog_24_method_2_code 49 = .ok (.getfield 20, 3) := by decide +kernel
theorem d3_52 : decode prog_24_method_2_code 52 = .ok (.lload_n 1, 1) := by decide +kernel
theorem d3_53 : decode prog_24_method_2_code 53 = .ok (.lastore, 1) := by decide +kernel
theorem d3_54 : decode prog_24_method_2_code 54 = .ok (.aload_n 0, 1) := by decide +kernel
theorem d3_55 : decode prog_24_method_2_code 55 = .ok (.getfield 13, 3) := by decide +kernel
theorem d3_58 : decode prog_24_method_2_code 58 = .ok (.aload_n 0, 1) := by decide +kernel
theorem d3_59 : decode prog_24_method_2_code 59 = .ok (.getfield 20, 3) := by decide +kernel
theorem d3_62 : decode prog_24_method_2_code 62 = .ok (.lload_n 3, 1) := by decide +kernel
theorem d3_63 : decode prog_24_method_2_code 63 = .ok (.lastore, 1) := by decide +kernel
theorem d3_64 : decode prog_24_method_2_code 64 = .ok (.aload_n 0, 1) := by decide +kernel
theorem d3_65 : decode prog_24_method_2_code 65 = .ok (.dup, 1) := by decide +kernel
theorem d3_66 : decode prog_24_method_2_code 66 = .ok (.getfield 20, 3) := by decide +kernel
theorem d3_69 : decode prog_24_method_2_code 69 = .ok (.iconst 1, 1) := by decide +kernel
theorem d3_70 : decode prog_24_method_2_code 70 = .ok (.iadd, 1) := by decide +kernel
theorem d3_71 : decode prog_24_method_2_code 71 = .ok (.putfield 20, 3) := by decide +kernel
theorem d3_74 : decode prog_24_method_2_code 74 = .ok (.return_, 1) := by decide +kernel
theorem ef_rm2p (m : MethodId) (x0 : Addr) (x1 : Int64) (x2 : Int64) : entryFrame m #[(.ref x0), (.long x1), (.long x2)] 5 = mkF m 0 #[.val (.ref x0), .val (.long x1), .second, .val (.long x2), .second] [] := by first | (simp [entryFrame, mkF, argsToLocals, Value.category]; done) | rfl
def Q2p (Z : State) (a : Addr) (q1 : Int64) (q2 : Int64) (ha : Addr) (la : Addr) (f : Int32) (en : Int32) (g1 : Nat → Int64) (g2 : Nat → Int64) (h0 : Heap) (n0 : Nat) (v : Option Value) (h : Heap) (L : List Loc) : Prop := v = none ∧ Fr n0 L ∧ Keep h0 h [a, ha, la] ∧ Exa Z h a "com/example/arcspan/arcspan/io/ForwardHeads" ∧ Fld Z h a "com/example/arcspan/arcspan/io/ForwardHeads" "heads" "[J" (.ref ha) ∧ Fld Z h a "com/example/arcspan/arcspan/io/ForwardHeads" "lines" "[J" (.ref la) ∧ Fld Z h a "com/example/arcspan/arcspan/io/ForwardHeads" "first" "I" (.int f) ∧ Fld Z h a "com/example/arcspan/arcspan/io/ForwardHeads" "end" "I" (.int (en + (1 : Int32))) ∧ LA Z h ha .long ((List.range 16).map fun i => Value.long ((own_upd g1 en.toNatClampNeg q1) i)) ∧ LA Z h la .long ((List.range 16).map fun i => Value.long ((own_upd g2 en.toNatClampNeg q2) i))
set_option maxRecDepth 65536 in
set_option maxHeartbeats 40000000 in
theorem rm2p (l : Launch) (Z : State) (a0 : Array Value) (hw : ∀ d ∈ tables_1, d.before a0 Z = true) (ws : List Jvm.Cond) (a : Addr) (q1 : Int64) (q2 : Int64) (ha : Addr) (la : Addr) (f : Int32) (en : Int32) (g1 : Nat → Int64) (g2 : Nat → Int64) (h0 : Heap) (n0 : Nat) (Z0 : n0 ≤ h0.size) (E0 : Exa Z h0 a "com/example/arcspan/arcspan/io/ForwardHeads") (P_heads : Fld Z h0 a "com/example/arcspan/arcspan/io/ForwardHeads" "heads" "[J" (.ref ha)) (P_lines : Fld Z h0 a "com/example/arcspan/arcspan/io/ForwardHeads" "lines" "[J" (.ref la)) (P_first : Fld Z h0 a "com/example/arcspan/arcspan/io/ForwardHeads" "first" "I" (.int f)) (P_end : Fld Z h0 a "com/example/arcspan/arcspan/io/ForwardHeads" "end" "I" (.int en)) (A1 : LA Z h0 ha .long ((List.range 16).map fun i => Value.long (g1 i))) (A2 : LA Z h0 la .long ((List.range 16).map fun i => Value.long (g2 i))) (g : n0 ≤ a) (ga : n0 ≤ ha) (gl : n0 ≤ la) (d1 : ha ≠ la) (d2 : a ≠ ha) (d3 : a ≠ la) (b1 : 0 ≤ en.toInt) (b2 : en.toInt < 15) (b3 : f < en → 1 ≤ en.toInt ∧ g1 (en - (1 : Int32)).toNatClampNeg < q1) :
    MetFree l (⟨"com/example/arcspan/arcspan/io/ForwardHeads", "add", "(JJ)V"⟩ : MethodName) (head1 (Jvm.Cond.code (⟨"com/example/arcspan/arcspan/io/ForwardHeads", "add", "(JJ)V"⟩ : MethodName) prog_24_method_2_code 5 none :: ws) ({ frames := 0, cells := 0, slots := 0, locals := 0 } : Room)) (fun aa U => aa = #[(.ref a), (.long q1), (.long q2)] ∧ Z.Warmed39 U.vm ∧ U.heap = h0) (fun _ _ _ _ _ => True) (fun _ U o U' => ∃ v L, o = .returned v ∧ Q2p Z a q1 q2 ha la f en g1 g2 h0 n0 v U'.heap L ∧ FrameEnd U o U' L ({ frames := 0, cells := 0, slots := 0, locals := 0 } : Room).cells ({ frames := 0, cells := 0, slots := 0, locals := 0 } : Room).slots) := by
  refine MetFree.of_bodySF (plainFor_of_name pn_0) hisR ?_
  intro p e s m args below meth c s₁ Bd hml0 hP hK
  obtain ⟨rfl, hZ, hh⟩ := hP
  have hx := Bd.exec
  have hby := Bd.bytes
  have hml : c.maxLocals = 5 := hml0
  have hown : s.vm.findClass "com/example/arcspan/arcspan/io/ForwardHeads" = some m.cls := findClass_of_methodNamed Bd.named
  have hnm := (name_of_methodNamed Bd.named Bd.method).1
  have X0 : Stand p l e ({ frames := 0, cells := 0, slots := 0, locals := 0 } : Room) s m #[(.ref a), (.long q1), (.long q2)] below meth c s₁ [] 0 0 := Stand.of_body Bd
  have e0 : s₁.heap = h0 := by rw [← hh, Bd.state]; rfl
  have N0 := Fr.nil n0
  obtain ⟨Ω, hΩ⟩ : ∃ z, z = s₁.setTop (entryFrame m #[(.ref a), (.long q1), (.long q2)] 5) := ⟨_, rfl⟩
  have S0 : Steps p.tables e below Ω (s₁.setTop (mkF m 0 #[.val (.ref a), .val (.long q1), .second, .val (.long q2), .second] [])) := by rw [hΩ]; exact castTop (ef_rm2p m a q1 q2) (Steps.refl _)
  have S1 : Steps p.tables e below Ω (s₁.setTop (mkF m 1 #[.val (.ref a), .val (.long q1), .second, .val (.long q2), .second] [(.ref a)])) := by
    refine S0.trans ?_
    refine XS.aloadN X0.here hx rfl (hb hby d3_0) rfl rfl ?_
    exact Steps.refl _
  obtain ⟨T2, X2, e2, st2⟩ := getF X0 hx hZ hown (host := "") (Or.inl (hw _ (List.mem_of_getElem? (i := 20) rfl))) Via.refl e0 P_first (g := (mkF m 1 #[.val (.ref a), .val (.long q1), .second, .val (.long q2), .second] [(.ref a)])) rfl rfl (hb hby d3_1)
  have S3 : Steps p.tables e below Ω (T2.setTop (mkF m 4 #[.val (.ref a), .val (.long q1), .second, .val (.long q2), .second] [(.int f)])) := S1.trans (st2 _ (Steps.refl _))
  have S4 : Steps p.tables e below Ω (T2.setTop (mkF m 5 #[.val (.ref a), .val (.long q1), .second, .val (.long q2), .second] [(.ref a), (.int f)])) := by
    refine S3.trans ?_
    refine XS.aloadN X2.here hx rfl (hb hby d3_4) rfl rfl ?_
    exact Steps.refl _
  obtain ⟨T5, X5, e5, st5⟩ := getF X2 hx hZ hown (host := "") (Or.inl (hw _ (List.mem_of_getElem? (i := 22) rfl))) Via.refl e2 P_end (g := (mkF m 5 #[.val (.ref a), .val (.long q1), .second, .val (.long q2), .second] [(.ref a), (.int f)])) rfl rfl (hb hby d3_5)
  have S6 : Steps p.tables e below Ω (T5.setTop (mkF m 8 #[.val (.ref a), .val (.long q1), .second, .val (.long q2), .second] [(.int en), (.int f)])) := S4.trans (st5 _ (Steps.refl _))
  by_cases hc : f < en
  · have qhc : f.toInt < en.toInt := Int32.lt_iff_toInt_lt.mp hc
    have S7 : Steps p.tables e below Ω (T5.setTop (mkF m 11 #[.val (.ref a), .val (.long q1), .second, .val (.long q2), .second] [])) := by
      refine S6.trans ?_
      refine XS.icmpNo X5.here hx rfl (hb hby d3_8) rfl (XT.ii_ge_f hc) ?_
      exact Steps.refl _
    obtain ⟨b4, b5⟩ := b3 hc
    have hde := own_dec en b4
    have hin := own_idx (j := (en - (1 : Int32))) (n := 16) (by omega) (by omega)
    have S8 : Steps p.tables e below Ω (T5.setTop (mkF m 12 #[.val (.ref a), .val (.long q1), .second, .val (.long q2), .second] [(.ref a)])) := by
      refine S7.trans ?_
      refine XS.aloadN X5.here hx rfl (hb hby d3_11) rfl rfl ?_
      exact Steps.refl _
    obtain ⟨T9, X9, e9, st9⟩ := getF X5 hx hZ hown (host := "") (Or.inl (hw _ (List.mem_of_getElem? (i := 10) rfl))) Via.refl e5 P_heads (g := (mkF m 12 #[.val (.ref a), .val (.long q1), .second, .val (.long q2), .second] [(.ref a)])) rfl rfl (hb hby d3_12)
    have S10 : Steps p.tables e below Ω (T9.setTop (mkF m 15 #[.val (.ref a), .val (.long q1), .second, .val (.long q2), .second] [(.ref ha)])) := S8.trans (st9 _ (Steps.refl _))
    have S11 : Steps p.tables e below Ω (T9.setTop (mkF m 16 #[.val (.ref a), .val (.long q1), .second, .val (.long q2), .second] [(.ref a), (.ref ha)])) := by
      refine S10.trans ?_
      refine XS.aloadN X9.here hx rfl (hb hby d3_15) rfl rfl ?_
      exact Steps.refl _
    obtain ⟨T12, X12, e12, st12⟩ := getF X9 hx hZ hown (host := "") (Or.inl (hw _ (List.mem_of_getElem? (i := 22) rfl))) Via.refl e9 P_end (g := (mkF m 16 #[.val (.ref a), .val (.long q1), .second, .val (.long q2), .second] [(.ref a), (.ref ha)])) rfl rfl (hb hby d3_16)
    have S13 : Steps p.tables e below Ω (T12.setTop (mkF m 19 #[.val (.ref a), .val (.long q1), .second, .val (.long q2), .second] [(.int en), (.ref ha)])) := S11.trans (st12 _ (Steps.refl _))
    have S14 : Steps p.tables e below Ω (T12.setTop (mkF m 21 #[.val (.ref a), .val (.long q1), .second, .val (.long q2), .second] [(.int (en - (1 : Int32))), (.ref ha)])) := by
      refine S13.trans ?_
      refine XS.iconst X12.here hx rfl (hb hby d3_19) ?_
      show Steps p.tables e below (T12.setTop (mkF m 20 #[.val (.ref a), .val (.long q1), .second, .val (.long q2), .second] [(.int (1 : Int32)), (.int en), (.ref ha)])) _
      refine XS.isub X12.here hx rfl (hb hby d3_20) rfl ?_
      exact Steps.refl _
    have S15 : Steps p.tables e below Ω (T12.setTop (mkF m 22 #[.val (.ref a), .val (.long q1), .second, .val (.long q2), .second] [(.long (g1 (en - (1 : Int32)).toNatClampNeg))])) := S14.trans (own_ldJ X12 hx hZ e12 A1 (j := (en - (1 : Int32))) (x := (g1 (en - (1 : Int32)).toNatClampNeg)) hin.1 (own_rd g1 (en - (1 : Int32)) (by omega) (by omega)) (g := (mkF m 21 #[.val (.ref a), .val (.long q1), .second, .val (.long q2), .second] [(.int (en - (1 : Int32))), (.ref ha)])) rfl rfl (hb hby d3_21) _ (Steps.refl _))
    have S16 : Steps p.tables e below Ω (T12.setTop (mkF m 28 #[.val (.ref a), .val (.long q1), .second, .val (.long q2), .second] [])) := by
      refine S15.trans ?_
      refine XS.lloadN X12.here hx rfl (hb hby d3_22) rfl ?_
      show Steps p.tables e below (T12.setTop (mkF m 23 #[.val (.ref a), .val (.long q1), .second, .val (.long q2), .second] [(.long q1), (.long (g1 (en - (1 : Int32)).toNatClampNeg))])) _
      refine XS.lcmp X12.here hx rfl (hb hby d3_23) rfl ?_
      show Steps p.tables e below (T12.setTop (mkF m 24 #[.val (.ref a), .val (.long q1), .second, .val (.long q2), .second] [(.int (lcmpW (g1 (en - (1 : Int32)).toNatClampNeg) q1))])) _
      refine XS.ifYes X12.here hx rfl (pc0 := 24) (pc' := 28) rfl (hb hby d3_24) rfl (XT.ll_lt_t b5) (by decide) (by decide) ?_
      exact Steps.refl _
    have S17 : Steps p.tables e below Ω (T12.setTop (mkF m 29 #[.val (.ref a), .val (.long q1), .second, .val (.long q2), .second] [(.ref a)])) := by
      refine S16.trans ?_
      refine XS.aloadN X12.here hx rfl (hb hby d3_28) rfl rfl ?_
      exact Steps.refl _
    obtain ⟨T18, X18, e18, st18⟩ := getF X12 hx hZ hown (host := "") (Or.inl (hw _ (List.mem_of_getElem? (i := 22) rfl))) Via.refl e12 P_end (g := (mkF m 29 #[.val (.ref a), .val (.long q1), .second, .val (.long q2), .second] [(.ref a)])) rfl rfl (hb hby d3_29)
    have S19 : Steps p.tables e below Ω (T18.setTop (mkF m 32 #[.val (.ref a), .val (.long q1), .second, .val (.long q2), .second] [(.int en)])) := S17.trans (st18 _ (Steps.refl _))
    have S20 : Steps p.tables e below Ω (T18.setTop (mkF m 33 #[.val (.ref a), .val (.long q1), .second, .val (.long q2), .second] [(.ref a), (.int en)])) := by
      refine S19.trans ?_
      refine XS.aloadN X18.here hx rfl (hb hby d3_32) rfl rfl ?_
      exact Steps.refl _
    obtain ⟨T21, X21, e21, st21⟩ := getF X18 hx hZ hown (host := "") (Or.inl (hw _ (List.mem_of_getElem? (i := 10) rfl))) Via.refl e18 P_heads (g := (mkF m 33 #[.val (.ref a), .val (.long q1), .second, .val (.long q2), .second] [(.ref a), (.int en)])) rfl rfl (hb hby d3_33)
    have S22 : Steps p.tables e below Ω (T21.setTop (mkF m 36 #[.val (.ref a), .val (.long q1), .second, .val (.long q2), .second] [(.ref ha), (.int en)])) := S20.trans (st21 _ (Steps.refl _))
    have S23 : Steps p.tables e below Ω (T21.setTop (mkF m 37 #[.val (.ref a), .val (.long q1), .second, .val (.long q2), .second] [(.int (16 : Int32)), (.int en)])) := S22.trans (own_len X21 hx hZ e21 A1 (n := (16 : Int32)) (own_ln g1) (g := (mkF m 36 #[.val (.ref a), .val (.long q1), .second, .val (.long q2), .second] [(.ref ha), (.int en)])) rfl rfl (hb hby d3_36) _ (Steps.refl _))
    have e16 : (16 : Int32).toInt = 16 := by decide
    have ne16 : ¬ en = (16 : Int32) := fun q => by rw [q] at b2; omega
    have S24 : Steps p.tables e below Ω (T21.setTop (mkF m 45 #[.val (.ref a), .val (.long q1), .second, .val (.long q2), .second] [(.ref a)])) := by
      refine S23.trans ?_
      refine XS.icmpYes X21.here hx rfl (pc0 := 37) (pc' := 44) rfl (hb hby d3_37) rfl (XT.ii_ne_t ne16) (by decide) (by decide) ?_
      show Steps p.tables e below (T21.setTop (mkF m 44 #[.val (.ref a), .val (.long q1), .second, .val (.long q2), .second] [])) _
      refine XS.aloadN X21.here hx rfl (hb hby d3_44) rfl rfl ?_
      exact Steps.refl _
    obtain ⟨T25, X25, e25, st25⟩ := getF X21 hx hZ hown (host := "") (Or.inl (hw _ (List.mem_of_getElem? (i := 10) rfl))) Via.refl e21 P_heads (g := (mkF m 45 #[.val (.ref a), .val (.long q1), .second, .val (.long q2), .second] [(.ref a)])) rfl rfl (hb hby d3_45)
    have S26 : Steps p.tables e below Ω (T25.setTop (mkF m 48 #[.val (.ref a), .val (.long q1), .second, .val (.long q2), .second] [(.ref ha)])) := S24.trans (st25 _ (Steps.refl _))
    have S27 : Steps p.tables e below Ω (T25.setTop (mkF m 49 #[.val (.ref a), .val (.long q1), .second, .val (.long q2), .second] [(.ref a), (.ref ha)])) := by
      refine S26.trans ?_
      refine XS.aloadN X25.here hx rfl (hb hby d3_48) rfl rfl ?_
      exact Steps.refl _
    obtain ⟨T28, X28, e28, st28⟩ := getF X25 hx hZ hown (host := "") (Or.inl (hw _ (List.mem_of_getElem? (i := 22) rfl))) Via.refl e25 P_end (g := (mkF m 49 #[.val (.ref a), .val (.long q1), .second, .val (.long q2), .second] [(.ref a), (.ref ha)])) rfl rfl (hb hby d3_49)
    have S29 : Steps p.tables e below Ω (T28.setTop (mkF m 52 #[.val (.ref a), .val (.long q1), .second, .val (.long q2), .second] [(.int en), (.ref ha)])) := S27.trans (st28 _ (Steps.refl _))
    have S30 : Steps p.tables e below Ω (T28.setTop (mkF m 53 #[.val (.ref a), .val (.long q1), .second, .val (.long q2), .second] [(.long q1), (.int en), (.ref ha)])) := by
      refine S29.trans ?_
      refine XS.lloadN X28.here hx rfl (hb hby d3_52) rfl ?_
      exact Steps.refl _
    have hie := own_idx (j := en) (n := 16) b1 (by omega)
    obtain ⟨T31, h31, X31, e31, W31, V31', st31⟩ := own_stJ X28 hx hZ e28 A1 (j := en) (i := en.toNatClampNeg) rfl ⟨hie.1, by rw [own_l16]; exact hie.2⟩ (g := (mkF m 53 #[.val (.ref a), .val (.long q1), .second, .val (.long q2), .second] [(.long q1), (.int en), (.ref ha)])) rfl rfl (hb hby d3_53)
    have V31 : LA Z h31 ha .long ((List.range 16).map fun i => Value.long ((own_upd g1 en.toNatClampNeg q1) i)) := by rw [own_set] at V31'; exact V31'
    have S32 : Steps p.tables e below Ω (T31.setTop (mkF m 54 #[.val (.ref a), .val (.long q1), .second, .val (.long q2), .second] [])) := S30.trans (st31 _ (Steps.refl _))
    have N31 := Fr.snoc X31 N0 ga
    have E_a_31 := (E0).wr W31
    have F_heads_a_31 : Fld Z h31 a "com/example/arcspan/arcspan/io/ForwardHeads" "heads" "[J" (.ref ha) := (P_heads).other W31 (Or.inl d2)
    have F_lines_a_31 : Fld Z h31 a "com/example/arcspan/arcspan/io/ForwardHeads" "lines" "[J" (.ref la) := (P_lines).other W31 (Or.inl d2)
    have F_first_a_31 : Fld Z h31 a "com/example/arcspan/arcspan/io/ForwardHeads" "first" "I" (.int f) := (P_first).other W31 (Or.inl d2)
    have F_end_a_31 : Fld Z h31 a "com/example/arcspan/arcspan/io/ForwardHeads" "end" "I" (.int en) := (P_end).other W31 (Or.inl d2)
    have B2 := A2.other W31 (Ne.symm d1)
    have S33 : Steps p.tables e below Ω (T31.setTop (mkF m 55 #[.val (.ref a), .val (.long q1), .second, .val (.long q2), .second] [(.ref a)])) := by
      refine S32.trans ?_
      refine XS.aloadN X31.here hx rfl (hb hby d3_54) rfl rfl ?_
      exact Steps.refl _
    obtain ⟨T34, X34, e34, st34⟩ := getF X31 hx hZ hown (host := "") (Or.inl (hw _ (List.mem_of_getElem? (i := 12) rfl))) Via.refl e31 F_lines_a_31 (g := (mkF m 55 #[.val (.ref a), .val (.long q1), .second, .val (.long q2), .second] [(.ref a)])) rfl rfl (hb hby d3_55)
    have S35 : Steps p.tables e below Ω (T34.setTop (mkF m 58 #[.val (.ref a), .val (.long q1), .second, .val (.long q2), .second] [(.ref la)])) := S33.trans (st34 _ (Steps.refl _))
    have S36 : Steps p.tables e below Ω (T34.setTop (mkF m 59 #[.val (.ref a), .val (.long q1), .second, .val (.long q2), .second] [(.ref a), (.ref la)])) := by
      refine S35.trans ?_
      refine XS.aloadN X34.here hx rfl (hb hby d3_58) rfl rfl ?_
      exact Steps.refl _
    obtain ⟨T37, X37, e37, st37⟩ := getF X34 hx hZ hown (host := "") (Or.inl (hw _ (List.mem_of_getElem? (i := 22) rfl))) Via.refl e34 F_end_a_31 (g := (mkF m 59 #[.val (.ref a), .val (.long q1), .second, .val (.long q2), .second] [(.ref a), (.ref la)])) rfl rfl (hb hby d3_59)
    have S38 : Steps p.tables e below Ω (T37.setTop (mkF m 62 #[.val (.ref a), .val (.long q1), .second, .val (.long q2), .second] [(.int en), (.ref la)])) := S36.trans (st37 _ (Steps.refl _))
    have S39 : Steps p.tables e below Ω (T37.setTop (mkF m 63 #[.val (.ref a), .val (.long q1), .second, .val (.long q2), .second] [(.long q2), (.int en), (.ref la)])) := by
      refine S38.trans ?_
      refine XS.lloadN X37.here hx rfl (hb hby d3_62) rfl ?_
      exact Steps.refl _
    obtain ⟨T40, h40, X40, e40, W40, V40', st40⟩ := own_stJ X37 hx hZ e37 B2 (j := en) (i := en.toNatClampNeg) rfl ⟨hie.1, by rw [own_l16]; exact hie.2⟩ (g := (mkF m 63 #[.val (.ref a), .val (.long q1), .second, .val (.long q2), .second] [(.long q2), (.int en), (.ref la)])) rfl rfl (hb hby d3_63)
    have V40 : LA Z h40 la .long ((List.range 16).map fun i => Value.long ((own_upd g2 en.toNatClampNeg q2) i)) := by rw [own_set] at V40'; exact V40'
    have S41 : Steps p.tables e below Ω (T40.setTop (mkF m 64 #[.val (.ref a), .val (.long q1), .second, .val (.long q2), .second] [])) := S39.trans (st40 _ (Steps.refl _))
    have N40 := Fr.snoc X40 N31 gl
    have E_a_40 := (E_a_31).wr W40
    have F_heads_a_40 : Fld Z h40 a "com/example/arcspan/arcspan/io/ForwardHeads" "heads" "[J" (.ref ha) := (F_heads_a_31).other W40 (Or.inl d3)
    have F_lines_a_40 : Fld Z h40 a "com/example/arcspan/arcspan/io/ForwardHeads" "lines" "[J" (.ref la) := (F_lines_a_31).other W40 (Or.inl d3)
    have F_first_a_40 : Fld Z h40 a "com/example/arcspan/arcspan/io/ForwardHeads" "first" "I" (.int f) := (F_first_a_31).other W40 (Or.inl d3)
    have F_end_a_40 : Fld Z h40 a "com/example/arcspan/arcspan/io/ForwardHeads" "end" "I" (.int en) := (F_end_a_31).other W40 (Or.inl d3)
    have B1 := V31.other W40 d1
    have S42 : Steps p.tables e below Ω (T40.setTop (mkF m 66 #[.val (.ref a), .val (.long q1), .second, .val (.long q2), .second] [(.ref a), (.ref a)])) := by
      refine S41.trans ?_
      refine XS.aloadN X40.here hx rfl (hb hby d3_64) rfl rfl ?_
      show Steps p.tables e below (T40.setTop (mkF m 65 #[.val (.ref a), .val (.long q1), .second, .val (.long q2), .second] [(.ref a)])) _
      refine XS.dup X40.here hx rfl (hb hby d3_65) rfl rfl ?_
      exact Steps.refl _
    obtain ⟨T43, X43, e43, st43⟩ := getF X40 hx hZ hown (host := "") (Or.inl (hw _ (List.mem_of_getElem? (i := 22) rfl))) Via.refl e40 F_end_a_40 (g := (mkF m 66 #[.val (.ref a), .val (.long q1), .second, .val (.long q2), .second] [(.ref a), (.ref a)])) rfl rfl (hb hby d3_66)
    have S44 : Steps p.tables e below Ω (T43.setTop (mkF m 69 #[.val (.ref a), .val (.long q1), .second, .val (.long q2), .second] [(.int en), (.ref a)])) := S42.trans (st43 _ (Steps.refl _))
    have S45 : Steps p.tables e below Ω (T43.setTop (mkF m 71 #[.val (.ref a), .val (.long q1), .second, .val (.long q2), .second] [(.int (en + (1 : Int32))), (.ref a)])) := by
      refine S44.trans ?_
      refine XS.iconst X43.here hx rfl (hb hby d3_69) ?_
      show Steps p.tables e below (T43.setTop (mkF m 70 #[.val (.ref a), .val (.long q1), .second, .val (.long q2), .second] [(.int (1 : Int32)), (.int en), (.ref a)])) _
      refine XS.iadd X43.here hx rfl (hb hby d3_70) rfl ?_
      exact Steps.refl _
    obtain ⟨T46, h46, X46, e46, W46, st46⟩ := putF X43 hx hZ hown (host := "") (Or.inl (hw _ (List.mem_of_getElem? (i := 22) rfl))) Via.refl e43 F_end_a_40 E_a_40 (Or.inl (hw _ (List.mem_of_getElem? (i := 23) rfl))) (hw _ (List.mem_of_getElem? (i := 1) rfl)) (ty := .int) (by decide) rfl rfl (g := (mkF m 71 #[.val (.ref a), .val (.long q1), .second, .val (.long q2), .second] [(.int (en + (1 : Int32))), (.ref a)])) rfl rfl (hb hby d3_71)
    have S47 : Steps p.tables e below Ω (T46.setTop (mkF m 74 #[.val (.ref a), .val (.long q1), .second, .val (.long q2), .second] [])) := S45.trans (st46 _ (Steps.refl _))
    have N46 := Fr.snoc X46 N40 g
    have E_a_46 := (E_a_40).wr W46
    have F_heads_a_46 : Fld Z h46 a "com/example/arcspan/arcspan/io/ForwardHeads" "heads" "[J" (.ref ha) := (F_heads_a_40).other W46 (Or.inr (slot_ne (Or.inl (hw _ (List.mem_of_getElem? (i := 11) rfl))) (Or.inl (hw _ (List.mem_of_getElem? (i := 23) rfl))) (by decide) (t := (.array .long)) (t' := .int) (by decide) (by decide)))
    have F_lines_a_46 : Fld Z h46 a "com/example/arcspan/arcspan/io/ForwardHeads" "lines" "[J" (.ref la) := (F_lines_a_40).other W46 (Or.inr (slot_ne (Or.inl (hw _ (List.mem_of_getElem? (i := 13) rfl))) (Or.inl (hw _ (List.mem_of_getElem? (i := 23) rfl))) (by decide) (t := (.array .long)) (t' := .int) (by decide) (by decide)))
    have F_first_a_46 : Fld Z h46 a "com/example/arcspan/arcspan/io/ForwardHeads" "first" "I" (.int f) := (F_first_a_40).other W46 (Or.inr (slot_ne (Or.inl (hw _ (List.mem_of_getElem? (i := 21) rfl))) (Or.inl (hw _ (List.mem_of_getElem? (i := 23) rfl))) (by decide) (t := .int) (t' := .int) (by decide) (by decide)))
    have F_end_a_46 : Fld Z h46 a "com/example/arcspan/arcspan/io/ForwardHeads" "end" "I" (.int (en + (1 : Int32))) := (F_end_a_40).same W46
    have C1 := B1.other W46 (Ne.symm d2)
    have C2 := V40.other W46 (Ne.symm d3)
    obtain ⟨fs, hr, hrun, hended, hW, hsame⟩ := X46.leave (v := none) (fun _ => rfl)
    have hfin : Steps p.tables e below Ω (T46.setFrames fs) := by
      refine S47.trans ?_
      exact X46.returnOut hx Bd.returns (hb hby d3_74) hr
    rw [hΩ] at hfin
    refine ⟨_, _, hfin, hrun, hended, _, _, rfl, ?_, ⟨_, rfl⟩, hW, hsame.mono (by decide) (by decide)⟩
    show Q2p Z a q1 q2 ha la f en g1 g2 h0 n0 _ T46.heap _
    rw [e46]
    exact ⟨rfl, N46, (((Keep.refl h0 [a, ha, la]).wr W31 (Or.inl (List.mem_of_getElem? (i := 1) rfl))).wr W40 (Or.inl (List.mem_of_getElem? (i := 2) rfl))).wr W46 (Or.inl (List.mem_of_getElem? (i := 0) rfl)), E_a_46, F_heads_a_46, F_lines_a_46, F_first_a_46, F_end_a_46, C1, C2⟩
  · have qhc : ¬ f.toInt < en.toInt := fun q => hc (Int32.lt_iff_toInt_lt.mpr q)
    have S48 : Steps p.tables e below Ω (T5.setTop (mkF m 29 #[.val (.ref a), .val (.long q1), .second, .val (.long q2), .second] [(.ref a)])) := by
      refine S6.trans ?_
      refine XS.icmpYes X5.here hx rfl (pc0 := 8) (pc' := 28) rfl (hb hby d3_8) rfl (XT.ii_ge_t hc) (by decide) (by decide) ?_
      show Steps p.tables e below (T5.setTop (mkF m 28 #[.val (.ref a), .val (.long q1), .second, .val (.long q2), .second] [])) _
      refine XS.aloadN X5.here hx rfl (hb hby d3_28) rfl rfl ?_
      exact Steps.refl _
    obtain ⟨T49, X49, e49, st49⟩ := getF X5 hx hZ hown (host := "") (Or.inl (hw _ (List.mem_of_getElem? (i := 22) rfl))) Via.refl e5 P_end (g := (mkF m 29 #[.val (.ref a), .val (.long q1), .second, .val (.long q2), .second] [(.ref a)])) rfl rfl (hb hby d3_29)
    have S50 : Steps p.tables e below Ω (T49.setTop (mkF m 32 #[.val (.ref a), .val (.long q1), .second, .val (.long q2), .second] [(.int en)])) := S48.trans (st49 _ (Steps.refl _))
    have S51 : Steps p.tables e below Ω (T49.setTop (mkF m 33 #[.val (.ref a), .val (.long q1), .second, .val (.long q2), .second] [(.ref a), (.int en)])) := by
      refine S50.trans ?_
      refine XS.aloadN X49.here hx rfl (hb hby d3_32) rfl rfl ?_
      exact Steps.refl _
    obtain ⟨T52, X52, e52, st52⟩ := getF X49 hx hZ hown (host := "") (Or.inl (hw _ (List.mem_of_getElem? (i := 10) rfl))) Via.refl e49 P_heads (g := (mkF m 33 #[.val (.ref a), .val (.long q1), .second, .val (.long q2), .second] [(.ref a), (.int en)])) rfl rfl (hb hby d3_33)
    have S53 : Steps p.tables e below Ω (T52.setTop (mkF m 36 #[.val (.ref a), .val (.long q1), .second, .val (.long q2), .second] [(.ref ha), (.int en)])) := S51.trans (st52 _ (Steps.refl _))
    have S54 : Steps p.tables e below Ω (T52.setTop (mkF m 37 #[.val (.ref a), .val (.long q1), .second, .val (.long q2), .second] [(.int (16 : Int32)), (.int en)])) := S53.trans (own_len X52 hx hZ e52 A1 (n := (16 : Int32)) (own_ln g1) (g := (mkF m 36 #[.val (.ref a), .val (.long q1), .second, .val (.long q2), .second] [(.ref ha), (.int en)])) rfl rfl (hb hby d3_36) _ (Steps.refl _))
    have e16 : (16 : Int32).toInt = 16 := by decide
    have ne16 : ¬ en = (16 : Int32) := fun q => by rw [q] at b2; omega
    have S55 : Steps p.tables e below Ω (T52.setTop (mkF m 45 #[.val (.ref a), .val (.long q1), .second, .val (.long q2), .second] [(.ref a)])) := by
      refine S54.trans ?_
      refine XS.icmpYes X52.here hx rfl (pc0 := 37) (pc' := 44) rfl (hb hby d3_37) rfl (XT.ii_ne_t ne16) (by decide) (by decide) ?_
      show Steps p.tables e below (T52.setTop (mkF m 44 #[.val (.ref a), .val (.long q1), .second, .val (.long q2), .second] [])) _
      refine XS.aloadN X52.here hx rfl (hb hby d3_44) rfl rfl ?_
      exact Steps.refl _
    obtain ⟨T56, X56, e56, st56⟩ := getF X52 hx hZ hown (host := "") (Or.inl (hw _ (List.mem_of_getElem? (i := 10) rfl))) Via.refl e52 P_heads (g := (mkF m 45 #[.val (.ref a), .val (.long q1), .second, .val (.long q2), .second] [(.ref a)])) rfl rfl (hb hby d3_45)
    have S57 : Steps p.tables e below Ω (T56.setTop (mkF m 48 #[.val (.ref a), .val (.long q1), .second, .val (.long q2), .second] [(.ref ha)])) := S55.trans (st56 _ (Steps.refl _))
    have S58 : Steps p.tables e below Ω (T56.setTop (mkF m 49 #[.val (.ref a), .val (.long q1), .second, .val (.long q2), .second] [(.ref a), (.ref ha)])) := by
      refine S57.trans ?_
      refine XS.aloadN X56.here hx rfl (hb hby d3_48) rfl rfl ?_
      exact Steps.refl _
    obtain ⟨T59, X59, e59, st59⟩ := getF X56 hx hZ hown (host := "") (Or.inl (hw _ (List.mem_of_getElem? (i := 22) rfl))) Via.refl e56 P_end (g := (mkF m 49 #[.val (.ref a), .val (.long q1), .second, .val (.long q2), .second] [(.ref a), (.ref ha)])) rfl rfl (hb hby d3_49)
    have S60 : Steps p.tables e below Ω (T59.setTop (mkF m 52 #[.val (.ref a), .val (.long q1), .second, .val (.long q2), .second] [(.int en), (.ref ha)])) := S58.trans (st59 _ (Steps.refl _))
    have S61 : Steps p.tables e below Ω (T59.setTop (mkF m 53 #[.val (.ref a), .val (.long q1), .second, .val (.long q2), .second] [(.long q1), (.int en), (.ref ha)])) := by
      refine S60.trans ?_
      refine XS.lloadN X59.here hx rfl (hb hby d3_52) rfl ?_
      exact Steps.refl _
    have hie := own_idx (j := en) (n := 16) b1 (by omega)
    obtain ⟨T62, h62, X62, e62, W62, V62', st62⟩ := own_stJ X59 hx hZ e59 A1 (j := en) (i := en.toNatClampNeg) rfl ⟨hie.1, by rw [own_l16]; exact hie.2⟩ (g := (mkF m 53 #[.val (.ref a), .val (.long q1), .second, .val (.long q2), .second] [(.long q1), (.int en), (.ref ha)])) rfl rfl (hb hby d3_53)
    have V62 : LA Z h62 ha .long ((List.range 16).map fun i => Value.long ((own_upd g1 en.toNatClampNeg q1) i)) := by rw [own_set] at V62'; exact V62'
    have S63 : Steps p.tables e below Ω (T62.setTop (mkF m 54 #[.val (.ref a), .val (.long q1), .second, .val (.long q2), .second] [])) := S61.trans (st62 _ (Steps.refl _))
    have N62 := Fr.snoc X62 N0 ga
    have E_a_62 := (E0).wr W62
    have F_heads_a_62 : Fld Z h62 a "com/example/arcspan/arcspan/io/ForwardHeads" "heads" "[J" (.ref ha) := (P_heads).other W62 (Or.inl d2)
    have F_lines_a_62 : Fld Z h62 a "com/example/arcspan/arcspan/io/ForwardHeads" "lines" "[J" (.ref la) := (P_lines).other W62 (Or.inl d2)
    have F_first_a_62 : Fld Z h62 a "com/example/arcspan/arcspan/io/ForwardHeads" "first" "I" (.int f) := (P_first).other W62 (Or.inl d2)
    have F_end_a_62 : Fld Z h62 a "com/example/arcspan/arcspan/io/ForwardHeads" "end" "I" (.int en) := (P_end).other W62 (Or.inl d2)
    have B2 := A2.other W62 (Ne.symm d1)
    have S64 : Steps p.tables e below Ω (T62.setTop (mkF m 55 #[.val (.ref a), .val (.long q1), .second, .val (.long q2), .second] [(.ref a)])) := by
      refine S63.trans ?_
      refine XS.aloadN X62.here hx rfl (hb hby d3_54) rfl rfl ?_
      exact Steps.refl _
    obtain ⟨T65, X65, e65, st65⟩ := getF X62 hx hZ hown (host := "") (Or.inl (hw _ (List.mem_of_getElem? (i := 12) rfl))) Via.refl e62 F_lines_a_62 (g := (mkF m 55 #[.val (.ref a), .val (.long q1), .second, .val (.long q2), .second] [(.ref a)])) rfl rfl (hb hby d3_55)
    have S66 : Steps p.tables e below Ω (T65.setTop (mkF m 58 #[.val (.ref a), .val (.long q1), .second, .val (.long q2), .second] [(.ref la)])) := S64.trans (st65 _ (Steps.refl _))
    have S67 : Steps p.tables e below Ω (T65.setTop (mkF m 59 #[.val (.ref a), .val (.long q1), .second, .val (.long q2), .second] [(.ref a), (.ref la)])) := by
      refine S66.trans ?_
      refine XS.aloadN X65.here hx rfl (hb hby d3_58) rfl rfl ?_
      exact Steps.refl _
    obtain ⟨T68, X68, e68, st68⟩ := getF X65 hx hZ hown (host := "") (Or.inl (hw _ (List.mem_of_getElem? (i := 22) rfl))) Via.refl e65 F_end_a_62 (g := (mkF m 59 #[.val (.ref a), .val (.long q1), .second, .val (.long q2), .second] [(.ref a), (.ref la)])) rfl rfl (hb hby d3_59)
    have S69 : Steps p.tables e below Ω (T68.setTop (mkF m 62 #[.val (.ref a), .val (.long q1), .second, .val (.long q2), .second] [(.int en), (.ref la)])) := S67.trans (st68 _ (Steps.refl _))
    have S70 : Steps p.tables e below Ω (T68.setTop (mkF m 63 #[.val (.ref a), .val (.long q1), .second, .val (.long q2), .second] [(.long q2), (.int en), (.ref la)])) := by
      refine S69.trans ?_
      refine XS.lloadN X68.here hx rfl (hb hby d3_62) rfl ?_
      exact Steps.refl _
    obtain ⟨T71, h71, X71, e71, W71, V71', st71⟩ := own_stJ X68 hx hZ e68 B2 (j := en) (i := en.toNatClampNeg) rfl ⟨hie.1, by rw [own_l16]; exact hie.2⟩ (g := (mkF m 63 #[.val (.ref a), .val (.long q1), .second, .val (.long q2), .second] [(.long q2), (.int en), (.ref la)])) rfl rfl (hb hby d3_63)
    have V71 : LA Z h71 la .long ((List.range 16).map fun i => Value.long ((own_upd g2 en.toNatClampNeg q2) i)) := by rw [own_set] at V71'; exact V71'
    have S72 : Steps p.tables e below Ω (T71.setTop (mkF m 64 #[.val (.ref a), .val (.long q1), .second, .val (.long q2), .second] [])) := S70.trans (st71 _ (Steps.refl _))
    have N71 := Fr.snoc X71 N62 gl
    have E_a_71 := (E_a_62).wr W71
    have F_heads_a_71 : Fld Z h71 a "com/example/arcspan/arcspan/io/ForwardHeads" "heads" "[J" (.ref ha) := (F_heads_a_62).other W71 (Or.inl d3)
    have F_lines_a_71 : Fld Z h71 a "com/example/arcspan/arcspan/io/ForwardHeads" "lines" "[J" (.ref la) := (F_lines_a_62).other W71 (Or.inl d3)
    have F_first_a_71 : Fld Z h71 a "com/example/arcspan/arcspan/io/ForwardHeads" "first" "I" (.int f) := (F_first_a_62).other W71 (Or.inl d3)
    have F_end_a_71 : Fld Z h71 a "com/example/arcspan/arcspan/io/ForwardHeads" "end" "I" (.int en) := (F_end_a_62).other W71 (Or.inl d3)
    have B1 := V62.other W71 d1
    have S73 : Steps p.tables e below Ω (T71.setTop (mkF m 66 #[.val (.ref a), .val (.long q1), .second, .val (.long q2), .second] [(.ref a), (.ref a)])) := by
      refine S72.trans ?_
      refine XS.aloadN X71.here hx rfl (hb hby d3_64) rfl rfl ?_
      show Steps p.tables e below (T71.setTop (mkF m 65 #[.val (.ref a), .val (.long q1), .second, .val (.long q2), .second] [(.ref a)])) _
      refine XS.dup X71.here hx rfl (hb hby d3_65) rfl rfl ?_
      exact Steps.refl _
    obtain ⟨T74, X74, e74, st74⟩ := getF X71 hx hZ hown (host := "") (Or.inl (hw _ (List.mem_of_getElem? (i := 22) rfl))) Via.refl e71 F_end_a_71 (g := (mkF m 66 #[.val (.ref a), .val (.long q1), .second, .val (.long q2), .second] [(.ref a), (.ref a)])) rfl rfl (hb hby d3_66)
    have S75 : Steps p.tables e below Ω (T74.setTop (mkF m 69 #[.val (.ref a), .val (.long q1), .second, .val (.long q2), .second] [(.int en), (.ref a)])) := S73.trans (st74 _ (Steps.refl _))
    have S76 : Steps p.tables e below Ω (T74.setTop (mkF m 71 #[.val (.ref a), .val (.long q1), .second, .val (.long q2), .second] [(.int (en + (1 : Int32))), (.ref a)])) := by
      refine S75.trans ?_
      refine XS.iconst X74.here hx rfl (hb hby d3_69) ?_
      show Steps p.tables e below (T74.setTop (mkF m 70 #[.val (.ref a), .val (.long q1), .second, .val (.long q2), .second] [(.int (1 : Int32)), (.int en), (.ref a)])) _
      refine XS.iadd X74.here hx rfl (hb hby d3_70) rfl ?_
      exact Steps.refl _
    obtain ⟨T77, h77, X77, e77, W77, st77⟩ := putF X74 hx hZ hown (host := "") (Or.inl (hw _ (List.mem_of_getElem? (i := 22) rfl))) Via.refl e74 F_end_a_71 E_a_71 (Or.inl (hw _ (List.mem_of_getElem? (i := 23) rfl))) (hw _ (List.mem_of_getElem? (i := 1) rfl)) (ty := .int) (by decide) rfl rfl (g := (mkF m 71 #[.val (.ref a), .val (.long q1), .second, .val (.long q2), .second] [(.int (en + (1 : Int32))), (.ref a)])) rfl rfl (hb hby d3_71)
    have S78 : Steps p.tables e below Ω (T77.setTop (mkF m 74 #[.val (.ref a), .val (.long q1), .second, .val (.long q2), .second] [])) := S76.trans (st77 _ (Steps.refl _))
    have N77 := Fr.snoc X77 N71 g
    have E_a_77 := (E_a_71).wr W77
    have F_heads_a_77 : Fld Z h77 a "com/example/arcspan/arcspan/io/ForwardHeads" "heads" "[J" (.ref ha) := (F_heads_a_71).other W77 (Or.inr (slot_ne (Or.inl (hw _ (List.mem_of_getElem? (i := 11) rfl))) (Or.inl (hw _ (List.mem_of_getElem? (i := 23) rfl))) (by decide) (t := (.array .long)) (t' := .int) (by decide) (by decide)))
    have F_lines_a_77 : Fld Z h77 a "com/example/arcspan/arcspan/io/ForwardHeads" "lines" "[J" (.ref la) := (F_lines_a_71).other W77 (Or.inr (slot_ne (Or.inl (hw _ (List.mem_of_getElem? (i := 13) rfl))) (Or.inl (hw _ (List.mem_of_getElem? (i := 23) rfl))) (by decide) (t := (.array .long)) (t' := .int) (by decide) (by decide)))
    have F_first_a_77 : Fld Z h77 a "com/example/arcspan/arcspan/io/ForwardHeads" "first" "I" (.int f) := (F_first_a_71).other W77 (Or.inr (slot_ne (Or.inl (hw _ (List.mem_of_getElem? (i := 21) rfl))) (Or.inl (hw _ (List.mem_of_getElem? (i := 23) rfl))) (by decide) (t := .int) (t' := .int) (by decide) (by decide)))
    have F_end_a_77 : Fld Z h77 a "com/example/arcspan/arcspan/io/ForwardHeads" "end" "I" (.int (en + (1 : Int32))) := (F_end_a_71).same W77
    have C1 := B1.other W77 (Ne.symm d2)
    have C2 := V71.other W77 (Ne.symm d3)
    obtain ⟨fs, hr, hrun, hended, hW, hsame⟩ := X77.leave (v := none) (fun _ => rfl)
    have hfin : Steps p.tables e below Ω (T77.setFrames fs) := by
      refine S78.trans ?_
      exact X77.returnOut hx Bd.returns (hb hby d3_74) hr
    rw [hΩ] at hfin
    refine ⟨_, _, hfin, hrun, hended, _, _, rfl, ?_, ⟨_, rfl⟩, hW, hsame.mono (by decide) (by decide)⟩
    show Q2p Z a q1 q2 ha la f en g1 g2 h0 n0 _ T77.heap _
    rw [e77]
    exact ⟨rfl, N77, (((Keep.refl h0 [a, ha, la]).wr W62 (Or.inl (List.mem_of_getElem? (i := 1) rfl))).wr W71 (Or.inl (List.mem_of_getElem? (i := 2) rfl))).wr W77 (Or.inl (List.mem_of_getElem? (i := 0) rfl)), E_a_77, F_heads_a_77, F_lines_a_77, F_first_a_77, F_end_a_77, C1, C2⟩
theorem d4_0 : decode prog_24_method_3_code 0 = .ok (.aload_n 0, 1) := by decide +kernel
theorem d4_1 : decode prog_24_method_3_code 1 = .ok (.getfield 16, 3) := by decide +kernel
theorem d4_4 : decode prog_24_method_3_code 4 = .ok (.aload_n 0, 1) := by decide +kernel
theorem d4_5 : decode prog_24_method_3_code 5 = .ok (.getfield 20, 3) := by decide +kernel
theorem d4_8 : decode prog_24_method_3_code 8 = .ok (.if_icmp .ge 30, 3) := by decide +kernel
theorem d4_38 : decode prog_24_method_3_code 38 = .ok (.return_, 1) := by decide +kernel
theorem d4_11 : decode prog_24_method_3_code 11 = .ok (.aload_n 0, 1) := by decide +kernel
theorem d4_12 : decode prog_24_method_3_code 12 = .ok (.getfield 9, 3) := by decide +kernel
theorem d4_15 : decode prog_24_method_3_code 15 = .ok (.aload_n 0, 1) := by decide +kernel
theorem d4_16 : decode prog_24_method_3_code 16 = .ok (.getfield 16, 3) := by decide +kernel
theorem d4_19 : decode prog_24_method_3_code 19 = .ok (.laload, 1) := by decide +kernel
theorem d4_20 : decode prog_24_method_3_code 20 = .ok (.lload_n 1, 1) := by decide +kernel
theorem d4_21 : decode prog_24_method_3_code 21 = .ok (.lcmp, 1) := by decide +kernel
theorem d4_22 : decode prog_24_method_3_code 22 = .ok (.ifCond .gt 16, 3) := by decide +kernel
theorem d4_25 : decode prog_24_method_3_code 25 = .ok (.aload_n 0, 1) := by decide +kernel
theorem d4_26 : decode prog_24_method_3_code 26 = .ok (.dup, 1) := by decide +kernel
theorem d4_27 : decode prog_24_method_3_code 27 = .ok (.getfield 16, 3) := by decide +kernel
theorem d4_30 : decode prog_24_method_3_code 30 = .ok (.iconst 1, 1) := by decide +kernel
theorem d4_31 : decode prog_24_method_3_code 31 = .ok (.iadd, 1) := by decide +kernel
theorem d4_32 : decode prog_24_method_3_code 32 = .ok (.putfield 16, 3) := by decide +kernel
theorem d4_35 : decode prog_24_method_3_code 35 = .ok (.goto (-35), 3) := by decide +kernel
theorem ef_rm4 (m : MethodId) (x0 : Addr) (x1 : Int64) : entryFrame m #[(.ref x0), (.long x1)] 3 = mkF m 0 #[.val (.ref x0), .val (.long x1), .second] [] := by first | (simp [entryFrame, mkF, argsToLocals, Value.category]; done) | rfl
def Q4 (Z : State) (a : Addr) (q1 : Int64) (ha : Addr) (la : Addr) (f : Int32) (en : Int32) (g1 : Nat → Int64) (h0 : Heap) (n0 : Nat) (v : Option Value) (h : Heap) (L : List Loc) : Prop := ∃ f2 : Int32, v = none ∧ Fr n0 L ∧ Keep h0 h [a] ∧ Exa Z h a "com/example/arcspan/arcspan/io/ForwardHeads" ∧ Fld Z h a "com/example/arcspan/arcspan/io/ForwardHeads" "heads" "[J" (.ref ha) ∧ Fld Z h a "com/example/arcspan/arcspan/io/ForwardHeads" "lines" "[J" (.ref la) ∧ Fld Z h a "com/example/arcspan/arcspan/io/ForwardHeads" "first" "I" (.int f2) ∧ Fld Z h a "com/example/arcspan/arcspan/io/ForwardHeads" "end" "I" (.int en) ∧ f.toInt ≤ f2.toInt ∧ f2.toInt ≤ en.toInt ∧ (∀ i : Nat, f.toInt ≤ i → (i : Int) < f2.toInt → ¬ q1.toInt < (g1 i).toInt) ∧ (∀ i : Nat, f2.toInt = i → (i : Int) < en.toInt → q1.toInt < (g1 i).toInt)
set_option maxRecDepth 65536 in
set_option maxHeartbeats 40000000 in
theorem rm4 (l : Launch) (Z : State) (a0 : Array Value) (hw : ∀ d ∈ tables_1, d.before a0 Z = true) (ws : List Jvm.Cond) (a : Addr) (q1 : Int64) (ha : Addr) (la : Addr) (f : Int32) (en : Int32) (g1 : Nat → Int64) (h0 : Heap) (n0 : Nat) (Z0 : n0 ≤ h0.size) (E0 : Exa Z h0 a "com/example/arcspan/arcspan/io/ForwardHeads") (P_heads : Fld Z h0 a "com/example/arcspan/arcspan/io/ForwardHeads" "heads" "[J" (.ref ha)) (P_lines : Fld Z h0 a "com/example/arcspan/arcspan/io/ForwardHeads" "lines" "[J" (.ref la)) (P_first : Fld Z h0 a "com/example/arcspan/arcspan/io/ForwardHeads" "first" "I" (.int f)) (P_end : Fld Z h0 a "com/example/arcspan/arcspan/io/ForwardHeads" "end" "I" (.int en)) (A1 : LA Z h0 ha .long ((List.range 16).map fun i => Value.long (g1 i))) (g : n0 ≤ a) (d2 : a ≠ ha) (b1 : 0 ≤ f.toInt) (b2 : f.toInt ≤ en.toInt) (b3 : en.toInt ≤ 3) :
    MetFree l (⟨"com/example/arcspan/arcspan/io/ForwardHeads", "reached", "(J)V"⟩ : MethodName) (head1 (Jvm.Cond.code (⟨"com/example/arcspan/arcspan/io/ForwardHeads", "reached", "(J)V"⟩ : MethodName) prog_24_method_3_code 3 none :: ws) ({ frames := 0, cells := 0, slots := 0, locals := 0 } : Room)) (fun aa U => aa = #[(.ref a), (.long q1)] ∧ Z.Warmed39 U.vm ∧ U.heap = h0) (fun _ _ _ _ _ => True) (fun _ U o U' => ∃ v L, o = .returned v ∧ Q4 Z a q1 ha la f en g1 h0 n0 v U'.heap L ∧ FrameEnd U o U' L ({ frames := 0, cells := 0, slots := 0, locals := 0 } : Room).cells ({ frames := 0, cells := 0, slots := 0, locals := 0 } : Room).slots) := by
  refine MetFree.of_bodySF (plainFor_of_name pn_0) hisR ?_
  intro p e s m args below meth c s₁ Bd hml0 hP hK
  obtain ⟨rfl, hZ, hh⟩ := hP
  have hx := Bd.exec
  have hby := Bd.bytes
  have hml : c.maxLocals = 3 := hml0
  have hown : s.vm.findClass "com/example/arcspan/arcspan/io/ForwardHeads" = some m.cls := findClass_of_methodNamed Bd.named
  have hnm := (name_of_methodNamed Bd.named Bd.method).1
  have X0 : Stand p l e ({ frames := 0, cells := 0, slots := 0, locals := 0 } : Room) s m #[(.ref a), (.long q1)] below meth c s₁ [] 0 0 := Stand.of_body Bd
  have e0 : s₁.heap = h0 := by rw [← hh, Bd.state]; rfl
  have N0 := Fr.nil n0
  obtain ⟨Ω, hΩ⟩ : ∃ z, z = s₁.setTop (entryFrame m #[(.ref a), (.long q1)] 3) := ⟨_, rfl⟩
  have S0 : Steps p.tables e below Ω (s₁.setTop (mkF m 0 #[.val (.ref a), .val (.long q1), .second] [])) := by rw [hΩ]; exact castTop (ef_rm4 m a q1) (Steps.refl _)
  have S1 : Steps p.tables e below Ω (s₁.setTop (mkF m 1 #[.val (.ref a), .val (.long q1), .second] [(.ref a)])) := by
    refine S0.trans ?_
    refine XS.aloadN X0.here hx rfl (hb hby d4_0) rfl rfl ?_
    exact Steps.refl _
  obtain ⟨T2, X2, e2, st2⟩ := getF X0 hx hZ hown (host := "") (Or.inl (hw _ (List.mem_of_getElem? (i := 20) rfl))) Via.refl e0 P_first (g := (mkF m 1 #[.val (.ref a), .val (.long q1), .second] [(.ref a)])) rfl rfl (hb hby d4_1)
  have S3 : Steps p.tables e below Ω (T2.setTop (mkF m 4 #[.val (.ref a), .val (.long q1), .second] [(.int f)])) := S1.trans (st2 _ (Steps.refl _))
  have S4 : Steps p.tables e below Ω (T2.setTop (mkF m 5 #[.val (.ref a), .val (.long q1), .second] [(.ref a), (.int f)])) := by
    refine S3.trans ?_
    refine XS.aloadN X2.here hx rfl (hb hby d4_4) rfl rfl ?_
    exact Steps.refl _
  obtain ⟨T5, X5, e5, st5⟩ := getF X2 hx hZ hown (host := "") (Or.inl (hw _ (List.mem_of_getElem? (i := 22) rfl))) Via.refl e2 P_end (g := (mkF m 5 #[.val (.ref a), .val (.long q1), .second] [(.ref a), (.int f)])) rfl rfl (hb hby d4_5)
  have S6 : Steps p.tables e below Ω (T5.setTop (mkF m 8 #[.val (.ref a), .val (.long q1), .second] [(.int en), (.int f)])) := S4.trans (st5 _ (Steps.refl _))
  by_cases t0 : f < en
  · have qt0 : f.toInt < en.toInt := Int32.lt_iff_toInt_lt.mp t0
    have S8 : Steps p.tables e below Ω (T5.setTop (mkF m 11 #[.val (.ref a), .val (.long q1), .second] [])) := by
      refine S6.trans ?_
      refine XS.icmpNo X5.here hx rfl (hb hby d4_8) rfl (XT.ii_ge_f t0) ?_
      exact Steps.refl _
    have hin0 := own_idx (j := f) (n := 16) (by omega) (by omega)
    have S9 : Steps p.tables e below Ω (T5.setTop (mkF m 12 #[.val (.ref a), .val (.long q1), .second] [(.ref a)])) := by
      refine S8.trans ?_
      refine XS.aloadN X5.here hx rfl (hb hby d4_11) rfl rfl ?_
      exact Steps.refl _
    obtain ⟨T10, X10, e10, st10⟩ := getF X5 hx hZ hown (host := "") (Or.inl (hw _ (List.mem_of_getElem? (i := 10) rfl))) Via.refl e5 P_heads (g := (mkF m 12 #[.val (.ref a), .val (.long q1), .second] [(.ref a)])) rfl rfl (hb hby d4_12)
    have S11 : Steps p.tables e below Ω (T10.setTop (mkF m 15 #[.val (.ref a), .val (.long q1), .second] [(.ref ha)])) := S9.trans (st10 _ (Steps.refl _))
    have S12 : Steps p.tables e below Ω (T10.setTop (mkF m 16 #[.val (.ref a), .val (.long q1), .second] [(.ref a), (.ref ha)])) := by
      refine S11.trans ?_
      refine XS.aloadN X10.here hx rfl (hb hby d4_15) rfl rfl ?_
      exact Steps.refl _
    obtain ⟨T13, X13, e13, st13⟩ := getF X10 hx hZ hown (host := "") (Or.inl (hw _ (List.mem_of_getElem? (i := 20) rfl))) Via.refl e10 P_first (g := (mkF m 16 #[.val (.ref a), .val (.long q1), .second] [(.ref a), (.ref ha)])) rfl rfl (hb hby d4_16)
    have S14 : Steps p.tables e below Ω (T13.setTop (mkF m 19 #[.val (.ref a), .val (.long q1), .second] [(.int f), (.ref ha)])) := S12.trans (st13 _ (Steps.refl _))
    have S15 : Steps p.tables e below Ω (T13.setTop (mkF m 20 #[.val (.ref a), .val (.long q1), .second] [(.long (g1 f.toNatClampNeg))])) := S14.trans (own_ldJ X13 hx hZ e13 A1 (j := f) (x := (g1 f.toNatClampNeg)) hin0.1 (own_rd g1 f (by omega) (by omega)) (g := (mkF m 19 #[.val (.ref a), .val (.long q1), .second] [(.int f), (.ref ha)])) rfl rfl (hb hby d4_19) _ (Steps.refl _))
    have S16 : Steps p.tables e below Ω (T13.setTop (mkF m 22 #[.val (.ref a), .val (.long q1), .second] [(.int (lcmpW (g1 f.toNatClampNeg) q1))])) := by
      refine S15.trans ?_
      refine XS.lloadN X13.here hx rfl (hb hby d4_20) rfl ?_
      show Steps p.tables e below (T13.setTop (mkF m 21 #[.val (.ref a), .val (.long q1), .second] [(.long q1), (.long (g1 f.toNatClampNeg))])) _
      refine XS.lcmp X13.here hx rfl (hb hby d4_21) rfl ?_
      exact Steps.refl _
    by_cases u0 : q1 < (g1 f.toNatClampNeg)
    · have qu0 : q1.toInt < (g1 f.toNatClampNeg).toInt := Int64.lt_iff_toInt_lt.mp u0
      have S17 : Steps p.tables e below Ω (T13.setTop (mkF m 38 #[.val (.ref a), .val (.long q1), .second] [])) := by
        refine S16.trans ?_
        refine XS.ifYes X13.here hx rfl (pc0 := 22) (pc' := 38) rfl (hb hby d4_22) rfl (XT.ll_gt_t u0) (by decide) (by decide) ?_
        exact Steps.refl _
      obtain ⟨fs, hr, hrun, hended, hW, hsame⟩ := X13.leave (v := none) (fun _ => rfl)
      have hfin : Steps p.tables e below Ω (T13.setFrames fs) := by
        refine S17.trans ?_
        exact X13.returnOut hx Bd.returns (hb hby d4_38) hr
      rw [hΩ] at hfin
      refine ⟨_, _, hfin, hrun, hended, _, _, rfl, ?_, ⟨_, rfl⟩, hW, hsame.mono (by decide) (by decide)⟩
      show Q4 Z a q1 ha la f en g1 h0 n0 _ T13.heap _
      rw [e13]
      exact ⟨f, rfl, N0, (Keep.refl h0 [a]), E0, P_heads, P_lines, P_first, P_end, by omega, by omega, (fun i j1 j2 => absurd j2 (by omega)), (fun i j1 j2 => by rw [own_nat (j := f) (k := i) (by omega)] at qu0; exact qu0)⟩
    · have qu0 : ¬ q1.toInt < (g1 f.toNatClampNeg).toInt := fun q => u0 (Int64.lt_iff_toInt_lt.mpr q)
      have S18 : Steps p.tables e below Ω (T13.setTop (mkF m 25 #[.val (.ref a), .val (.long q1), .second] [])) := by
        refine S16.trans ?_
        refine XS.ifNo X13.here hx rfl (hb hby d4_22) rfl (XT.ll_gt_f u0) ?_
        exact Steps.refl _
      have nn0 : ∀ i : Nat, (i : Int) = f.toInt + 0 → ¬ q1.toInt < (g1 i).toInt := fun i hi => by rw [own_nat (j := f) (k := i) (by omega)] at qu0; exact qu0
      have S19 : Steps p.tables e below Ω (T13.setTop (mkF m 27 #[.val (.ref a), .val (.long q1), .second] [(.ref a), (.ref a)])) := by
        refine S18.trans ?_
        refine XS.aloadN X13.here hx rfl (hb hby d4_25) rfl rfl ?_
        show Steps p.tables e below (T13.setTop (mkF m 26 #[.val (.ref a), .val (.long q1), .second] [(.ref a)])) _
        refine XS.dup X13.here hx rfl (hb hby d4_26) rfl rfl ?_
        exact Steps.refl _
      obtain ⟨T20, X20, e20, st20⟩ := getF X13 hx hZ hown (host := "") (Or.inl (hw _ (List.mem_of_getElem? (i := 20) rfl))) Via.refl e13 P_first (g := (mkF m 27 #[.val (.ref a), .val (.long q1), .second] [(.ref a), (.ref a)])) rfl rfl (hb hby d4_27)
      have S21 : Steps p.tables e below Ω (T20.setTop (mkF m 30 #[.val (.ref a), .val (.long q1), .second] [(.int f), (.ref a)])) := S19.trans (st20 _ (Steps.refl _))
      have S22 : Steps p.tables e below Ω (T20.setTop (mkF m 32 #[.val (.ref a), .val (.long q1), .second] [(.int (f + (1 : Int32))), (.ref a)])) := by
        refine S21.trans ?_
        refine XS.iconst X20.here hx rfl (hb hby d4_30) ?_
        show Steps p.tables e below (T20.setTop (mkF m 31 #[.val (.ref a), .val (.long q1), .second] [(.int (1 : Int32)), (.int f), (.ref a)])) _
        refine XS.iadd X20.here hx rfl (hb hby d4_31) rfl ?_
        exact Steps.refl _
      obtain ⟨T23, h23, X23, e23, W23, st23⟩ := putF X20 hx hZ hown (host := "") (Or.inl (hw _ (List.mem_of_getElem? (i := 20) rfl))) Via.refl e20 P_first E0 (Or.inl (hw _ (List.mem_of_getElem? (i := 21) rfl))) (hw _ (List.mem_of_getElem? (i := 1) rfl)) (ty := .int) (by decide) rfl rfl (g := (mkF m 32 #[.val (.ref a), .val (.long q1), .second] [(.int (f + (1 : Int32))), (.ref a)])) rfl rfl (hb hby d4_32)
      have S24 : Steps p.tables e below Ω (T23.setTop (mkF m 35 #[.val (.ref a), .val (.long q1), .second] [])) := S22.trans (st23 _ (Steps.refl _))
      have N23 := Fr.snoc X23 N0 g
      have E_a_23 := (E0).wr W23
      have F_heads_a_23 : Fld Z h23 a "com/example/arcspan/arcspan/io/ForwardHeads" "heads" "[J" (.ref ha) := (P_heads).other W23 (Or.inr (slot_ne (Or.inl (hw _ (List.mem_of_getElem? (i := 11) rfl))) (Or.inl (hw _ (List.mem_of_getElem? (i := 21) rfl))) (by decide) (t := (.array .long)) (t' := .int) (by decide) (by decide)))
      have F_lines_a_23 : Fld Z h23 a "com/example/arcspan/arcspan/io/ForwardHeads" "lines" "[J" (.ref la) := (P_lines).other W23 (Or.inr (slot_ne (Or.inl (hw _ (List.mem_of_getElem? (i := 13) rfl))) (Or.inl (hw _ (List.mem_of_getElem? (i := 21) rfl))) (by decide) (t := (.array .long)) (t' := .int) (by decide) (by decide)))
      have F_first_a_23 : Fld Z h23 a "com/example/arcspan/arcspan/io/ForwardHeads" "first" "I" (.int (f + (1 : Int32))) := (P_first).same W23
      have F_end_a_23 : Fld Z h23 a "com/example/arcspan/arcspan/io/ForwardHeads" "end" "I" (.int en) := (P_end).other W23 (Or.inr (slot_ne (Or.inl (hw _ (List.mem_of_getElem? (i := 23) rfl))) (Or.inl (hw _ (List.mem_of_getElem? (i := 21) rfl))) (by decide) (t := .int) (t' := .int) (by decide) (by decide)))
      have A1_1 := A1.other W23 (Ne.symm d2)
      have v1 : (f + (1 : Int32)).toInt = f.toInt + 1 := by have := own_inc f (by omega); omega
      have S25 : Steps p.tables e below Ω (T23.setTop (mkF m 0 #[.val (.ref a), .val (.long q1), .second] [])) := by
        refine S24.trans ?_
        refine XS.goto X23.here hx rfl (pc0 := 35) (pc' := 0) rfl (hb hby d4_35) (by decide) (by decide) ?_
        exact Steps.refl _
      have S26 : Steps p.tables e below Ω (T23.setTop (mkF m 1 #[.val (.ref a), .val (.long q1), .second] [(.ref a)])) := by
        refine S25.trans ?_
        refine XS.aloadN X23.here hx rfl (hb hby d4_0) rfl rfl ?_
        exact Steps.refl _
      obtain ⟨T27, X27, e27, st27⟩ := getF X23 hx hZ hown (host := "") (Or.inl (hw _ (List.mem_of_getElem? (i := 20) rfl))) Via.refl e23 F_first_a_23 (g := (mkF m 1 #[.val (.ref a), .val (.long q1), .second] [(.ref a)])) rfl rfl (hb hby d4_1)
      have S28 : Steps p.tables e below Ω (T27.setTop (mkF m 4 #[.val (.ref a), .val (.long q1), .second] [(.int (f + (1 : Int32)))])) := S26.trans (st27 _ (Steps.refl _))
      have S29 : Steps p.tables e below Ω (T27.setTop (mkF m 5 #[.val (.ref a), .val (.long q1), .second] [(.ref a), (.int (f + (1 : Int32)))])) := by
        refine S28.trans ?_
        refine XS.aloadN X27.here hx rfl (hb hby d4_4) rfl rfl ?_
        exact Steps.refl _
      obtain ⟨T30, X30, e30, st30⟩ := getF X27 hx hZ hown (host := "") (Or.inl (hw _ (List.mem_of_getElem? (i := 22) rfl))) Via.refl e27 F_end_a_23 (g := (mkF m 5 #[.val (.ref a), .val (.long q1), .second] [(.ref a), (.int (f + (1 : Int32)))])) rfl rfl (hb hby d4_5)
      have S31 : Steps p.tables e below Ω (T30.setTop (mkF m 8 #[.val (.ref a), .val (.long q1), .second] [(.int en), (.int (f + (1 : Int32)))])) := S29.trans (st30 _ (Steps.refl _))
      by_cases t1 : (f + (1 : Int32)) < en
      · have qt1 : (f + (1 : Int32)).toInt < en.toInt := Int32.lt_iff_toInt_lt.mp t1
        have S33 : Steps p.tables e below Ω (T30.setTop (mkF m 11 #[.val (.ref a), .val (.long q1), .second] [])) := by
          refine S31.trans ?_
          refine XS.icmpNo X30.here hx rfl (hb hby d4_8) rfl (XT.ii_ge_f t1) ?_
          exact Steps.refl _
        have hin1 := own_idx (j := (f + (1 : Int32))) (n := 16) (by omega) (by omega)
        have S34 : Steps p.tables e below Ω (T30.setTop (mkF m 12 #[.val (.ref a), .val (.long q1), .second] [(.ref a)])) := by
          refine S33.trans ?_
          refine XS.aloadN X30.here hx rfl (hb hby d4_11) rfl rfl ?_
          exact Steps.refl _
        obtain ⟨T35, X35, e35, st35⟩ := getF X30 hx hZ hown (host := "") (Or.inl (hw _ (List.mem_of_getElem? (i := 10) rfl))) Via.refl e30 F_heads_a_23 (g := (mkF m 12 #[.val (.ref a), .val (.long q1), .second] [(.ref a)])) rfl rfl (hb hby d4_12)
        have S36 : Steps p.tables e below Ω (T35.setTop (mkF m 15 #[.val (.ref a), .val (.long q1), .second] [(.ref ha)])) := S34.trans (st35 _ (Steps.refl _))
        have S37 : Steps p.tables e below Ω (T35.setTop (mkF m 16 #[.val (.ref a), .val (.long q1), .second] [(.ref a), (.ref ha)])) := by
          refine S36.trans ?_
          refine XS.aloadN X35.here hx rfl (hb hby d4_15) rfl rfl ?_
          exact Steps.refl _
        obtain ⟨T38, X38, e38, st38⟩ := getF X35 hx hZ hown (host := "") (Or.inl (hw _ (List.mem_of_getElem? (i := 20) rfl))) Via.refl e35 F_first_a_23 (g := (mkF m 16 #[.val (.ref a), .val (.long q1), .second] [(.ref a), (.ref ha)])) rfl rfl (hb hby d4_16)
        have S39 : Steps p.tables e below Ω (T38.setTop (mkF m 19 #[.val (.ref a), .val (.long q1), .second] [(.int (f + (1 : Int32))), (.ref ha)])) := S37.trans (st38 _ (Steps.refl _))
        have S40 : Steps p.tables e below Ω (T38.setTop (mkF m 20 #[.val (.ref a), .val (.long q1), .second] [(.long (g1 (f + (1 : Int32)).toNatClampNeg))])) := S39.trans (own_ldJ X38 hx hZ e38 A1_1 (j := (f + (1 : Int32))) (x := (g1 (f + (1 : Int32)).toNatClampNeg)) hin1.1 (own_rd g1 (f + (1 : Int32)) (by omega) (by omega)) (g := (mkF m 19 #[.val (.ref a), .val (.long q1), .second] [(.int (f + (1 : Int32))), (.ref ha)])) rfl rfl (hb hby d4_19) _ (Steps.refl _))
        have S41 : Steps p.tables e below Ω (T38.setTop (mkF m 22 #[.val (.ref a), .val (.long q1), .second] [(.int (lcmpW (g1 (f + (1 : Int32)).toNatClampNeg) q1))])) := by
          refine S40.trans ?_
          refine XS.lloadN X38.here hx rfl (hb hby d4_20) rfl ?_
          show Steps p.tables e below (T38.setTop (mkF m 21 #[.val (.ref a), .val (.long q1), .second] [(.long q1), (.long (g1 (f + (1 : Int32)).toNatClampNeg))])) _
          refine XS.lcmp X38.here hx rfl (hb hby d4_21) rfl ?_
          exact Steps.refl _
        by_cases u1 : q1 < (g1 (f + (1 : Int32)).toNatClampNeg)
        · have qu1 : q1.toInt < (g1 (f + (1 : Int32)).toNatClampNeg).toInt := Int64.lt_iff_toInt_lt.mp u1
          have S42 : Steps p.tables e below Ω (T38.setTop (mkF m 38 #[.val (.ref a), .val (.long q1), .second] [])) := by
            refine S41.trans ?_
            refine XS.ifYes X38.here hx rfl (pc0 := 22) (pc' := 38) rfl (hb hby d4_22) rfl (XT.ll_gt_t u1) (by decide) (by decide) ?_
            exact Steps.refl _
          obtain ⟨fs, hr, hrun, hended, hW, hsame⟩ := X38.leave (v := none) (fun _ => rfl)
          have hfin : Steps p.tables e below Ω (T38.setFrames fs) := by
            refine S42.trans ?_
            exact X38.returnOut hx Bd.returns (hb hby d4_38) hr
          rw [hΩ] at hfin
          refine ⟨_, _, hfin, hrun, hended, _, _, rfl, ?_, ⟨_, rfl⟩, hW, hsame.mono (by decide) (by decide)⟩
          show Q4 Z a q1 ha la f en g1 h0 n0 _ T38.heap _
          rw [e38]
          exact ⟨(f + (1 : Int32)), rfl, N23, (((Keep.refl h0 [a])).wr W23 (Or.inl (List.mem_of_getElem? (i := 0) rfl))), E_a_23, F_heads_a_23, F_lines_a_23, F_first_a_23, F_end_a_23, by omega, by omega, (fun i j1 j2 => own_c1 f q1 g1 i j1 (by omega) nn0), (fun i j1 j2 => by rw [own_nat (j := (f + (1 : Int32))) (k := i) (by omega)] at qu1; exact qu1)⟩
        · have qu1 : ¬ q1.toInt < (g1 (f + (1 : Int32)).toNatClampNeg).toInt := fun q => u1 (Int64.lt_iff_toInt_lt.mpr q)
          have S43 : Steps p.tables e below Ω (T38.setTop (mkF m 25 #[.val (.ref a), .val (.long q1), .second] [])) := by
            refine S41.trans ?_
            refine XS.ifNo X38.here hx rfl (hb hby d4_22) rfl (XT.ll_gt_f u1) ?_
            exact Steps.refl _
          have nn1 : ∀ i : Nat, (i : Int) = f.toInt + 1 → ¬ q1.toInt < (g1 i).toInt := fun i hi => by rw [own_nat (j := (f + (1 : Int32))) (k := i) (by omega)] at qu1; exact qu1
          have S44 : Steps p.tables e below Ω (T38.setTop (mkF m 27 #[.val (.ref a), .val (.long q1), .second] [(.ref a), (.ref a)])) := by
            refine S43.trans ?_
            refine XS.aloadN X38.here hx rfl (hb hby d4_25) rfl rfl ?_
            show Steps p.tables e below (T38.setTop (mkF m 26 #[.val (.ref a), .val (.long q1), .second] [(.ref a)])) _
            refine XS.dup X38.here hx rfl (hb hby d4_26) rfl rfl ?_
            exact Steps.refl _
          obtain ⟨T45, X45, e45, st45⟩ := getF X38 hx hZ hown (host := "") (Or.inl (hw _ (List.mem_of_getElem? (i := 20) rfl))) Via.refl e38 F_first_a_23 (g := (mkF m 27 #[.val (.ref a), .val (.long q1), .second] [(.ref a), (.ref a)])) rfl rfl (hb hby d4_27)
          have S46 : Steps p.tables e below Ω (T45.setTop (mkF m 30 #[.val (.ref a), .val (.long q1), .second] [(.int (f + (1 : Int32))), (.ref a)])) := S44.trans (st45 _ (Steps.refl _))
          have S47 : Steps p.tables e below Ω (T45.setTop (mkF m 32 #[.val (.ref a), .val (.long q1), .second] [(.int ((f + (1 : Int32)) + (1 : Int32))), (.ref a)])) := by
            refine S46.trans ?_
            refine XS.iconst X45.here hx rfl (hb hby d4_30) ?_
            show Steps p.tables e below (T45.setTop (mkF m 31 #[.val (.ref a), .val (.long q1), .second] [(.int (1 : Int32)), (.int (f + (1 : Int32))), (.ref a)])) _
            refine XS.iadd X45.here hx rfl (hb hby d4_31) rfl ?_
            exact Steps.refl _
          obtain ⟨T48, h48, X48, e48, W48, st48⟩ := putF X45 hx hZ hown (host := "") (Or.inl (hw _ (List.mem_of_getElem? (i := 20) rfl))) Via.refl e45 F_first_a_23 E_a_23 (Or.inl (hw _ (List.mem_of_getElem? (i := 21) rfl))) (hw _ (List.mem_of_getElem? (i := 1) rfl)) (ty := .int) (by decide) rfl rfl (g := (mkF m 32 #[.val (.ref a), .val (.long q1), .second] [(.int ((f + (1 : Int32)) + (1 : Int32))), (.ref a)])) rfl rfl (hb hby d4_32)
          have S49 : Steps p.tables e below Ω (T48.setTop (mkF m 35 #[.val (.ref a), .val (.long q1), .second] [])) := S47.trans (st48 _ (Steps.refl _))
          have N48 := Fr.snoc X48 N23 g
          have E_a_48 := (E_a_23).wr W48
          have F_heads_a_48 : Fld Z h48 a "com/example/arcspan/arcspan/io/ForwardHeads" "heads" "[J" (.ref ha) := (F_heads_a_23).other W48 (Or.inr (slot_ne (Or.inl (hw _ (List.mem_of_getElem? (i := 11) rfl))) (Or.inl (hw _ (List.mem_of_getElem? (i := 21) rfl))) (by decide) (t := (.array .long)) (t' := .int) (by decide) (by decide)))
          have F_lines_a_48 : Fld Z h48 a "com/example/arcspan/arcspan/io/ForwardHeads" "lines" "[J" (.ref la) := (F_lines_a_23).other W48 (Or.inr (slot_ne (Or.inl (hw _ (List.mem_of_getElem? (i := 13) rfl))) (Or.inl (hw _ (List.mem_of_getElem? (i := 21) rfl))) (by decide) (t := (.array .long)) (t' := .int) (by decide) (by decide)))
          have F_first_a_48 : Fld Z h48 a "com/example/arcspan/arcspan/io/ForwardHeads" "first" "I" (.int ((f + (1 : Int32)) + (1 : Int32))) := (F_first_a_23).same W48
          have F_end_a_48 : Fld Z h48 a "com/example/arcspan/arcspan/io/ForwardHeads" "end" "I" (.int en) := (F_end_a_23).other W48 (Or.inr (slot_ne (Or.inl (hw _ (List.mem_of_getElem? (i := 23) rfl))) (Or.inl (hw _ (List.mem_of_getElem? (i := 21) rfl))) (by decide) (t := .int) (t' := .int) (by decide) (by decide)))
          have A1_2 := A1_1.other W48 (Ne.symm d2)
          have v2 : ((f + (1 : Int32)) + (1 : Int32)).toInt = f.toInt + 2 := by have := own_inc (f + (1 : Int32)) (by omega); omega
          have S50 : Steps p.tables e below Ω (T48.setTop (mkF m 0 #[.val (.ref a), .val (.long q1), .second] [])) := by
            refine S49.trans ?_
            refine XS.goto X48.here hx rfl (pc0 := 35) (pc' := 0) rfl (hb hby d4_35) (by decide) (by decide) ?_
            exact Steps.refl _
          have S51 : Steps p.tables e below Ω (T48.setTop (mkF m 1 #[.val (.ref a), .val (.long q1), .second] [(.ref a)])) := by
            refine S50.trans ?_
            refine XS.aloadN X48.here hx rfl (hb hby d4_0) rfl rfl ?_
            exact Steps.refl _
          obtain ⟨T52, X52, e52, st52⟩ := getF X48 hx hZ hown (host := "") (Or.inl (hw _ (List.mem_of_getElem? (i := 20) rfl))) Via.refl e48 F_first_a_48 (g := (mkF m 1 #[.val (.ref a), .val (.long q1), .second] [(.ref a)])) rfl rfl (hb hby d4_1)
          have S53 : Steps p.tables e below Ω (T52.setTop (mkF m 4 #[.val (.ref a), .val (.long q1), .second] [(.int ((f + (1 : Int32)) + (1 : Int32)))])) := S51.trans (st52 _ (Steps.refl _))
          have S54 : Steps p.tables e below Ω (T52.setTop (mkF m 5 #[.val (.ref a), .val (.long q1), .second] [(.ref a), (.int ((f + (1 : Int32)) + (1 : Int32)))])) := by
            refine S53.trans ?_
            refine XS.aloadN X52.here hx rfl (hb hby d4_4) rfl rfl ?_
            exact Steps.refl _
          obtain ⟨T55, X55, e55, st55⟩ := getF X52 hx hZ hown (host := "") (Or.inl (hw _ (List.mem_of_getElem? (i := 22) rfl))) Via.refl e52 F_end_a_48 (g := (mkF m 5 #[.val (.ref a), .val (.long q1), .second] [(.ref a), (.int ((f + (1 : Int32)) + (1 : Int32)))])) rfl rfl (hb hby d4_5)
          have S56 : Steps p.tables e below Ω (T55.setTop (mkF m 8 #[.val (.ref a), .val (.long q1), .second] [(.int en), (.int ((f + (1 : Int32)) + (1 : Int32)))])) := S54.trans (st55 _ (Steps.refl _))
          by_cases t2 : ((f + (1 : Int32)) + (1 : Int32)) < en
          · have qt2 : ((f + (1 : Int32)) + (1 : Int32)).toInt < en.toInt := Int32.lt_iff_toInt_lt.mp t2
            have S58 : Steps p.tables e below Ω (T55.setTop (mkF m 11 #[.val (.ref a), .val (.long q1), .second] [])) := by
              refine S56.trans ?_
              refine XS.icmpNo X55.here hx rfl (hb hby d4_8) rfl (XT.ii_ge_f t2) ?_
              exact Steps.refl _
            have hin2 := own_idx (j := ((f + (1 : Int32)) + (1 : Int32))) (n := 16) (by omega) (by omega)
            have S59 : Steps p.tables e below Ω (T55.setTop (mkF m 12 #[.val (.ref a), .val (.long q1), .second] [(.ref a)])) := by
              refine S58.trans ?_
              refine XS.aloadN X55.here hx rfl (hb hby d4_11) rfl rfl ?_
              exact Steps.refl _
            obtain ⟨T60, X60, e60, st60⟩ := getF X55 hx hZ hown (host := "") (Or.inl (hw _ (List.mem_of_getElem? (i := 10) rfl))) Via.refl e55 F_heads_a_48 (g := (mkF m 12 #[.val (.ref a), .val (.long q1), .second] [(.ref a)])) rfl rfl (hb hby d4_12)
            have S61 : Steps p.tables e below Ω (T60.setTop (mkF m 15 #[.val (.ref a), .val (.long q1), .second] [(.ref ha)])) := S59.trans (st60 _ (Steps.refl _))
            have S62 : Steps p.tables e below Ω (T60.setTop (mkF m 16 #[.val (.ref a), .val (.long q1), .second] [(.ref a), (.ref ha)])) := by
              refine S61.trans ?_
              refine XS.aloadN X60.here hx rfl (hb hby d4_15) rfl rfl ?_
              exact Steps.refl _
            obtain ⟨T63, X63, e63, st63⟩ := getF X60 hx hZ hown (host := "") (Or.inl (hw _ (List.mem_of_getElem? (i := 20) rfl))) Via.refl e60 F_first_a_48 (g := (mkF m 16 #[.val (.ref a), .val (.long q1), .second] [(.ref a), (.ref ha)])) rfl rfl (hb hby d4_16)
            have S64 : Steps p.tables e below Ω (T63.setTop (mkF m 19 #[.val (.ref a), .val (.long q1), .second] [(.int ((f + (1 : Int32)) + (1 : Int32))), (.ref ha)])) := S62.trans (st63 _ (Steps.refl _))
            have S65 : Steps p.tables e below Ω (T63.setTop (mkF m 20 #[.val (.ref a), .val (.long q1), .second] [(.long (g1 ((f + (1 : Int32)) + (1 : Int32)).toNatClampNeg))])) := S64.trans (own_ldJ X63 hx hZ e63 A1_2 (j := ((f + (1 : Int32)) + (1 : Int32))) (x := (g1 ((f + (1 : Int32)) + (1 : Int32)).toNatClampNeg)) hin2.1 (own_rd g1 ((f + (1 : Int32)) + (1 : Int32)) (by omega) (by omega)) (g := (mkF m 19 #[.val (.ref a), .val (.long q1), .second] [(.int ((f + (1 : Int32)) + (1 : Int32))), (.ref ha)])) rfl rfl (hb hby d4_19) _ (Steps.refl _))
            have S66 : Steps p.tables e below Ω (T63.setTop (mkF m 22 #[.val (.ref a), .val (.long q1), .second] [(.int (lcmpW (g1 ((f + (1 : Int32)) + (1 : Int32)).toNatClampNeg) q1))])) := by
              refine S65.trans ?_
              refine XS.lloadN X63.here hx rfl (hb hby d4_20) rfl ?_
              show Steps p.tables e below (T63.setTop (mkF m 21 #[.val (.ref a), .val (.long q1), .second] [(.long q1), (.long (g1 ((f + (1 : Int32)) + (1 : Int32)).toNatClampNeg))])) _
              refine XS.lcmp X63.here hx rfl (hb hby d4_21) rfl ?_
              exact Steps.refl _
            by_cases u2 : q1 < (g1 ((f + (1 : Int32)) + (1 : Int32)).toNatClampNeg)
            · have qu2 : q1.toInt < (g1 ((f + (1 : Int32)) + (1 : Int32)).toNatClampNeg).toInt := Int64.lt_iff_toInt_lt.mp u2
              have S67 : Steps p.tables e below Ω (T63.setTop (mkF m 38 #[.val (.ref a), .val (.long q1), .second] [])) := by
                refine S66.trans ?_
                refine XS.ifYes X63.here hx rfl (pc0 := 22) (pc' := 38) rfl (hb hby d4_22) rfl (XT.ll_gt_t u2) (by decide) (by decide) ?_
                exact Steps.refl _
              obtain ⟨fs, hr, hrun, hended, hW, hsame⟩ := X63.leave (v := none) (fun _ => rfl)
              have hfin : Steps p.tables e below Ω (T63.setFrames fs) := by
                refine S67.trans ?_
                exact X63.returnOut hx Bd.returns (hb hby d4_38) hr
              rw [hΩ] at hfin
              refine ⟨_, _, hfin, hrun, hended, _, _, rfl, ?_, ⟨_, rfl⟩, hW, hsame.mono (by decide) (by decide)⟩
              show Q4 Z a q1 ha la f en g1 h0 n0 _ T63.heap _
              rw [e63]
              exact ⟨((f + (1 : Int32)) + (1 : Int32)), rfl, N48, (((((Keep.refl h0 [a])).wr W23 (Or.inl (List.mem_of_getElem? (i := 0) rfl)))).wr W48 (Or.inl (List.mem_of_getElem? (i := 0) rfl))), E_a_48, F_heads_a_48, F_lines_a_48, F_first_a_48, F_end_a_48, by omega, by omega, (fun i j1 j2 => own_c2 f q1 g1 i j1 (by omega) nn0 nn1), (fun i j1 j2 => by rw [own_nat (j := ((f + (1 : Int32)) + (1 : Int32))) (k := i) (by omega)] at qu2; exact qu2)⟩
            · have qu2 : ¬ q1.toInt < (g1 ((f + (1 : Int32)) + (1 : Int32)).toNatClampNeg).toInt := fun q => u2 (Int64.lt_iff_toInt_lt.mpr q)
              have S68 : Steps p.tables e below Ω (T63.setTop (mkF m 25 #[.val (.ref a), .val (.long q1), .second] [])) := by
                refine S66.trans ?_
                refine XS.ifNo X63.here hx rfl (hb hby d4_22) rfl (XT.ll_gt_f u2) ?_
                exact Steps.refl _
              have nn2 : ∀ i : Nat, (i : Int) = f.toInt + 2 → ¬ q1.toInt < (g1 i).toInt := fun i hi => by rw [own_nat (j := ((f + (1 : Int32)) + (1 : Int32))) (k := i) (by omega)] at qu2; exact qu2
              have S69 : Steps p.tables e below Ω (T63.setTop (mkF m 27 #[.val (.ref a), .val (.long q1), .second] [(.ref a), (.ref a)])) := by
                refine S68.trans ?_
                refine XS.aloadN X63.here hx rfl (hb hby d4_25) rfl rfl ?_
                show Steps p.tables e below (T63.setTop (mkF m 26 #[.val (.ref a), .val (.long q1), .second] [(.ref a)])) _
                refine XS.dup X63.here hx rfl (hb hby d4_26) rfl rfl ?_
                exact Steps.refl _
              obtain ⟨T70, X70, e70, st70⟩ := getF X63 hx hZ hown (host := "") (Or.inl (hw _ (List.mem_of_getElem? (i := 20) rfl))) Via.refl e63 F_first_a_48 (g := (mkF m 27 #[.val (.ref a), .val (.long q1), .second] [(.ref a), (.ref a)])) rfl rfl (hb hby d4_27)
              have S71 : Steps p.tables e below Ω (T70.setTop (mkF m 30 #[.val (.ref a), .val (.long q1), .second] [(.int ((f + (1 : Int32)) + (1 : Int32))), (.ref a)])) := S69.trans (st70 _ (Steps.refl _))
              have S72 : Steps p.tables e below Ω (T70.setTop (mkF m 32 #[.val (.ref a), .val (.long q1), .second] [(.int (((f + (1 : Int32)) + (1 : Int32)) + (1 : Int32))), (.ref a)])) := by
                refine S71.trans ?_
                refine XS.iconst X70.here hx rfl (hb hby d4_30) ?_
                show Steps p.tables e below (T70.setTop (mkF m 31 #[.val (.ref a), .val (.long q1), .second] [(.int (1 : Int32)), (.int ((f + (1 : Int32)) + (1 : Int32))), (.ref a)])) _
                refine XS.iadd X70.here hx rfl (hb hby d4_31) rfl ?_
                exact Steps.refl _
              obtain ⟨T73, h73, X73, e73, W73, st73⟩ := putF X70 hx hZ hown (host := "") (Or.inl (hw _ (List.mem_of_getElem? (i := 20) rfl))) Via.refl e70 F_first_a_48 E_a_48 (Or.inl (hw _ (List.mem_of_getElem? (i := 21) rfl))) (hw _ (List.mem_of_getElem? (i := 1) rfl)) (ty := .int) (by decide) rfl rfl (g := (mkF m 32 #[.val (.ref a), .val (.long q1), .second] [(.int (((f + (1 : Int32)) + (1 : Int32)) + (1 : Int32))), (.ref a)])) rfl rfl (hb hby d4_32)
              have S74 : Steps p.tables e below Ω (T73.setTop (mkF m 35 #[.val (.ref a), .val (.long q1), .second] [])) := S72.trans (st73 _ (Steps.refl _))
              have N73 := Fr.snoc X73 N48 g
              have E_a_73 := (E_a_48).wr W73
              have F_heads_a_73 : Fld Z h73 a "com/example/arcspan/arcspan/io/ForwardHeads" "heads" "[J" (.ref ha) := (F_heads_a_48).other W73 (Or.inr (slot_ne (Or.inl (hw _ (List.mem_of_getElem? (i := 11) rfl))) (Or.inl (hw _ (List.mem_of_getElem? (i := 21) rfl))) (by decide) (t := (.array .long)) (t' := .int) (by decide) (by decide)))
              have F_lines_a_73 : Fld Z h73 a "com/example/arcspan/arcspan/io/ForwardHeads" "lines" "[J" (.ref la) := (F_lines_a_48).other W73 (Or.inr (slot_ne (Or.inl (hw _ (List.mem_of_getElem? (i := 13) rfl))) (Or.inl (hw _ (List.mem_of_getElem? (i := 21) rfl))) (by decide) (t := (.array .long)) (t' := .int) (by decide) (by decide)))
              have F_first_a_73 : Fld Z h73 a "com/example/arcspan/arcspan/io/ForwardHeads" "first" "I" (.int (((f + (1 : Int32)) + (1 : Int32)) + (1 : Int32))) := (F_first_a_48).same W73
              have F_end_a_73 : Fld Z h73 a "com/example/arcspan/arcspan/io/ForwardHeads" "end" "I" (.int en) := (F_end_a_48).other W73 (Or.inr (slot_ne (Or.inl (hw _ (List.mem_of_getElem? (i := 23) rfl))) (Or.inl (hw _ (List.mem_of_getElem? (i := 21) rfl))) (by decide) (t := .int) (t' := .int) (by decide) (by decide)))
              have A1_3 := A1_2.other W73 (Ne.symm d2)
              have v3 : (((f + (1 : Int32)) + (1 : Int32)) + (1 : Int32)).toInt = f.toInt + 3 := by have := own_inc ((f + (1 : Int32)) + (1 : Int32)) (by omega); omega
              have S75 : Steps p.tables e below Ω (T73.setTop (mkF m 0 #[.val (.ref a), .val (.long q1), .second] [])) := by
                refine S74.trans ?_
                refine XS.goto X73.here hx rfl (pc0 := 35) (pc' := 0) rfl (hb hby d4_35) (by decide) (by decide) ?_
                exact Steps.refl _
              have S76 : Steps p.tables e below Ω (T73.setTop (mkF m 1 #[.val (.ref a), .val (.long q1), .second] [(.ref a)])) := by
                refine S75.trans ?_
                refine XS.aloadN X73.here hx rfl (hb hby d4_0) rfl rfl ?_
                exact Steps.refl _
              obtain ⟨T77, X77, e77, st77⟩ := getF X73 hx hZ hown (host := "") (Or.inl (hw _ (List.mem_of_getElem? (i := 20) rfl))) Via.refl e73 F_first_a_73 (g := (mkF m 1 #[.val (.ref a), .val (.long q1), .second] [(.ref a)])) rfl rfl (hb hby d4_1)
              have S78 : Steps p.tables e below Ω (T77.setTop (mkF m 4 #[.val (.ref a), .val (.long q1), .second] [(.int (((f + (1 : Int32)) + (1 : Int32)) + (1 : Int32)))])) := S76.trans (st77 _ (Steps.refl _))
              have S79 : Steps p.tables e below Ω (T77.setTop (mkF m 5 #[.val (.ref a), .val (.long q1), .second] [(.ref a), (.int (((f + (1 : Int32)) + (1 : Int32)) + (1 : Int32)))])) := by
                refine S78.trans ?_
                refine XS.aloadN X77.here hx rfl (hb hby d4_4) rfl rfl ?_
                exact Steps.refl _
              obtain ⟨T80, X80, e80, st80⟩ := getF X77 hx hZ hown (host := "") (Or.inl (hw _ (List.mem_of_getElem? (i := 22) rfl))) Via.refl e77 F_end_a_73 (g := (mkF m 5 #[.val (.ref a), .val (.long q1), .second] [(.ref a), (.int (((f + (1 : Int32)) + (1 : Int32)) + (1 : Int32)))])) rfl rfl (hb hby d4_5)
              have S81 : Steps p.tables e below Ω (T80.setTop (mkF m 8 #[.val (.ref a), .val (.long q1), .second] [(.int en), (.int (((f + (1 : Int32)) + (1 : Int32)) + (1 : Int32)))])) := S79.trans (st80 _ (Steps.refl _))
              have S82 : Steps p.tables e below Ω (T80.setTop (mkF m 38 #[.val (.ref a), .val (.long q1), .second] [])) := by
                refine S81.trans ?_
                refine XS.icmpYes X80.here hx rfl (pc0 := 8) (pc' := 38) rfl (hb hby d4_8) rfl (XT.ii_ge_t (own_nlt32 (by omega))) (by decide) (by decide) ?_
                exact Steps.refl _
              obtain ⟨fs, hr, hrun, hended, hW, hsame⟩ := X80.leave (v := none) (fun _ => rfl)
              have hfin : Steps p.tables e below Ω (T80.setFrames fs) := by
                refine S82.trans ?_
                exact X80.returnOut hx Bd.returns (hb hby d4_38) hr
              rw [hΩ] at hfin
              refine ⟨_, _, hfin, hrun, hended, _, _, rfl, ?_, ⟨_, rfl⟩, hW, hsame.mono (by decide) (by decide)⟩
              show Q4 Z a q1 ha la f en g1 h0 n0 _ T80.heap _
              rw [e80]
              exact ⟨(((f + (1 : Int32)) + (1 : Int32)) + (1 : Int32)), rfl, N73, (((((((Keep.refl h0 [a])).wr W23 (Or.inl (List.mem_of_getElem? (i := 0) rfl)))).wr W48 (Or.inl (List.mem_of_getElem? (i := 0) rfl)))).wr W73 (Or.inl (List.mem_of_getElem? (i := 0) rfl))), E_a_73, F_heads_a_73, F_lines_a_73, F_first_a_73, F_end_a_73, by omega, by omega, (fun i j1 j2 => own_c3 f q1 g1 i j1 (by omega) nn0 nn1 nn2), (fun i j1 j2 => absurd j2 (by omega))⟩
          · have qt2 : ¬ ((f + (1 : Int32)) + (1 : Int32)).toInt < en.toInt := fun q => t2 (Int32.lt_iff_toInt_lt.mpr q)
            have S57 : Steps p.tables e below Ω (T55.setTop (mkF m 38 #[.val (.ref a), .val (.long q1), .second] [])) := by
              refine S56.trans ?_
              refine XS.icmpYes X55.here hx rfl (pc0 := 8) (pc' := 38) rfl (hb hby d4_8) rfl (XT.ii_ge_t t2) (by decide) (by decide) ?_
              exact Steps.refl _
            obtain ⟨fs, hr, hrun, hended, hW, hsame⟩ := X55.leave (v := none) (fun _ => rfl)
            have hfin : Steps p.tables e below Ω (T55.setFrames fs) := by
              refine S57.trans ?_
              exact X55.returnOut hx Bd.returns (hb hby d4_38) hr
            rw [hΩ] at hfin
            refine ⟨_, _, hfin, hrun, hended, _, _, rfl, ?_, ⟨_, rfl⟩, hW, hsame.mono (by decide) (by decide)⟩
            show Q4 Z a q1 ha la f en g1 h0 n0 _ T55.heap _
            rw [e55]
            exact ⟨((f + (1 : Int32)) + (1 : Int32)), rfl, N48, (((((Keep.refl h0 [a])).wr W23 (Or.inl (List.mem_of_getElem? (i := 0) rfl)))).wr W48 (Or.inl (List.mem_of_getElem? (i := 0) rfl))), E_a_48, F_heads_a_48, F_lines_a_48, F_first_a_48, F_end_a_48, by omega, by omega, (fun i j1 j2 => own_c2 f q1 g1 i j1 (by omega) nn0 nn1), (fun i j1 j2 => absurd j2 (by omega))⟩
      · have qt1 : ¬ (f + (1 : Int32)).toInt < en.toInt := fun q => t1 (Int32.lt_iff_toInt_lt.mpr q)
        have S32 : Steps p.tables e below Ω (T30.setTop (mkF m 38 #[.val (.ref a), .val (.long q1), .second] [])) := by
          refine S31.trans ?_
          refine XS.icmpYes X30.here hx rfl (pc0 := 8) (pc' := 38) rfl (hb hby d4_8) rfl (XT.ii_ge_t t1) (by decide) (by decide) ?_
          exact Steps.refl _
        obtain ⟨fs, hr, hrun, hended, hW, hsame⟩ := X30.leave (v := none) (fun _ => rfl)
        have hfin : Steps p.tables e below Ω (T30.setFrames fs) := by
          refine S32.trans ?_
          exact X30.returnOut hx Bd.returns (hb hby d4_38) hr
        rw [hΩ] at hfin
        refine ⟨_, _, hfin, hrun, hended, _, _, rfl, ?_, ⟨_, rfl⟩, hW, hsame.mono (by decide) (by decide)⟩
        show Q4 Z a q1 ha la f en g1 h0 n0 _ T30.heap _
        rw [e30]
        exact ⟨(f + (1 : Int32)), rfl, N23, (((Keep.refl h0 [a])).wr W23 (Or.inl (List.mem_of_getElem? (i := 0) rfl))), E_a_23, F_heads_a_23, F_lines_a_23, F_first_a_23, F_end_a_23, by omega, by omega, (fun i j1 j2 => own_c1 f q1 g1 i j1 (by omega) nn0), (fun i j1 j2 => absurd j2 (by omega))⟩
  · have qt0 : ¬ f.toInt < en.toInt := fun q => t0 (Int32.lt_iff_toInt_lt.mpr q)
    have S7 : Steps p.tables e below Ω (T5.setTop (mkF m 38 #[.val (.ref a), .val (.long q1), .second] [])) := by
      refine S6.trans ?_
      refine XS.icmpYes X5.here hx rfl (pc0 := 8) (pc' := 38) rfl (hb hby d4_8) rfl (XT.ii_ge_t t0) (by decide) (by decide) ?_
      exact Steps.refl _
    obtain ⟨fs, hr, hrun, hended, hW, hsame⟩ := X5.leave (v := none) (fun _ => rfl)
    have hfin : Steps p.tables e below Ω (T5.setFrames fs) := by
      refine S7.trans ?_
      exact X5.returnOut hx Bd.returns (hb hby d4_38) hr
    rw [hΩ] at hfin
    refine ⟨_, _, hfin, hrun, hended, _, _, rfl, ?_, ⟨_, rfl⟩, hW, hsame.mono (by decide) (by decide)⟩
    show Q4 Z a q1 ha la f en g1 h0 n0 _ T5.heap _
    rw [e5]
    exact ⟨f, rfl, N0, (Keep.refl h0 [a]), E0, P_heads, P_lines, P_first, P_end, by omega, by omega, (fun i j1 j2 => absurd j2 (by omega)), (fun i j1 j2 => absurd j2 (by omega))⟩
theorem d6_0 : decode prog_24_method_4_code 0 = .ok (.aload_n 0, 1) := by decide +kernel
theorem d6_1 : decode prog_24_method_4_code 1 = .ok (.getfield 16, 3) := by decide +kernel
theorem d6_4 : decode prog_24_method_4_code 4 = .ok (.aload_n 0, 1) := by decide +kernel
theorem d6_5 : decode prog_24_method_4_code 5 = .ok (.getfield 20, 3) := by decide +kernel
theorem d6_8 : decode prog_24_method_4_code 8 = .ok (.if_icmp .ne 7, 3) := by decide +kernel
theorem d6_11 : decode prog_24_method_4_code 11 = .ok (.iconst 1, 1) := by decide +kernel
theorem d6_12 : decode prog_24_method_4_code 12 = .ok (.goto 4, 3) := by decide +kernel
theorem d6_16 : decode prog_24_method_4_code 16 = .ok (.ireturn, 1) := by decide +kernel
theorem d6_15 : decode prog_24_method_4_code 15 = .ok (.iconst 0, 1) := by decide +kernel
theorem ef_rm6 (m : MethodId) (x0 : Addr) : entryFrame m #[(.ref x0)] 1 = mkF m 0 #[.val (.ref x0)] [] := by first | (simp [entryFrame, mkF, argsToLocals, Value.category]; done) | rfl
def Q6 (Z : State) (a : Addr) (ha : Addr) (la : Addr) (f : Int32) (en : Int32) (h0 : Heap) (n0 : Nat) (v : Option Value) (h : Heap) (L : List Loc) : Prop := v = some (.int (own_emp f en)) ∧ Fr n0 L ∧ h = h0
set_option maxRecDepth 65536 in
set_option maxHeartbeats 40000000 in
theorem rm6 (l : Launch) (Z : State) (a0 : Array Value) (hw : ∀ d ∈ tables_1, d.before a0 Z = true) (ws : List Jvm.Cond) (a : Addr) (ha : Addr) (la : Addr) (f : Int32) (en : Int32) (h0 : Heap) (n0 : Nat) (Z0 : n0 ≤ h0.size) (P_heads : Fld Z h0 a "com/example/arcspan/arcspan/io/ForwardHeads" "heads" "[J" (.ref ha)) (P_lines : Fld Z h0 a "com/example/arcspan/arcspan/io/ForwardHeads" "lines" "[J" (.ref la)) (P_first : Fld Z h0 a "com/example/arcspan/arcspan/io/ForwardHeads" "first" "I" (.int f)) (P_end : Fld Z h0 a "com/example/arcspan/arcspan/io/ForwardHeads" "end" "I" (.int en)) :
    MetFree l (⟨"com/example/arcspan/arcspan/io/ForwardHeads", "isEmpty", "()Z"⟩ : MethodName) (head1 (Jvm.Cond.code (⟨"com/example/arcspan/arcspan/io/ForwardHeads", "isEmpty", "()Z"⟩ : MethodName) prog_24_method_4_code 1 (some .boolean) :: ws) ({ frames := 0, cells := 0, slots := 0, locals := 0 } : Room)) (fun aa U => aa = #[(.ref a)] ∧ Z.Warmed39 U.vm ∧ U.heap = h0) (fun _ _ _ _ _ => True) (fun _ U o U' => ∃ v L, o = .returned v ∧ Q6 Z a ha la f en h0 n0 v U'.heap L ∧ FrameEnd U o U' L ({ frames := 0, cells := 0, slots := 0, locals := 0 } : Room).cells ({ frames := 0, cells := 0, slots := 0, locals := 0 } : Room).slots) := by
  refine MetFree.of_bodySF (plainFor_of_name pn_0) hisR ?_
  intro p e s m args below meth c s₁ Bd hml0 hP hK
  obtain ⟨rfl, hZ, hh⟩ := hP
  have hx := Bd.exec
  have hby := Bd.bytes
  have hml : c.maxLocals = 1 := hml0
  have hown : s.vm.findClass "com/example/arcspan/arcspan/io/ForwardHeads" = some m.cls := findClass_of_methodNamed Bd.named
  have hnm := (name_of_methodNamed Bd.named Bd.method).1
  have X0 : Stand p l e ({ frames := 0, cells := 0, slots := 0, locals := 0 } : Room) s m #[(.ref a)] below meth c s₁ [] 0 0 := Stand.of_body Bd
  have e0 : s₁.heap = h0 := by rw [← hh, Bd.state]; rfl
  have N0 := Fr.nil n0
  obtain ⟨Ω, hΩ⟩ : ∃ z, z = s₁.setTop (entryFrame m #[(.ref a)] 1) := ⟨_, rfl⟩
  have S0 : Steps p.tables e below Ω (s₁.setTop (mkF m 0 #[.val (.ref a)] [])) := by rw [hΩ]; exact castTop (ef_rm6 m a) (Steps.refl _)
  have S1 : Steps p.tables e below Ω (s₁.setTop (mkF m 1 #[.val (.ref a)] [(.ref a)])) := by
    refine S0.trans ?_
    refine XS.aloadN X0.here hx rfl (hb hby d6_0) rfl rfl ?_
    exact Steps.refl _
  obtain ⟨T2, X2, e2, st2⟩ := getF X0 hx hZ hown (host := "") (Or.inl (hw _ (List.mem_of_getElem? (i := 20) rfl))) Via.refl e0 P_first (g := (mkF m 1 #[.val (.ref a)] [(.ref a)])) rfl rfl (hb hby d6_1)
  have S3 : Steps p.tables e below Ω (T2.setTop (mkF m 4 #[.val (.ref a)] [(.int f)])) := S1.trans (st2 _ (Steps.refl _))
  have S4 : Steps p.tables e below Ω (T2.setTop (mkF m 5 #[.val (.ref a)] [(.ref a), (.int f)])) := by
    refine S3.trans ?_
    refine XS.aloadN X2.here hx rfl (hb hby d6_4) rfl rfl ?_
    exact Steps.refl _
  obtain ⟨T5, X5, e5, st5⟩ := getF X2 hx hZ hown (host := "") (Or.inl (hw _ (List.mem_of_getElem? (i := 22) rfl))) Via.refl e2 P_end (g := (mkF m 5 #[.val (.ref a)] [(.ref a), (.int f)])) rfl rfl (hb hby d6_5)
  have S6 : Steps p.tables e below Ω (T5.setTop (mkF m 8 #[.val (.ref a)] [(.int en), (.int f)])) := S4.trans (st5 _ (Steps.refl _))
  by_cases hc : f = en
  · have qhc : f.toInt = en.toInt := congrArg Int32.toInt hc
    have S7 : Steps p.tables e below Ω (T5.setTop (mkF m 16 #[.val (.ref a)] [(.int (1 : Int32))])) := by
      refine S6.trans ?_
      refine XS.icmpNo X5.here hx rfl (hb hby d6_8) rfl (XT.ii_ne_f hc) ?_
      show Steps p.tables e below (T5.setTop (mkF m 11 #[.val (.ref a)] [])) _
      refine XS.iconst X5.here hx rfl (hb hby d6_11) ?_
      show Steps p.tables e below (T5.setTop (mkF m 12 #[.val (.ref a)] [(.int (1 : Int32))])) _
      refine XS.goto X5.here hx rfl (pc0 := 12) (pc' := 16) rfl (hb hby d6_12) (by decide) (by decide) ?_
      exact Steps.refl _
    obtain ⟨fs, hr, hrun, hended, hW, hsame⟩ := X5.leave (v := some (.int (1 : Int32))) (fun h => by rw [Bd.returns] at h; cases h)
    have hfin : Steps p.tables e below Ω (T5.setFrames fs) := by
      refine S7.trans ?_
      exact own_retZ X5 hx Bd.returns (by decide) (hb hby d6_16) hr
    rw [hΩ] at hfin
    refine ⟨_, _, hfin, hrun, hended, _, _, rfl, ?_, ⟨_, rfl⟩, hW, hsame.mono (by decide) (by decide)⟩
    show Q6 Z a ha la f en h0 n0 _ T5.heap _
    rw [e5]
    exact ⟨by rw [own_emp, if_pos hc], N0, rfl⟩
  · have qhc : ¬ f.toInt = en.toInt := fun q => hc (Int32.toInt_inj.mp q)
    have S8 : Steps p.tables e below Ω (T5.setTop (mkF m 16 #[.val (.ref a)] [(.int (0 : Int32))])) := by
      refine S6.trans ?_
      refine XS.icmpYes X5.here hx rfl (pc0 := 8) (pc' := 15) rfl (hb hby d6_8) rfl (XT.ii_ne_t hc) (by decide) (by decide) ?_
      show Steps p.tables e below (T5.setTop (mkF m 15 #[.val (.ref a)] [])) _
      refine XS.iconst X5.here hx rfl (hb hby d6_15) ?_
      exact Steps.refl _
    obtain ⟨fs, hr, hrun, hended, hW, hsame⟩ := X5.leave (v := some (.int (0 : Int32))) (fun h => by rw [Bd.returns] at h; cases h)
    have hfin : Steps p.tables e below Ω (T5.setFrames fs) := by
      refine S8.trans ?_
      exact own_retZ X5 hx Bd.returns (by decide) (hb hby d6_16) hr
    rw [hΩ] at hfin
    refine ⟨_, _, hfin, hrun, hended, _, _, rfl, ?_, ⟨_, rfl⟩, hW, hsame.mono (by decide) (by decide)⟩
    show Q6 Z a ha la f en h0 n0 _ T5.heap _
    rw [e5]
    exact ⟨by rw [own_emp, if_neg hc], N0, rfl⟩
theorem d7_0 : decode prog_24_method_5_code 0 = .ok (.aload_n 0, 1) := by decide +kernel
theorem d7_1 : decode prog_24_method_5_code 1 = .ok (.getfield 9, 3) := by decide +kernel
theorem d7_4 : decode prog_24_method_5_code 4 = .ok (.aload_n 0, 1) := by decide +kernel
theorem d7_5 : decode prog_24_method_5_code 5 = .ok (.getfield 16, 3) := by decide +kernel
theorem d7_8 : decode prog_24_method_5_code 8 = .ok (.laload, 1) := by decide +kernel
theorem d7_9 : decode prog_24_method_5_code 9 = .ok (.lreturn, 1) := by decide +kernel
theorem ef_rm7 (m : MethodId) (x0 : Addr) : entryFrame m #[(.ref x0)] 1 = mkF m 0 #[.val (.ref x0)] [] := by first | (simp [entryFrame, mkF, argsToLocals, Value.category]; done) | rfl
def Q7 (Z : State) (a : Addr) (ha : Addr) (la : Addr) (f : Int32) (en : Int32) (g1 : Nat → Int64) (h0 : Heap) (n0 : Nat) (v : Option Value) (h : Heap) (L : List Loc) : Prop := v = some (.long (g1 f.toNatClampNeg)) ∧ Fr n0 L ∧ h = h0
set_option maxRecDepth 65536 in
set_option maxHeartbeats 40000000 in
theorem rm7 (l : Launch) (Z : State) (a0 : Array Value) (hw : ∀ d ∈ tables_1, d.before a0 Z = true) (ws : List Jvm.Cond) (a : Addr) (ha : Addr) (la : Addr) (f : Int32) (en : Int32) (g1 : Nat → Int64) (h0 : Heap) (n0 : Nat) (Z0 : n0 ≤ h0.size) (P_heads : Fld Z h0 a "com/example/arcspan/arcspan/io/ForwardHeads" "heads" "[J" (.ref ha)) (P_lines : Fld Z h0 a "com/example/arcspan/arcspan/io/ForwardHeads" "lines" "[J" (.ref la)) (P_first : Fld Z h0 a "com/example/arcspan/arcspan/io/ForwardHeads" "first" "I" (.int f)) (P_end : Fld Z h0 a "com/example/arcspan/arcspan/io/ForwardHeads" "end" "I" (.int en)) (A1 : LA Z h0 ha .long ((List.range 16).map fun i => Value.long (g1 i))) (b1 : 0 ≤ f.toInt) (b2 : f.toInt < 16) :
    MetFree l (⟨"com/example/arcspan/arcspan/io/ForwardHeads", "firstHead", "()J"⟩ : MethodName) (head1 (Jvm.Cond.code (⟨"com/example/arcspan/arcspan/io/ForwardHeads", "firstHead", "()J"⟩ : MethodName) prog_24_method_5_code 1 (some .long) :: ws) ({ frames := 0, cells := 0, slots := 0, locals := 0 } : Room)) (fun aa U => aa = #[(.ref a)] ∧ Z.Warmed39 U.vm ∧ U.heap = h0) (fun _ _ _ _ _ => True) (fun _ U o U' => ∃ v L, o = .returned v ∧ Q7 Z a ha la f en g1 h0 n0 v U'.heap L ∧ FrameEnd U o U' L ({ frames := 0, cells := 0, slots := 0, locals := 0 } : Room).cells ({ frames := 0, cells := 0, slots := 0, locals := 0 } : Room).slots) := by
  refine MetFree.of_bodySF (plainFor_of_name pn_0) hisR ?_
  intro p e s m args below meth c s₁ Bd hml0 hP hK
  obtain ⟨rfl, hZ, hh⟩ := hP
  have hx := Bd.exec
  have hby := Bd.bytes
  have hml : c.maxLocals = 1 := hml0
  have hown : s.vm.findClass "com/example/arcspan/arcspan/io/ForwardHeads" = some m.cls := findClass_of_methodNamed Bd.named
  have hnm := (name_of_methodNamed Bd.named Bd.method).1
  have X0 : Stand p l e ({ frames := 0, cells := 0, slots := 0, locals := 0 } : Room) s m #[(.ref a)] below meth c s₁ [] 0 0 := Stand.of_body Bd
  have e0 : s₁.heap = h0 := by rw [← hh, Bd.state]; rfl
  have N0 := Fr.nil n0
  obtain ⟨Ω, hΩ⟩ : ∃ z, z = s₁.setTop (entryFrame m #[(.ref a)] 1) := ⟨_, rfl⟩
  have S0 : Steps p.tables e below Ω (s₁.setTop (mkF m 0 #[.val (.ref a)] [])) := by rw [hΩ]; exact castTop (ef_rm7 m a) (Steps.refl _)
  have S1 : Steps p.tables e below Ω (s₁.setTop (mkF m 1 #[.val (.ref a)] [(.ref a)])) := by
    refine S0.trans ?_
    refine XS.aloadN X0.here hx rfl (hb hby d7_0) rfl rfl ?_
    exact Steps.refl _
  obtain ⟨T2, X2, e2, st2⟩ := getF X0 hx hZ hown (host := "") (Or.inl (hw _ (List.mem_of_getElem? (i := 10) rfl))) Via.refl e0 P_heads (g := (mkF m 1 #[.val (.ref a)] [(.ref a)])) rfl rfl (hb hby d7_1)
  have S3 : Steps p.tables e below Ω (T2.setTop (mkF m 4 #[.val (.ref a)] [(.ref ha)])) := S1.trans (st2 _ (Steps.refl _))
  have S4 : Steps p.tables e below Ω (T2.setTop (mkF m 5 #[.val (.ref a)] [(.ref a), (.ref ha)])) := by
    refine S3.trans ?_
    refine XS.aloadN X2.here hx rfl (hb hby d7_4) rfl rfl ?_
    exact Steps.refl _
  obtain ⟨T5, X5, e5, st5⟩ := getF X2 hx hZ hown (host := "") (Or.inl (hw _ (List.mem_of_getElem? (i := 20) rfl))) Via.refl e2 P_first (g := (mkF m 5 #[.val (.ref a)] [(.ref a), (.ref ha)])) rfl rfl (hb hby d7_5)
  have S6 : Steps p.tables e below Ω (T5.setTop (mkF m 8 #[.val (.ref a)] [(.int f), (.ref ha)])) := S4.trans (st5 _ (Steps.refl _))
  have hin := own_idx (j := f) (n := 16) b1 b2
  have S7 : Steps p.tables e below Ω (T5.setTop (mkF m 9 #[.val (.ref a)] [(.long (g1 f.toNatClampNeg))])) := S6.trans (own_ldJ X5 hx hZ e5 A1 (j := f) (x := (g1 f.toNatClampNeg)) hin.1 (own_rd g1 f b1 b2) (g := (mkF m 8 #[.val (.ref a)] [(.int f), (.ref ha)])) rfl rfl (hb hby d7_8) _ (Steps.refl _))
  obtain ⟨fs, hr, hrun, hended, hW, hsame⟩ := X5.leave (v := some (.long (g1 f.toNatClampNeg))) (fun h => by rw [Bd.returns] at h; cases h)
  have hfin : Steps p.tables e below Ω (T5.setFrames fs) := by
    refine S7.trans ?_
    exact X5.lreturnOut hx Bd.returns (hb hby d7_9) hr
  rw [hΩ] at hfin
  refine ⟨_, _, hfin, hrun, hended, _, _, rfl, ?_, ⟨_, rfl⟩, hW, hsame.mono (by decide) (by decide)⟩
  show Q7 Z a ha la f en g1 h0 n0 _ T5.heap _
  rw [e5]
  exact ⟨rfl, N0, rfl⟩
theorem d8_0 : decode prog_24_method_6_code 0 = .ok (.aload_n 0, 1) := by decide +kernel
theorem d8_1 : decode prog_24_method_6_code 1 = .ok (.getfield 13, 3) := by decide +kernel
theorem d8_4 : decode prog_24_method_6_code 4 = .ok (.aload_n 0, 1) := by decide +kernel
theorem d8_5 : decode prog_24_method_6_code 5 = .ok (.getfield 16, 3) := by decide +kernel
theorem d8_8 : decode prog_24_method_6_code 8 = .ok (.laload, 1) := by decide +kernel
theorem d8_9 : decode prog_24_method_6_code 9 = .ok (.lreturn, 1) := by decide +kernel
theorem ef_rm8 (m : MethodId) (x0 : Addr) : entryFrame m #[(.ref x0)] 1 = mkF m 0 #[.val (.ref x0)] [] := by first | (simp [entryFrame, mkF, argsToLocals, Value.category]; done) | rfl
def Q8 (Z : State) (a : Addr) (ha : Addr) (la : Addr) (f : Int32) (en : Int32) (g1 : Nat → Int64) (h0 : Heap) (n0 : Nat) (v : Option Value) (h : Heap) (L : List Loc) : Prop := v = some (.long (g1 f.toNatClampNeg)) ∧ Fr n0 L ∧ h = h0
set_option maxRecDepth 65536 in
set_option maxHeartbeats 40000000 in
theorem rm8 (l : Launch) (Z : State) (a0 : Array Value) (hw : ∀ d ∈ tables_1, d.before a0 Z = true) (ws : List Jvm.Cond) (a : Addr) (ha : Addr) (la : Addr) (f : Int32) (en : Int32) (g1 : Nat → Int64) (h0 : Heap) (n0 : Nat) (Z0 : n0 ≤ h0.size) (P_heads : Fld Z h0 a "com/example/arcspan/arcspan/io/ForwardHeads" "heads" "[J" (.ref ha)) (P_lines : Fld Z h0 a "com/example/arcspan/arcspan/io/ForwardHeads" "lines" "[J" (.ref la)) (P_first : Fld Z h0 a "com/example/arcspan/arcspan/io/ForwardHeads" "first" "I" (.int f)) (P_end : Fld Z h0 a "com/example/arcspan/arcspan/io/ForwardHeads" "end" "I" (.int en)) (A1 : LA Z h0 la .long ((List.range 16).map fun i => Value.long (g1 i))) (b1 : 0 ≤ f.toInt) (b2 : f.toInt < 16) :
    MetFree l (⟨"com/example/arcspan/arcspan/io/ForwardHeads", "firstLine", "()J"⟩ : MethodName) (head1 (Jvm.Cond.code (⟨"com/example/arcspan/arcspan/io/ForwardHeads", "firstLine", "()J"⟩ : MethodName) prog_24_method_6_code 1 (some .long) :: ws) ({ frames := 0, cells := 0, slots := 0, locals := 0 } : Room)) (fun aa U => aa = #[(.ref a)] ∧ Z.Warmed39 U.vm ∧ U.heap = h0) (fun _ _ _ _ _ => True) (fun _ U o U' => ∃ v L, o = .returned v ∧ Q8 Z a ha la f en g1 h0 n0 v U'.heap L ∧ FrameEnd U o U' L ({ frames := 0, cells := 0, slots := 0, locals := 0 } : Room).cells ({ frames := 0, cells := 0, slots := 0, locals := 0 } : Room).slots) := by
  refine MetFree.of_bodySF (plainFor_of_name pn_0) hisR ?_
  intro p e s m args below meth c s₁ Bd hml0 hP hK
  obtain ⟨rfl, hZ, hh⟩ := hP
  have hx := Bd.exec
  have hby := Bd.bytes
  have hml : c.maxLocals = 1 := hml0
  have hown : s.vm.findClass "com/example/arcspan/arcspan/io/ForwardHeads" = some m.cls := findClass_of_methodNamed Bd.named
  have hnm := (name_of_methodNamed Bd.named Bd.method).1
  have X0 : Stand p l e ({ frames := 0, cells := 0, slots := 0, locals := 0 } : Room) s m #[(.ref a)] below meth c s₁ [] 0 0 := Stand.of_body Bd
  have e0 : s₁.heap = h0 := by rw [← hh, Bd.state]; rfl
  have N0 := Fr.nil n0
  obtain ⟨Ω, hΩ⟩ : ∃ z, z = s₁.setTop (entryFrame m #[(.ref a)] 1) := ⟨_, rfl⟩
  have S0 : Steps p.tables e below Ω (s₁.setTop (mkF m 0 #[.val (.ref a)] [])) := by rw [hΩ]; exact castTop (ef_rm8 m a) (Steps.refl _)
  have S1 : Steps p.tables e below Ω (s₁.setTop (mkF m 1 #[.val (.ref a)] [(.ref a)])) := by
    refine S0.trans ?_
    refine XS.aloadN X0.here hx rfl (hb hby d8_0) rfl rfl ?_
    exact Steps.refl _
  obtain ⟨T2, X2, e2, st2⟩ := getF X0 hx hZ hown (host := "") (Or.inl (hw _ (List.mem_of_getElem? (i := 12) rfl))) Via.refl e0 P_lines (g := (mkF m 1 #[.val (.ref a)] [(.ref a)])) rfl rfl (hb hby d8_1)
  have S3 : Steps p.tables e below Ω (T2.setTop (mkF m 4 #[.val (.ref a)] [(.ref la)])) := S1.trans (st2 _ (Steps.refl _))
  have S4 : Steps p.tables e below Ω (T2.setTop (mkF m 5 #[.val (.ref a)] [(.ref a), (.ref la)])) := by
    refine S3.trans ?_
    refine XS.aloadN X2.here hx rfl (hb hby d8_4) rfl rfl ?_
    exact Steps.refl _
  obtain ⟨T5, X5, e5, st5⟩ := getF X2 hx hZ hown (host := "") (Or.inl (hw _ (List.mem_of_getElem? (i := 20) rfl))) Via.refl e2 P_first (g := (mkF m 5 #[.val (.ref a)] [(.ref a), (.ref la)])) rfl rfl (hb hby d8_5)
  have S6 : Steps p.tables e below Ω (T5.setTop (mkF m 8 #[.val (.ref a)] [(.int f), (.ref la)])) := S4.trans (st5 _ (Steps.refl _))
  have hin := own_idx (j := f) (n := 16) b1 b2
  have S7 : Steps p.tables e below Ω (T5.setTop (mkF m 9 #[.val (.ref a)] [(.long (g1 f.toNatClampNeg))])) := S6.trans (own_ldJ X5 hx hZ e5 A1 (j := f) (x := (g1 f.toNatClampNeg)) hin.1 (own_rd g1 f b1 b2) (g := (mkF m 8 #[.val (.ref a)] [(.int f), (.ref la)])) rfl rfl (hb hby d8_8) _ (Steps.refl _))
  obtain ⟨fs, hr, hrun, hended, hW, hsame⟩ := X5.leave (v := some (.long (g1 f.toNatClampNeg))) (fun h => by rw [Bd.returns] at h; cases h)
  have hfin : Steps p.tables e below Ω (T5.setFrames fs) := by
    refine S7.trans ?_
    exact X5.lreturnOut hx Bd.returns (hb hby d8_9) hr
  rw [hΩ] at hfin
  refine ⟨_, _, hfin, hrun, hended, _, _, rfl, ?_, ⟨_, rfl⟩, hW, hsame.mono (by decide) (by decide)⟩
  show Q8 Z a ha la f en g1 h0 n0 _ T5.heap _
  rw [e5]
  exact ⟨rfl, N0, rfl⟩
theorem pd_0 : parseMethodDescriptor "()V" = some ⟨[], none⟩ := by decide +kernel
theorem pd_1 : parseMethodDescriptor "(JJ)V" = some ⟨[.long, .long], none⟩ := by decide +kernel
theorem pd_2 : parseMethodDescriptor "(J)V" = some ⟨[.long], none⟩ := by decide +kernel
theorem pd_3 : parseMethodDescriptor "(JJ)J" = some ⟨[.long, .long], some .long⟩ := by decide +kernel
theorem pd_4 : parseMethodDescriptor "()Z" = some ⟨[], some .boolean⟩ := by decide +kernel
theorem pd_5 : parseMethodDescriptor "()J" = some ⟨[], some .long⟩ := by decide +kernel
theorem pn_1 : plainName "com/example/arcspan/arcspan/io/ForwardHeadsReachedPinLaw" = true := by first | (simp [plainName, overriddenIn]; done) | decide +kernel
theorem ef_rm0 (m : MethodId) (x0 : Int64) (x1 : Int64) (x2 : Int64) (x3 : Int64) (x4 : Int64) (x5 : Int32) : entryFrame m #[(.long x0), (.long x1), (.long x2), (.long x3), (.long x4), (.int x5)] maxLocals = mkF m 0 #[.val (.long x0), .second, .val (.long x1), .second, .val (.long x2), .second, .val (.long x3), .second, .val (.long x4), .second, .val (.int x5), .unset, .unset, .unset, .unset, .unset, .unset, .unset, .unset] [] := by first | (simp [entryFrame, mkF, argsToLocals, Value.category, maxLocals]; done) | rfl
def Q0 (Z : State) (q1 : Int64) (q2 : Int64) (q3 : Int64) (w1 : Int64) (w2 : Int64) (kk : Int32) (h0 : Heap) (n0 : Nat) (v : Option Value) (h : Heap) (L : List Loc) : Prop := v = some (.int 1) ∧ Fr n0 L
set_option maxRecDepth 65536 in
set_option maxHeartbeats 40000000 in
theorem rm0 (l : Launch) (Z : State) (a0 : Array Value) (hw : ∀ d ∈ tables_1, d.before a0 Z = true) (ws : List Jvm.Cond) (q1 : Int64) (q2 : Int64) (q3 : Int64) (w1 : Int64) (w2 : Int64) (kk : Int32) (h0 : Heap) (n0 : Nat) (Z0 : n0 ≤ h0.size) :
    MetFree l x (head1 (Jvm.Cond.code x code maxLocals ret :: ws) room_1) (fun aa U => aa = #[(.long q1), (.long q2), (.long q3), (.long w1), (.long w2), (.int kk)] ∧ Z.Warmed39 U.vm ∧ U.heap = h0) (fun _ _ _ _ _ => True) (fun _ U o U' => ∃ v L, o = .returned v ∧ Q0 Z q1 q2 q3 w1 w2 kk h0 n0 v U'.heap L ∧ FrameEnd U o U' L room_1.cells room_1.slots) := by
  refine MetFree.of_bodySF (plainFor_of_name pn_1) hisR ?_
  intro p e s m args below meth c s₁ Bd hml0 hP hK
  obtain ⟨rfl, hZ, hh⟩ := hP
  have hx := Bd.exec
  have hby := Bd.bytes
  have hml : c.maxLocals = 19 := hml0
  have hown : s.vm.findClass "com/example/arcspan/arcspan/io/ForwardHeadsReachedPinLaw" = some m.cls := findClass_of_methodNamed Bd.named
  have hnm := (name_of_methodNamed Bd.named Bd.method).1
  have X0 : Stand p l e room_1 s m #[(.long q1), (.long q2), (.long q3), (.long w1), (.long w2), (.int kk)] below meth c s₁ [] 0 0 := Stand.of_body Bd
  have e0 : s₁.heap = h0 := by rw [← hh, Bd.state]; rfl
  have N0 := Fr.nil n0
  obtain ⟨Ω, hΩ⟩ : ∃ z, z = s₁.setTop (entryFrame m #[(.long q1), (.long q2), (.long q3), (.long w1), (.long w2), (.int kk)] maxLocals) := ⟨_, rfl⟩
  have S0 : Steps p.tables e below Ω (s₁.setTop (mkF m 0 #[.val (.long q1), .second, .val (.long q2), .second, .val (.long q3), .second, .val (.long w1), .second, .val (.long w2), .second, .val (.int kk), .unset, .unset, .unset, .unset, .unset, .unset, .unset, .unset] [])) := by rw [hΩ]; exact castTop (ef_rm0 m q1 q2 q3 w1 w2 kk) (Steps.refl _)
  have S1 : Steps p.tables e below Ω (s₁.setTop (mkF m 6 #[.val (.long q1), .second, .val (.long q2), .second, .val (.long q3), .second, .val (.long w1), .second, .val (.long w2), .second, .val (.int kk), .val (.int (kk &&& (3 : Int32))), .unset, .unset, .unset, .unset, .unset, .unset, .unset] [])) := by
    refine S0.trans ?_
    refine XS.iload X0.here hx rfl (hb hby at_0) rfl ?_
    show Steps p.tables e below (s₁.setTop (mkF m 2 #[.val (.long q1), .second, .val (.long q2), .second, .val (.long q3), .second, .val (.long w1), .second, .val (.long w2), .second, .val (.int kk), .unset, .unset, .unset, .unset, .unset, .unset, .unset, .unset] [(.int kk)])) _
    refine XS.iconst X0.here hx rfl (hb hby at_2) ?_
    show Steps p.tables e below (s₁.setTop (mkF m 3 #[.val (.long q1), .second, .val (.long q2), .second, .val (.long q3), .second, .val (.long w1), .second, .val (.long w2), .second, .val (.int kk), .unset, .unset, .unset, .unset, .unset, .unset, .unset, .unset] [(.int (3 : Int32)), (.int kk)])) _
    refine XS.iand X0.here hx rfl (hb hby at_3) rfl ?_
    show Steps p.tables e below (s₁.setTop (mkF m 4 #[.val (.long q1), .second, .val (.long q2), .second, .val (.long q3), .second, .val (.long w1), .second, .val (.long w2), .second, .val (.int kk), .unset, .unset, .unset, .unset, .unset, .unset, .unset, .unset] [(.int (kk &&& (3 : Int32)))])) _
    refine XS.istore X0.here hx rfl (hb hby at_4) rfl (l' := #[.val (.long q1), .second, .val (.long q2), .second, .val (.long q3), .second, .val (.long w1), .second, .val (.long w2), .second, .val (.int kk), .val (.int (kk &&& (3 : Int32))), .unset, .unset, .unset, .unset, .unset, .unset, .unset]) rfl ?_
    exact Steps.refl _
  obtain ⟨ni, h_ni⟩ : ∃ z : Int32, z = (kk &&& (3 : Int32)) := ⟨_, rfl⟩
  rw [← h_ni] at S1
  have hni := c_and kk (3 : Int32) (by decide)
  rw [← h_ni] at hni
  have e3 : (3 : Int32).toInt = 3 := by decide
  have z0 : (0 : Int32).toInt = 0 := by decide
  have z1 : (1 : Int32).toInt = 1 := by decide
  have z2 : (2 : Int32).toInt = 2 := by decide
  obtain ⟨T2, h2, X2, e2, E2, A2, D2, -, st2⟩ := newO X0 hx hZ hown (hw _ (List.mem_of_getElem? (i := 0) rfl)) (hw _ (List.mem_of_getElem? (i := 1) rfl)) (hw _ (List.mem_of_getElem? (i := 2) rfl)) e0 (g := (mkF m 6 #[.val (.long q1), .second, .val (.long q2), .second, .val (.long q3), .second, .val (.long w1), .second, .val (.long w2), .second, .val (.int kk), .val (.int ni), .unset, .unset, .unset, .unset, .unset, .unset, .unset] [])) rfl (hb hby at_6) (by decide) (by decide)
  obtain ⟨b, s_b⟩ : ∃ z, z = h0.size := ⟨_, rfl⟩
  rw [← s_b] at A2 D2 st2
  have g_b : n0 ≤ b := Nat.le_trans Z0 (Nat.le_of_eq s_b.symm)
  have F_heads_b : Fld Z h2 b "com/example/arcspan/arcspan/io/ForwardHeads" "heads" "[J" .null := D2 (Or.inl (hw _ (List.mem_of_getElem? (i := 11) rfl))) (ty := (.array .long)) (by decide)
  have F_lines_b : Fld Z h2 b "com/example/arcspan/arcspan/io/ForwardHeads" "lines" "[J" .null := D2 (Or.inl (hw _ (List.mem_of_getElem? (i := 13) rfl))) (ty := (.array .long)) (by decide)
  have F_first_b : Fld Z h2 b "com/example/arcspan/arcspan/io/ForwardHeads" "first" "I" (.int (0 : Int32)) := D2 (Or.inl (hw _ (List.mem_of_getElem? (i := 21) rfl))) (ty := .int) (by decide)
  have F_end_b : Fld Z h2 b "com/example/arcspan/arcspan/io/ForwardHeads" "end" "I" (.int (0 : Int32)) := D2 (Or.inl (hw _ (List.mem_of_getElem? (i := 23) rfl))) (ty := .int) (by decide)
  have S3 : Steps p.tables e below Ω (T2.setTop (mkF m 9 #[.val (.long q1), .second, .val (.long q2), .second, .val (.long q3), .second, .val (.long w1), .second, .val (.long w2), .second, .val (.int kk), .val (.int ni), .unset, .unset, .unset, .unset, .unset, .unset, .unset] [(.ref b)])) := S1.trans (st2 _ (Steps.refl _))
  have S4 : Steps p.tables e below Ω (T2.setTop (mkF m 10 #[.val (.long q1), .second, .val (.long q2), .second, .val (.long q3), .second, .val (.long w1), .second, .val (.long w2), .second, .val (.int kk), .val (.int ni), .unset, .unset, .unset, .unset, .unset, .unset, .unset] [(.ref b), (.ref b)])) := by
    refine S3.trans ?_
    refine XS.dup X2.here hx rfl (hb hby at_9) rfl rfl ?_
    exact Steps.refl _
  obtain ⟨v5, T5, L5, X5, hQ5, st5⟩ := own_callN X2 hx (y := (⟨"com/example/arcspan/arcspan/io/ForwardHeads", "<init>", "()V"⟩ : MethodName)) rfl hown (mvT hZ (hw _ (List.mem_of_getElem? (i := 3) rfl))) (mvT hZ (hw _ (List.mem_of_getElem? (i := 4) rfl))) (mvT hZ (hw _ (List.mem_of_getElem? (i := 5) rfl))) (by decide) (backOf (W := 1) (rm1 l Z a0 hw [] b  h2 n0 (Nat.le_trans Z0 E2.1) A2 F_heads_b F_lines_b F_first_b F_end_b g_b) hZ (hw _ (List.mem_of_getElem? (i := 5) rfl)) (hw _ (List.mem_of_getElem? (i := 2) rfl)) (by decide) (by decide)) (g := (mkF m 10 #[.val (.long q1), .second, .val (.long q2), .second, .val (.long q3), .second, .val (.long w1), .second, .val (.long w2), .second, .val (.int kk), .val (.int ni), .unset, .unset, .unset, .unset, .unset, .unset, .unset] [(.ref b), (.ref b)])) rfl (by rw [hml]; rfl) (a := b) (argsL := []) (rest := [(.ref b)]) (lenOf pd_0 rfl) rfl (by show 2 * 0 + _ ≤ _; exact Nat.le_of_eq rfl) (hb hby at_10) ⟨rfl, e2, (by decide : 1 + 2 ≤ _), (by decide : 4 + 32 ≤ _)⟩
  obtain ⟨ha, la, hv5, N5q, K5, E5, Ph, Pl, Pf, Pe, LH, LL, gha, gla, d1, d2, d3⟩ := hQ5
  rw [hv5] at st5
  have N5 := Fr.app N0 N5q
  have S6 : Steps p.tables e below Ω (T5.setTop (mkF m 13 #[.val (.long q1), .second, .val (.long q2), .second, .val (.long q3), .second, .val (.long w1), .second, .val (.long w2), .second, .val (.int kk), .val (.int ni), .unset, .unset, .unset, .unset, .unset, .unset, .unset] [(.ref b)])) := S4.trans st5
  have eH : T5.heap = T5.heap := rfl
  have S7 : Steps p.tables e below Ω (T5.setTop (mkF m 16 #[.val (.long q1), .second, .val (.long q2), .second, .val (.long q3), .second, .val (.long w1), .second, .val (.long w2), .second, .val (.int kk), .val (.int ni), .val (.ref b), .unset, .unset, .unset, .unset, .unset, .unset] [(.int (3 : Int32))])) := by
    refine S6.trans ?_
    refine XS.astore X5.here hx rfl (hb hby at_13) rfl rfl (l' := #[.val (.long q1), .second, .val (.long q2), .second, .val (.long q3), .second, .val (.long w1), .second, .val (.long w2), .second, .val (.int kk), .val (.int ni), .val (.ref b), .unset, .unset, .unset, .unset, .unset, .unset]) rfl ?_
    show Steps p.tables e below (T5.setTop (mkF m 15 #[.val (.long q1), .second, .val (.long q2), .second, .val (.long q3), .second, .val (.long w1), .second, .val (.long w2), .second, .val (.int kk), .val (.int ni), .val (.ref b), .unset, .unset, .unset, .unset, .unset, .unset] [])) _
    refine XS.iconst X5.here hx rfl (hb hby at_15) ?_
    exact Steps.refl _
  obtain ⟨T8, h8, k8, X8, e8, E8, A8, st8⟩ := newP X5 hx hZ (hw _ (List.mem_of_getElem? (i := 9) rfl)) rfl (g := (mkF m 16 #[.val (.long q1), .second, .val (.long q2), .second, .val (.long q3), .second, .val (.long w1), .second, .val (.long w2), .second, .val (.int kk), .val (.int ni), .val (.ref b), .unset, .unset, .unset, .unset, .unset, .unset] [(.int (3 : Int32))])) rfl (hb hby at_16) rfl (by decide) (cap := 3) (by decide) (by decide) (by decide) (by decide)
  obtain ⟨kh, s_kh⟩ : ∃ z, z = T5.heap.size := ⟨_, rfl⟩
  rw [← s_kh] at A8 st8
  have g_kh : n0 ≤ kh := Nat.le_trans (Nat.le_trans (Nat.le_trans Z0 E2.1) K5.1) (Nat.le_of_eq s_kh.symm)
  have S9 : Steps p.tables e below Ω (T8.setTop (mkF m 18 #[.val (.long q1), .second, .val (.long q2), .second, .val (.long q3), .second, .val (.long w1), .second, .val (.long w2), .second, .val (.int kk), .val (.int ni), .val (.ref b), .unset, .unset, .unset, .unset, .unset, .unset] [(.ref kh)])) := S7.trans (st8 _ (Steps.refl _))
  have VK : LA Z h8 kh .long [(.long (0 : Int64)), (.long (0 : Int64)), (.long (0 : Int64))] := LA.new A8 3 rfl
  have x1 : ha ≠ kh := Nat.ne_of_lt (Nat.lt_of_lt_of_le LH.lt (Nat.le_of_eq s_kh.symm))
  have x2 : la ≠ kh := Nat.ne_of_lt (Nat.lt_of_lt_of_le LL.lt (Nat.le_of_eq s_kh.symm))
  have x3 : b ≠ kh := Nat.ne_of_lt (Nat.lt_of_lt_of_le E5.lt (Nat.le_of_eq s_kh.symm))
  have LH1 := LH.ext E8
  have LL1 := LL.ext E8
  have E_b_8 := (E5).ext E8
  have F_heads_b_8 : Fld Z h8 b "com/example/arcspan/arcspan/io/ForwardHeads" "heads" "[J" (.ref ha) := (Ph).ext E8
  have F_lines_b_8 : Fld Z h8 b "com/example/arcspan/arcspan/io/ForwardHeads" "lines" "[J" (.ref la) := (Pl).ext E8
  have F_first_b_8 : Fld Z h8 b "com/example/arcspan/arcspan/io/ForwardHeads" "first" "I" (.int (0 : Int32)) := (Pf).ext E8
  have F_end_b_8 : Fld Z h8 b "com/example/arcspan/arcspan/io/ForwardHeads" "end" "I" (.int (0 : Int32)) := (Pe).ext E8
  have S10 : Steps p.tables e below Ω (T8.setTop (mkF m 21 #[.val (.long q1), .second, .val (.long q2), .second, .val (.long q3), .second, .val (.long w1), .second, .val (.long w2), .second, .val (.int kk), .val (.int ni), .val (.ref b), .val (.ref kh), .unset, .unset, .unset, .unset, .unset] [(.int (3 : Int32))])) := by
    refine S9.trans ?_
    refine XS.astore X8.here hx rfl (hb hby at_18) rfl rfl (l' := #[.val (.long q1), .second, .val (.long q2), .second, .val (.long q3), .second, .val (.long w1), .second, .val (.long w2), .second, .val (.int kk), .val (.int ni), .val (.ref b), .val (.ref kh), .unset, .unset, .unset, .unset, .unset]) rfl ?_
    show Steps p.tables e below (T8.setTop (mkF m 20 #[.val (.long q1), .second, .val (.long q2), .second, .val (.long q3), .second, .val (.long w1), .second, .val (.long w2), .second, .val (.int kk), .val (.int ni), .val (.ref b), .val (.ref kh), .unset, .unset, .unset, .unset, .unset] [])) _
    refine XS.iconst X8.here hx rfl (hb hby at_20) ?_
    exact Steps.refl _
  obtain ⟨T11, h11, k11, X11, e11, E11, A11, st11⟩ := newP X8 hx hZ (hw _ (List.mem_of_getElem? (i := 9) rfl)) e8 (g := (mkF m 21 #[.val (.long q1), .second, .val (.long q2), .second, .val (.long q3), .second, .val (.long w1), .second, .val (.long w2), .second, .val (.int kk), .val (.int ni), .val (.ref b), .val (.ref kh), .unset, .unset, .unset, .unset, .unset] [(.int (3 : Int32))])) rfl (hb hby at_21) rfl (by decide) (cap := 3) (by decide) (by decide) (by decide) (by decide)
  obtain ⟨kl, s_kl⟩ : ∃ z, z = h8.size := ⟨_, rfl⟩
  rw [← s_kl] at A11 st11
  have g_kl : n0 ≤ kl := Nat.le_trans (Nat.le_trans (Nat.le_trans (Nat.le_trans Z0 E2.1) K5.1) E8.1) (Nat.le_of_eq s_kl.symm)
  have S12 : Steps p.tables e below Ω (T11.setTop (mkF m 23 #[.val (.long q1), .second, .val (.long q2), .second, .val (.long q3), .second, .val (.long w1), .second, .val (.long w2), .second, .val (.int kk), .val (.int ni), .val (.ref b), .val (.ref kh), .unset, .unset, .unset, .unset, .unset] [(.ref kl)])) := S10.trans (st11 _ (Steps.refl _))
  have VL : LA Z h11 kl .long [(.long (0 : Int64)), (.long (0 : Int64)), (.long (0 : Int64))] := LA.new A11 3 rfl
  have x4 : ha ≠ kl := Nat.ne_of_lt (Nat.lt_of_lt_of_le LH1.lt (Nat.le_of_eq s_kl.symm))
  have x5 : la ≠ kl := Nat.ne_of_lt (Nat.lt_of_lt_of_le LL1.lt (Nat.le_of_eq s_kl.symm))
  have x6 : b ≠ kl := Nat.ne_of_lt (Nat.lt_of_lt_of_le (E_b_8).lt (Nat.le_of_eq s_kl.symm))
  have x7 : kh ≠ kl := Nat.ne_of_lt (Nat.lt_of_lt_of_le VK.lt (Nat.le_of_eq s_kl.symm))
  have LH2 := LH1.ext E11
  have LL2 := LL1.ext E11
  have VK2 := VK.ext E11
  have E_b_11 := (E_b_8).ext E11
  have F_heads_b_11 : Fld Z h11 b "com/example/arcspan/arcspan/io/ForwardHeads" "heads" "[J" (.ref ha) := (F_heads_b_8).ext E11
  have F_lines_b_11 : Fld Z h11 b "com/example/arcspan/arcspan/io/ForwardHeads" "lines" "[J" (.ref la) := (F_lines_b_8).ext E11
  have F_first_b_11 : Fld Z h11 b "com/example/arcspan/arcspan/io/ForwardHeads" "first" "I" (.int (0 : Int32)) := (F_first_b_8).ext E11
  have F_end_b_11 : Fld Z h11 b "com/example/arcspan/arcspan/io/ForwardHeads" "end" "I" (.int (0 : Int32)) := (F_end_b_8).ext E11
  have S13 : Steps p.tables e below Ω (T11.setTop (mkF m 28 #[.val (.long q1), .second, .val (.long q2), .second, .val (.long q3), .second, .val (.long w1), .second, .val (.long w2), .second, .val (.int kk), .val (.int ni), .val (.ref b), .val (.ref kh), .val (.ref kl), .val (.int (0 : Int32)), .unset, .unset, .unset] [])) := by
    refine S12.trans ?_
    refine XS.astore X11.here hx rfl (hb hby at_23) rfl rfl (l' := #[.val (.long q1), .second, .val (.long q2), .second, .val (.long q3), .second, .val (.long w1), .second, .val (.long w2), .second, .val (.int kk), .val (.int ni), .val (.ref b), .val (.ref kh), .val (.ref kl), .unset, .unset, .unset, .unset]) rfl ?_
    show Steps p.tables e below (T11.setTop (mkF m 25 #[.val (.long q1), .second, .val (.long q2), .second, .val (.long q3), .second, .val (.long w1), .second, .val (.long w2), .second, .val (.int kk), .val (.int ni), .val (.ref b), .val (.ref kh), .val (.ref kl), .unset, .unset, .unset, .unset] [])) _
    refine XS.iconst X11.here hx rfl (hb hby at_25) ?_
    show Steps p.tables e below (T11.setTop (mkF m 26 #[.val (.long q1), .second, .val (.long q2), .second, .val (.long q3), .second, .val (.long w1), .second, .val (.long w2), .second, .val (.int kk), .val (.int ni), .val (.ref b), .val (.ref kh), .val (.ref kl), .unset, .unset, .unset, .unset] [(.int (0 : Int32))])) _
    refine XS.istore X11.here hx rfl (hb hby at_26) rfl (l' := #[.val (.long q1), .second, .val (.long q2), .second, .val (.long q3), .second, .val (.long w1), .second, .val (.long w2), .second, .val (.int kk), .val (.int ni), .val (.ref b), .val (.ref kh), .val (.ref kl), .val (.int (0 : Int32)), .unset, .unset, .unset]) rfl ?_
    exact Steps.refl _
  obtain ⟨Tm, hm, Lm, en, g1, g2, k0, k1, k2, l0, l1, l2, Xm, em, Nm, Zm, Em, Mh, Ml, Mf, Me, MH, ML, MK, MVL, c1, c2, c3, c4, c5, Sm⟩ : ∃ (T : State) (hh : Heap) (Lo : List Loc) (en : Int32) (g1 g2 : Nat → Int64) (k0 k1 k2 l0 l1 l2 : Int64), Stand p l e room_1 s m #[(.long q1), (.long q2), (.long q3), (.long w1), (.long w2), (.int kk)] below meth c T Lo 5 42 ∧ T.heap = hh ∧ Fr n0 Lo ∧ n0 ≤ hh.size ∧ Exa Z hh b "com/example/arcspan/arcspan/io/ForwardHeads" ∧ Fld Z hh b "com/example/arcspan/arcspan/io/ForwardHeads" "heads" "[J" (.ref ha) ∧ Fld Z hh b "com/example/arcspan/arcspan/io/ForwardHeads" "lines" "[J" (.ref la) ∧ Fld Z hh b "com/example/arcspan/arcspan/io/ForwardHeads" "first" "I" (.int (0 : Int32)) ∧ Fld Z hh b "com/example/arcspan/arcspan/io/ForwardHeads" "end" "I" (.int en) ∧ LA Z hh ha .long ((List.range 16).map fun i => Value.long (g1 i)) ∧ LA Z hh la .long ((List.range 16).map fun i => Value.long (g2 i)) ∧ LA Z hh kh .long [(.long k0), (.long k1), (.long k2)] ∧ LA Z hh kl .long [(.long l0), (.long l1), (.long l2)] ∧ 0 ≤ en.toInt ∧ en.toInt ≤ 3 ∧ (1 ≤ en.toInt → g1 0 = k0 ∧ g2 0 = l0) ∧ (2 ≤ en.toInt → g1 1 = k1 ∧ g2 1 = l1 ∧ k0.toInt < k1.toInt) ∧ (3 ≤ en.toInt → g1 2 = k2 ∧ g2 2 = l2 ∧ k1.toInt < k2.toInt) ∧ Steps p.tables e below Ω (T.setTop (mkF m 149 #[.val (.long q1), .second, .val (.long q2), .second, .val (.long q3), .second, .val (.long w1), .second, .val (.long w2), .second, .val (.int kk), .val (.int ni), .val (.ref b), .val (.ref kh), .val (.ref kl), .val (.int en), .unset, .unset, .unset] [])) := by
    have S14 : Steps p.tables e below Ω (T11.setTop (mkF m 31 #[.val (.long q1), .second, .val (.long q2), .second, .val (.long q3), .second, .val (.long w1), .second, .val (.long w2), .second, .val (.int kk), .val (.int ni), .val (.ref b), .val (.ref kh), .val (.ref kl), .val (.int (0 : Int32)), .unset, .unset, .unset] [(.int (1 : Int32)), (.int ni)])) := by
      refine S13.trans ?_
      refine XS.iload X11.here hx rfl (hb hby at_28) rfl ?_
      show Steps p.tables e below (T11.setTop (mkF m 30 #[.val (.long q1), .second, .val (.long q2), .second, .val (.long q3), .second, .val (.long w1), .second, .val (.long w2), .second, .val (.int kk), .val (.int ni), .val (.ref b), .val (.ref kh), .val (.ref kl), .val (.int (0 : Int32)), .unset, .unset, .unset] [(.int ni)])) _
      refine XS.iconst X11.here hx rfl (hb hby at_30) ?_
      exact Steps.refl _
    by_cases hA : ni < (1 : Int32)
    · have qhA : ni.toInt < 1 := Int32.lt_iff_toInt_lt.mp hA
      have S15 : Steps p.tables e below Ω (T11.setTop (mkF m 149 #[.val (.long q1), .second, .val (.long q2), .second, .val (.long q3), .second, .val (.long w1), .second, .val (.long w2), .second, .val (.int kk), .val (.int ni), .val (.ref b), .val (.ref kh), .val (.ref kl), .val (.int (0 : Int32)), .unset, .unset, .unset] [])) := by
        refine S14.trans ?_
        refine XS.icmpYes X11.here hx rfl (pc0 := 31) (pc' := 58) rfl (hb hby at_31) rfl (XT.ii_lt_t hA) (by decide) (by decide) ?_
        show Steps p.tables e below (T11.setTop (mkF m 58 #[.val (.long q1), .second, .val (.long q2), .second, .val (.long q3), .second, .val (.long w1), .second, .val (.long w2), .second, .val (.int kk), .val (.int ni), .val (.ref b), .val (.ref kh), .val (.ref kl), .val (.int (0 : Int32)), .unset, .unset, .unset] [])) _
        refine XS.iload X11.here hx rfl (hb hby at_58) rfl ?_
        show Steps p.tables e below (T11.setTop (mkF m 60 #[.val (.long q1), .second, .val (.long q2), .second, .val (.long q3), .second, .val (.long w1), .second, .val (.long w2), .second, .val (.int kk), .val (.int ni), .val (.ref b), .val (.ref kh), .val (.ref kl), .val (.int (0 : Int32)), .unset, .unset, .unset] [(.int ni)])) _
        refine XS.iconst X11.here hx rfl (hb hby at_60) ?_
        show Steps p.tables e below (T11.setTop (mkF m 61 #[.val (.long q1), .second, .val (.long q2), .second, .val (.long q3), .second, .val (.long w1), .second, .val (.long w2), .second, .val (.int kk), .val (.int ni), .val (.ref b), .val (.ref kh), .val (.ref kl), .val (.int (0 : Int32)), .unset, .unset, .unset] [(.int (2 : Int32)), (.int ni)])) _
        refine XS.icmpYes X11.here hx rfl (pc0 := 61) (pc' := 102) rfl (hb hby at_61) rfl (XT.ii_lt_t (own_lt32 (by omega))) (by decide) (by decide) ?_
        show Steps p.tables e below (T11.setTop (mkF m 102 #[.val (.long q1), .second, .val (.long q2), .second, .val (.long q3), .second, .val (.long w1), .second, .val (.long w2), .second, .val (.int kk), .val (.int ni), .val (.ref b), .val (.ref kh), .val (.ref kl), .val (.int (0 : Int32)), .unset, .unset, .unset] [])) _
        refine XS.iload X11.here hx rfl (hb hby at_102) rfl ?_
        show Steps p.tables e below (T11.setTop (mkF m 104 #[.val (.long q1), .second, .val (.long q2), .second, .val (.long q3), .second, .val (.long w1), .second, .val (.long w2), .second, .val (.int kk), .val (.int ni), .val (.ref b), .val (.ref kh), .val (.ref kl), .val (.int (0 : Int32)), .unset, .unset, .unset] [(.int ni)])) _
        refine XS.iconst X11.here hx rfl (hb hby at_104) ?_
        show Steps p.tables e below (T11.setTop (mkF m 105 #[.val (.long q1), .second, .val (.long q2), .second, .val (.long q3), .second, .val (.long w1), .second, .val (.long w2), .second, .val (.int kk), .val (.int ni), .val (.ref b), .val (.ref kh), .val (.ref kl), .val (.int (0 : Int32)), .unset, .unset, .unset] [(.int (3 : Int32)), (.int ni)])) _
        refine XS.icmpYes X11.here hx rfl (pc0 := 105) (pc' := 149) rfl (hb hby at_105) rfl (XT.ii_lt_t (own_lt32 (by omega))) (by decide) (by decide) ?_
        exact Steps.refl _
      exact ⟨T11, _, _, (0 : Int32), (fun _ => (0 : Int64)), (fun _ => (0 : Int64)), (0 : Int64), (0 : Int64), (0 : Int64), (0 : Int64), (0 : Int64), (0 : Int64), X11, e11, N5, (Nat.le_trans (Nat.le_trans (Nat.le_trans (Nat.le_trans Z0 E2.1) K5.1) E8.1) E11.1), E_b_11, F_heads_b_11, F_lines_b_11, F_first_b_11, F_end_b_11, LH2, LL2, VK2, VL, by decide, by decide, (fun z => absurd z (by decide)), (fun z => absurd z (by decide)), (fun z => absurd z (by decide)), S15⟩
    · have qhA : ¬ ni.toInt < 1 := fun q => hA (Int32.lt_iff_toInt_lt.mpr q)
      have S16 : Steps p.tables e below Ω (T11.setTop (mkF m 34 #[.val (.long q1), .second, .val (.long q2), .second, .val (.long q3), .second, .val (.long w1), .second, .val (.long w2), .second, .val (.int kk), .val (.int ni), .val (.ref b), .val (.ref kh), .val (.ref kl), .val (.int (0 : Int32)), .unset, .unset, .unset] [])) := by
        refine S14.trans ?_
        refine XS.icmpNo X11.here hx rfl (hb hby at_31) rfl (XT.ii_lt_f hA) ?_
        exact Steps.refl _
      have zz0 : ¬ (0 : Int32) < (0 : Int32) := by decide
      have S17 : Steps p.tables e below Ω (T11.setTop (mkF m 40 #[.val (.long q1), .second, .val (.long q2), .second, .val (.long q3), .second, .val (.long w1), .second, .val (.long w2), .second, .val (.int kk), .val (.int ni), .val (.ref b), .val (.ref kh), .val (.ref kl), .val (.int (0 : Int32)), .unset, .unset, .unset] [(.long (11 : Int64)), (.long q1), (.ref b)])) := by
        refine S16.trans ?_
        refine XS.aload X11.here hx rfl (hb hby at_34) rfl rfl ?_
        show Steps p.tables e below (T11.setTop (mkF m 36 #[.val (.long q1), .second, .val (.long q2), .second, .val (.long q3), .second, .val (.long w1), .second, .val (.long w2), .second, .val (.int kk), .val (.int ni), .val (.ref b), .val (.ref kh), .val (.ref kl), .val (.int (0 : Int32)), .unset, .unset, .unset] [(.ref b)])) _
        refine XS.lloadN X11.here hx rfl (hb hby at_36) rfl ?_
        show Steps p.tables e below (T11.setTop (mkF m 37 #[.val (.long q1), .second, .val (.long q2), .second, .val (.long q3), .second, .val (.long w1), .second, .val (.long w2), .second, .val (.int kk), .val (.int ni), .val (.ref b), .val (.ref kh), .val (.ref kl), .val (.int (0 : Int32)), .unset, .unset, .unset] [(.long q1), (.ref b)])) _
        refine X11.ldc2Long hx hown (mvT hZ (hw _ (List.mem_of_getElem? (i := 14) rfl))) (g := (mkF m 37 #[.val (.long q1), .second, .val (.long q2), .second, .val (.long q3), .second, .val (.long w1), .second, .val (.long w2), .second, .val (.int kk), .val (.int ni), .val (.ref b), .val (.ref kh), .val (.ref kl), .val (.int (0 : Int32)), .unset, .unset, .unset] [(.long q1), (.ref b)])) rfl (hb hby at_37) _ ?_
        exact Steps.refl _
      obtain ⟨cq18, kq18, q18a, q18b, q18c⟩ := isOf hZ e11 E_b_11
      obtain ⟨v18, T18, L18, X18, hQ18, st18⟩ := own_callV X11 hx (y := (⟨"com/example/arcspan/arcspan/io/ForwardHeads", "add", "(JJ)V"⟩ : MethodName)) hown (mvT hZ (hw _ (List.mem_of_getElem? (i := 15) rfl))) (mvT hZ (hw _ (List.mem_of_getElem? (i := 16) rfl))) (mvT hZ (hw _ (List.mem_of_getElem? (i := 18) rfl))) (mvT hZ (hw _ (List.mem_of_getElem? (i := 17) rfl))) (by decide) (backOf (W := 0) (rm2p l Z a0 hw [] b q1 (11 : Int64) ha la (0 : Int32) (0 : Int32) (fun _ => (0 : Int64)) (fun _ => (0 : Int64)) h11 n0 (Nat.le_trans (Nat.le_trans (Nat.le_trans (Nat.le_trans Z0 E2.1) K5.1) E8.1) E11.1) E_b_11 F_heads_b_11 F_lines_b_11 F_first_b_11 F_end_b_11 LH2 LL2 g_b gha gla d1 d2 d3 (by decide) (by decide) (fun z => absurd z zz0)) hZ (hw _ (List.mem_of_getElem? (i := 19) rfl)) (hw _ (List.mem_of_getElem? (i := 2) rfl)) (by decide) (by decide)) q18a q18c (g := (mkF m 40 #[.val (.long q1), .second, .val (.long q2), .second, .val (.long q3), .second, .val (.long w1), .second, .val (.long w2), .second, .val (.int kk), .val (.int ni), .val (.ref b), .val (.ref kh), .val (.ref kl), .val (.int (0 : Int32)), .unset, .unset, .unset] [(.long (11 : Int64)), (.long q1), (.ref b)])) rfl (by rw [hml]; rfl) (argsL := [(.long q1), (.long (11 : Int64))]) (rest := []) (lenOf pd_1 rfl) rfl (by show 2 * 0 + _ ≤ _; exact Nat.le_of_eq rfl) (hb hby at_40) ⟨rfl, e11, (by decide : 5 + 0 ≤ _), (by decide : 42 + 0 ≤ _)⟩
      obtain ⟨hv18, N18q, K18, E18, Ph18, Pl18, Pf18, Pe18, LH18, LL18⟩ := hQ18
      rw [hv18] at st18
      have N18 := Fr.app N5 N18q
      have S19 : Steps p.tables e below Ω (T18.setTop (mkF m 43 #[.val (.long q1), .second, .val (.long q2), .second, .val (.long q3), .second, .val (.long w1), .second, .val (.long w2), .second, .val (.int kk), .val (.int ni), .val (.ref b), .val (.ref kh), .val (.ref kl), .val (.int (0 : Int32)), .unset, .unset, .unset] [])) := S17.trans st18
      have VK18 := VK2.keep K18 (ninS (Ne.symm x3) (ninS (Ne.symm x1) (ninS (Ne.symm x2) nin0)))
      have VL18 := VL.keep K18 (ninS (Ne.symm x6) (ninS (Ne.symm x4) (ninS (Ne.symm x5) nin0)))
      have S20 : Steps p.tables e below Ω (T18.setTop (mkF m 47 #[.val (.long q1), .second, .val (.long q2), .second, .val (.long q3), .second, .val (.long w1), .second, .val (.long w2), .second, .val (.int kk), .val (.int ni), .val (.ref b), .val (.ref kh), .val (.ref kl), .val (.int (0 : Int32)), .unset, .unset, .unset] [(.long q1), (.int (0 : Int32)), (.ref kh)])) := by
        refine S19.trans ?_
        refine XS.aload X18.here hx rfl (hb hby at_43) rfl rfl ?_
        show Steps p.tables e below (T18.setTop (mkF m 45 #[.val (.long q1), .second, .val (.long q2), .second, .val (.long q3), .second, .val (.long w1), .second, .val (.long w2), .second, .val (.int kk), .val (.int ni), .val (.ref b), .val (.ref kh), .val (.ref kl), .val (.int (0 : Int32)), .unset, .unset, .unset] [(.ref kh)])) _
        refine XS.iconst X18.here hx rfl (hb hby at_45) ?_
        show Steps p.tables e below (T18.setTop (mkF m 46 #[.val (.long q1), .second, .val (.long q2), .second, .val (.long q3), .second, .val (.long w1), .second, .val (.long w2), .second, .val (.int kk), .val (.int ni), .val (.ref b), .val (.ref kh), .val (.ref kl), .val (.int (0 : Int32)), .unset, .unset, .unset] [(.int (0 : Int32)), (.ref kh)])) _
        refine XS.lloadN X18.here hx rfl (hb hby at_46) rfl ?_
        exact Steps.refl _
      obtain ⟨T21, h21, X21, e21, W21, V21', st21⟩ := own_stJ X18 hx hZ rfl VK18 (j := (0 : Int32)) (i := 0) rfl ⟨by decide, Nat.le_of_ble_eq_true rfl⟩ (g := (mkF m 47 #[.val (.long q1), .second, .val (.long q2), .second, .val (.long q3), .second, .val (.long w1), .second, .val (.long w2), .second, .val (.int kk), .val (.int ni), .val (.ref b), .val (.ref kh), .val (.ref kl), .val (.int (0 : Int32)), .unset, .unset, .unset] [(.long q1), (.int (0 : Int32)), (.ref kh)])) rfl rfl (hb hby at_47)
      have V21 : LA Z h21 kh .long [(.long q1), (.long (0 : Int64)), (.long (0 : Int64))] := V21'
      have S22 : Steps p.tables e below Ω (T21.setTop (mkF m 48 #[.val (.long q1), .second, .val (.long q2), .second, .val (.long q3), .second, .val (.long w1), .second, .val (.long w2), .second, .val (.int kk), .val (.int ni), .val (.ref b), .val (.ref kh), .val (.ref kl), .val (.int (0 : Int32)), .unset, .unset, .unset] [])) := S20.trans (st21 _ (Steps.refl _))
      have N21 := Fr.snoc X21 N18 g_kh
      have LH_21 := LH18.other W21 x1
      have LL_21 := LL18.other W21 x2
      have VL_21 := VL18.other W21 (Ne.symm x7)
      have E_b_21 := (E18).wr W21
      have F_heads_b_21 : Fld Z h21 b "com/example/arcspan/arcspan/io/ForwardHeads" "heads" "[J" (.ref ha) := (Ph18).other W21 (Or.inl x3)
      have F_lines_b_21 : Fld Z h21 b "com/example/arcspan/arcspan/io/ForwardHeads" "lines" "[J" (.ref la) := (Pl18).other W21 (Or.inl x3)
      have F_first_b_21 : Fld Z h21 b "com/example/arcspan/arcspan/io/ForwardHeads" "first" "I" (.int (0 : Int32)) := (Pf18).other W21 (Or.inl x3)
      have F_end_b_21 : Fld Z h21 b "com/example/arcspan/arcspan/io/ForwardHeads" "end" "I" (.int (1 : Int32)) := (Pe18).other W21 (Or.inl x3)
      have S23 : Steps p.tables e below Ω (T21.setTop (mkF m 54 #[.val (.long q1), .second, .val (.long q2), .second, .val (.long q3), .second, .val (.long w1), .second, .val (.long w2), .second, .val (.int kk), .val (.int ni), .val (.ref b), .val (.ref kh), .val (.ref kl), .val (.int (0 : Int32)), .unset, .unset, .unset] [(.long (11 : Int64)), (.int (0 : Int32)), (.ref kl)])) := by
        refine S22.trans ?_
        refine XS.aload X21.here hx rfl (hb hby at_48) rfl rfl ?_
        show Steps p.tables e below (T21.setTop (mkF m 50 #[.val (.long q1), .second, .val (.long q2), .second, .val (.long q3), .second, .val (.long w1), .second, .val (.long w2), .second, .val (.int kk), .val (.int ni), .val (.ref b), .val (.ref kh), .val (.ref kl), .val (.int (0 : Int32)), .unset, .unset, .unset] [(.ref kl)])) _
        refine XS.iconst X21.here hx rfl (hb hby at_50) ?_
        show Steps p.tables e below (T21.setTop (mkF m 51 #[.val (.long q1), .second, .val (.long q2), .second, .val (.long q3), .second, .val (.long w1), .second, .val (.long w2), .second, .val (.int kk), .val (.int ni), .val (.ref b), .val (.ref kh), .val (.ref kl), .val (.int (0 : Int32)), .unset, .unset, .unset] [(.int (0 : Int32)), (.ref kl)])) _
        refine X21.ldc2Long hx hown (mvT hZ (hw _ (List.mem_of_getElem? (i := 14) rfl))) (g := (mkF m 51 #[.val (.long q1), .second, .val (.long q2), .second, .val (.long q3), .second, .val (.long w1), .second, .val (.long w2), .second, .val (.int kk), .val (.int ni), .val (.ref b), .val (.ref kh), .val (.ref kl), .val (.int (0 : Int32)), .unset, .unset, .unset] [(.int (0 : Int32)), (.ref kl)])) rfl (hb hby at_51) _ ?_
        exact Steps.refl _
      obtain ⟨T24, h24, X24, e24, W24, V24', st24⟩ := own_stJ X21 hx hZ e21 VL_21 (j := (0 : Int32)) (i := 0) rfl ⟨by decide, Nat.le_of_ble_eq_true rfl⟩ (g := (mkF m 54 #[.val (.long q1), .second, .val (.long q2), .second, .val (.long q3), .second, .val (.long w1), .second, .val (.long w2), .second, .val (.int kk), .val (.int ni), .val (.ref b), .val (.ref kh), .val (.ref kl), .val (.int (0 : Int32)), .unset, .unset, .unset] [(.long (11 : Int64)), (.int (0 : Int32)), (.ref kl)])) rfl rfl (hb hby at_54)
      have V24 : LA Z h24 kl .long [(.long (11 : Int64)), (.long (0 : Int64)), (.long (0 : Int64))] := V24'
      have S25 : Steps p.tables e below Ω (T24.setTop (mkF m 55 #[.val (.long q1), .second, .val (.long q2), .second, .val (.long q3), .second, .val (.long w1), .second, .val (.long w2), .second, .val (.int kk), .val (.int ni), .val (.ref b), .val (.ref kh), .val (.ref kl), .val (.int (0 : Int32)), .unset, .unset, .unset] [])) := S23.trans (st24 _ (Steps.refl _))
      have N24 := Fr.snoc X24 N21 g_kl
      have LH_24 := LH_21.other W24 x4
      have LL_24 := LL_21.other W24 x5
      have VK_24 := V21.other W24 x7
      have E_b_24 := (E_b_21).wr W24
      have F_heads_b_24 : Fld Z h24 b "com/example/arcspan/arcspan/io/ForwardHeads" "heads" "[J" (.ref ha) := (F_heads_b_21).other W24 (Or.inl x6)
      have F_lines_b_24 : Fld Z h24 b "com/example/arcspan/arcspan/io/ForwardHeads" "lines" "[J" (.ref la) := (F_lines_b_21).other W24 (Or.inl x6)
      have F_first_b_24 : Fld Z h24 b "com/example/arcspan/arcspan/io/ForwardHeads" "first" "I" (.int (0 : Int32)) := (F_first_b_21).other W24 (Or.inl x6)
      have F_end_b_24 : Fld Z h24 b "com/example/arcspan/arcspan/io/ForwardHeads" "end" "I" (.int (1 : Int32)) := (F_end_b_21).other W24 (Or.inl x6)
      have S26 : Steps p.tables e below Ω (T24.setTop (mkF m 61 #[.val (.long q1), .second, .val (.long q2), .second, .val (.long q3), .second, .val (.long w1), .second, .val (.long w2), .second, .val (.int kk), .val (.int ni), .val (.ref b), .val (.ref kh), .val (.ref kl), .val (.int (1 : Int32)), .unset, .unset, .unset] [(.int (2 : Int32)), (.int ni)])) := by
        refine S25.trans ?_
        refine XS.iconst X24.here hx rfl (hb hby at_55) ?_
        show Steps p.tables e below (T24.setTop (mkF m 56 #[.val (.long q1), .second, .val (.long q2), .second, .val (.long q3), .second, .val (.long w1), .second, .val (.long w2), .second, .val (.int kk), .val (.int ni), .val (.ref b), .val (.ref kh), .val (.ref kl), .val (.int (0 : Int32)), .unset, .unset, .unset] [(.int (1 : Int32))])) _
        refine XS.istore X24.here hx rfl (hb hby at_56) rfl (l' := #[.val (.long q1), .second, .val (.long q2), .second, .val (.long q3), .second, .val (.long w1), .second, .val (.long w2), .second, .val (.int kk), .val (.int ni), .val (.ref b), .val (.ref kh), .val (.ref kl), .val (.int (1 : Int32)), .unset, .unset, .unset]) rfl ?_
        show Steps p.tables e below (T24.setTop (mkF m 58 #[.val (.long q1), .second, .val (.long q2), .second, .val (.long q3), .second, .val (.long w1), .second, .val (.long w2), .second, .val (.int kk), .val (.int ni), .val (.ref b), .val (.ref kh), .val (.ref kl), .val (.int (1 : Int32)), .unset, .unset, .unset] [])) _
        refine XS.iload X24.here hx rfl (hb hby at_58) rfl ?_
        show Steps p.tables e below (T24.setTop (mkF m 60 #[.val (.long q1), .second, .val (.long q2), .second, .val (.long q3), .second, .val (.long w1), .second, .val (.long w2), .second, .val (.int kk), .val (.int ni), .val (.ref b), .val (.ref kh), .val (.ref kl), .val (.int (1 : Int32)), .unset, .unset, .unset] [(.int ni)])) _
        refine XS.iconst X24.here hx rfl (hb hby at_60) ?_
        exact Steps.refl _
      by_cases hB : ni < (2 : Int32)
      · have qhB : ni.toInt < 2 := Int32.lt_iff_toInt_lt.mp hB
        have S27 : Steps p.tables e below Ω (T24.setTop (mkF m 149 #[.val (.long q1), .second, .val (.long q2), .second, .val (.long q3), .second, .val (.long w1), .second, .val (.long w2), .second, .val (.int kk), .val (.int ni), .val (.ref b), .val (.ref kh), .val (.ref kl), .val (.int (1 : Int32)), .unset, .unset, .unset] [])) := by
          refine S26.trans ?_
          refine XS.icmpYes X24.here hx rfl (pc0 := 61) (pc' := 102) rfl (hb hby at_61) rfl (XT.ii_lt_t hB) (by decide) (by decide) ?_
          show Steps p.tables e below (T24.setTop (mkF m 102 #[.val (.long q1), .second, .val (.long q2), .second, .val (.long q3), .second, .val (.long w1), .second, .val (.long w2), .second, .val (.int kk), .val (.int ni), .val (.ref b), .val (.ref kh), .val (.ref kl), .val (.int (1 : Int32)), .unset, .unset, .unset] [])) _
          refine XS.iload X24.here hx rfl (hb hby at_102) rfl ?_
          show Steps p.tables e below (T24.setTop (mkF m 104 #[.val (.long q1), .second, .val (.long q2), .second, .val (.long q3), .second, .val (.long w1), .second, .val (.long w2), .second, .val (.int kk), .val (.int ni), .val (.ref b), .val (.ref kh), .val (.ref kl), .val (.int (1 : Int32)), .unset, .unset, .unset] [(.int ni)])) _
          refine XS.iconst X24.here hx rfl (hb hby at_104) ?_
          show Steps p.tables e below (T24.setTop (mkF m 105 #[.val (.long q1), .second, .val (.long q2), .second, .val (.long q3), .second, .val (.long w1), .second, .val (.long w2), .second, .val (.int kk), .val (.int ni), .val (.ref b), .val (.ref kh), .val (.ref kl), .val (.int (1 : Int32)), .unset, .unset, .unset] [(.int (3 : Int32)), (.int ni)])) _
          refine XS.icmpYes X24.here hx rfl (pc0 := 105) (pc' := 149) rfl (hb hby at_105) rfl (XT.ii_lt_t (own_lt32 (by omega))) (by decide) (by decide) ?_
          exact Steps.refl _
        exact ⟨T24, _, _, (1 : Int32), (own_upd (fun _ => (0 : Int64)) (0 : Int32).toNatClampNeg q1), (own_upd (fun _ => (0 : Int64)) (0 : Int32).toNatClampNeg (11 : Int64)), q1, (0 : Int64), (0 : Int64), (11 : Int64), (0 : Int64), (0 : Int64), X24, e24, N24, (Nat.le_trans (Nat.le_trans (Nat.le_trans (Nat.le_trans (Nat.le_trans (Nat.le_trans (Nat.le_trans Z0 E2.1) K5.1) E8.1) E11.1) K18.1) (Keep.of_wr W21).1) (Keep.of_wr W24).1), E_b_24, F_heads_b_24, F_lines_b_24, F_first_b_24, F_end_b_24, LH_24, LL_24, VK_24, V24, by decide, by decide, (fun _ => ⟨rfl, rfl⟩), (fun z => absurd z (by decide)), (fun z => absurd z (by decide)), S27⟩
      · have qhB : ¬ ni.toInt < 2 := fun q => hB (Int32.lt_iff_toInt_lt.mpr q)
        have S29 : Steps p.tables e below Ω (T24.setTop (mkF m 64 #[.val (.long q1), .second, .val (.long q2), .second, .val (.long q3), .second, .val (.long w1), .second, .val (.long w2), .second, .val (.int kk), .val (.int ni), .val (.ref b), .val (.ref kh), .val (.ref kl), .val (.int (1 : Int32)), .unset, .unset, .unset] [])) := by
          refine S26.trans ?_
          refine XS.icmpNo X24.here hx rfl (hb hby at_61) rfl (XT.ii_lt_f hB) ?_
          exact Steps.refl _
        by_cases hb28 : q1 < q2
        · have S30 : Steps p.tables e below Ω (T24.setTop (mkF m 70 #[.val (.long q1), .second, .val (.long q2), .second, .val (.long q3), .second, .val (.long w1), .second, .val (.long w2), .second, .val (.int kk), .val (.int ni), .val (.ref b), .val (.ref kh), .val (.ref kl), .val (.int (1 : Int32)), .unset, .unset, .unset] [(.long (22 : Int64)), (.long q2), (.ref b)])) := by
            refine S29.trans ?_
            refine XS.aload X24.here hx rfl (hb hby at_64) rfl rfl ?_
            show Steps p.tables e below (T24.setTop (mkF m 66 #[.val (.long q1), .second, .val (.long q2), .second, .val (.long q3), .second, .val (.long w1), .second, .val (.long w2), .second, .val (.int kk), .val (.int ni), .val (.ref b), .val (.ref kh), .val (.ref kl), .val (.int (1 : Int32)), .unset, .unset, .unset] [(.ref b)])) _
            refine XS.lloadN X24.here hx rfl (hb hby at_66) rfl ?_
            show Steps p.tables e below (T24.setTop (mkF m 67 #[.val (.long q1), .second, .val (.long q2), .second, .val (.long q3), .second, .val (.long w1), .second, .val (.long w2), .second, .val (.int kk), .val (.int ni), .val (.ref b), .val (.ref kh), .val (.ref kl), .val (.int (1 : Int32)), .unset, .unset, .unset] [(.long q2), (.ref b)])) _
            refine X24.ldc2Long hx hown (mvT hZ (hw _ (List.mem_of_getElem? (i := 24) rfl))) (g := (mkF m 67 #[.val (.long q1), .second, .val (.long q2), .second, .val (.long q3), .second, .val (.long w1), .second, .val (.long w2), .second, .val (.int kk), .val (.int ni), .val (.ref b), .val (.ref kh), .val (.ref kl), .val (.int (1 : Int32)), .unset, .unset, .unset] [(.long q2), (.ref b)])) rfl (hb hby at_67) _ ?_
            exact Steps.refl _
          obtain ⟨cq31, kq31, q31a, q31b, q31c⟩ := isOf hZ e24 E_b_24
          obtain ⟨v31, T31, L31, X31, hQ31, st31⟩ := own_callV X24 hx (y := (⟨"com/example/arcspan/arcspan/io/ForwardHeads", "add", "(JJ)V"⟩ : MethodName)) hown (mvT hZ (hw _ (List.mem_of_getElem? (i := 15) rfl))) (mvT hZ (hw _ (List.mem_of_getElem? (i := 16) rfl))) (mvT hZ (hw _ (List.mem_of_getElem? (i := 18) rfl))) (mvT hZ (hw _ (List.mem_of_getElem? (i := 17) rfl))) (by decide) (backOf (W := 0) (rm2p l Z a0 hw [] b q2 (22 : Int64) ha la (0 : Int32) (1 : Int32) (own_upd (fun _ => (0 : Int64)) (0 : Int32).toNatClampNeg q1) (own_upd (fun _ => (0 : Int64)) (0 : Int32).toNatClampNeg (11 : Int64)) h24 n0 (Nat.le_trans (Nat.le_trans (Nat.le_trans (Nat.le_trans (Nat.le_trans (Nat.le_trans (Nat.le_trans Z0 E2.1) K5.1) E8.1) E11.1) K18.1) (Keep.of_wr W21).1) (Keep.of_wr W24).1) E_b_24 F_heads_b_24 F_lines_b_24 F_first_b_24 F_end_b_24 LH_24 LL_24 g_b gha gla d1 d2 d3 (by decide) (by decide) (fun _ => ⟨by decide, hb28⟩)) hZ (hw _ (List.mem_of_getElem? (i := 19) rfl)) (hw _ (List.mem_of_getElem? (i := 2) rfl)) (by decide) (by decide)) q31a q31c (g := (mkF m 70 #[.val (.long q1), .second, .val (.long q2), .second, .val (.long q3), .second, .val (.long w1), .second, .val (.long w2), .second, .val (.int kk), .val (.int ni), .val (.ref b), .val (.ref kh), .val (.ref kl), .val (.int (1 : Int32)), .unset, .unset, .unset] [(.long (22 : Int64)), (.long q2), (.ref b)])) rfl (by rw [hml]; rfl) (argsL := [(.long q2), (.long (22 : Int64))]) (rest := []) (lenOf pd_1 rfl) rfl (by show 2 * 0 + _ ≤ _; exact Nat.le_of_eq rfl) (hb hby at_70) ⟨rfl, e24, (by decide : 5 + 0 ≤ _), (by decide : 42 + 0 ≤ _)⟩
          obtain ⟨hv31, N31q, K31, E31, Ph31, Pl31, Pf31, Pe31, LH31, LL31⟩ := hQ31
          rw [hv31] at st31
          have N31 := Fr.app N24 N31q
          have S32 : Steps p.tables e below Ω (T31.setTop (mkF m 73 #[.val (.long q1), .second, .val (.long q2), .second, .val (.long q3), .second, .val (.long w1), .second, .val (.long w2), .second, .val (.int kk), .val (.int ni), .val (.ref b), .val (.ref kh), .val (.ref kl), .val (.int (1 : Int32)), .unset, .unset, .unset] [])) := S30.trans st31
          have VK31 := VK_24.keep K31 (ninS (Ne.symm x3) (ninS (Ne.symm x1) (ninS (Ne.symm x2) nin0)))
          have VL31 := V24.keep K31 (ninS (Ne.symm x6) (ninS (Ne.symm x4) (ninS (Ne.symm x5) nin0)))
          have S33 : Steps p.tables e below Ω (T31.setTop (mkF m 80 #[.val (.long q1), .second, .val (.long q2), .second, .val (.long q3), .second, .val (.long w1), .second, .val (.long w2), .second, .val (.int kk), .val (.int ni), .val (.ref b), .val (.ref kh), .val (.ref kl), .val (.int (1 : Int32)), .unset, .unset, .unset] [(.int (0 : Int32)), (.ref kh), (.long q2)])) := by
            refine S32.trans ?_
            refine XS.lloadN X31.here hx rfl (hb hby at_73) rfl ?_
            show Steps p.tables e below (T31.setTop (mkF m 74 #[.val (.long q1), .second, .val (.long q2), .second, .val (.long q3), .second, .val (.long w1), .second, .val (.long w2), .second, .val (.int kk), .val (.int ni), .val (.ref b), .val (.ref kh), .val (.ref kl), .val (.int (1 : Int32)), .unset, .unset, .unset] [(.long q2)])) _
            refine XS.aload X31.here hx rfl (hb hby at_74) rfl rfl ?_
            show Steps p.tables e below (T31.setTop (mkF m 76 #[.val (.long q1), .second, .val (.long q2), .second, .val (.long q3), .second, .val (.long w1), .second, .val (.long w2), .second, .val (.int kk), .val (.int ni), .val (.ref b), .val (.ref kh), .val (.ref kl), .val (.int (1 : Int32)), .unset, .unset, .unset] [(.ref kh), (.long q2)])) _
            refine XS.iload X31.here hx rfl (hb hby at_76) rfl ?_
            show Steps p.tables e below (T31.setTop (mkF m 78 #[.val (.long q1), .second, .val (.long q2), .second, .val (.long q3), .second, .val (.long w1), .second, .val (.long w2), .second, .val (.int kk), .val (.int ni), .val (.ref b), .val (.ref kh), .val (.ref kl), .val (.int (1 : Int32)), .unset, .unset, .unset] [(.int (1 : Int32)), (.ref kh), (.long q2)])) _
            refine XS.iconst X31.here hx rfl (hb hby at_78) ?_
            show Steps p.tables e below (T31.setTop (mkF m 79 #[.val (.long q1), .second, .val (.long q2), .second, .val (.long q3), .second, .val (.long w1), .second, .val (.long w2), .second, .val (.int kk), .val (.int ni), .val (.ref b), .val (.ref kh), .val (.ref kl), .val (.int (1 : Int32)), .unset, .unset, .unset] [(.int (1 : Int32)), (.int (1 : Int32)), (.ref kh), (.long q2)])) _
            refine XS.isub X31.here hx rfl (hb hby at_79) rfl ?_
            exact Steps.refl _
          have S34 : Steps p.tables e below Ω (T31.setTop (mkF m 81 #[.val (.long q1), .second, .val (.long q2), .second, .val (.long q3), .second, .val (.long w1), .second, .val (.long w2), .second, .val (.int kk), .val (.int ni), .val (.ref b), .val (.ref kh), .val (.ref kl), .val (.int (1 : Int32)), .unset, .unset, .unset] [(.long q1), (.long q2)])) := S33.trans (own_ldJ X31 hx hZ rfl VK31 (j := (0 : Int32)) (x := q1) (by decide) rfl (g := (mkF m 80 #[.val (.long q1), .second, .val (.long q2), .second, .val (.long q3), .second, .val (.long w1), .second, .val (.long w2), .second, .val (.int kk), .val (.int ni), .val (.ref b), .val (.ref kh), .val (.ref kl), .val (.int (1 : Int32)), .unset, .unset, .unset] [(.int (0 : Int32)), (.ref kh), (.long q2)])) rfl rfl (hb hby at_80) _ (Steps.refl _))
          have S35 : Steps p.tables e below Ω (T31.setTop (mkF m 90 #[.val (.long q1), .second, .val (.long q2), .second, .val (.long q3), .second, .val (.long w1), .second, .val (.long w2), .second, .val (.int kk), .val (.int ni), .val (.ref b), .val (.ref kh), .val (.ref kl), .val (.int (1 : Int32)), .unset, .unset, .unset] [(.long q2), (.int (1 : Int32)), (.ref kh)])) := by
            refine S34.trans ?_
            refine XS.lcmp X31.here hx rfl (hb hby at_81) rfl ?_
            show Steps p.tables e below (T31.setTop (mkF m 82 #[.val (.long q1), .second, .val (.long q2), .second, .val (.long q3), .second, .val (.long w1), .second, .val (.long w2), .second, .val (.int kk), .val (.int ni), .val (.ref b), .val (.ref kh), .val (.ref kl), .val (.int (1 : Int32)), .unset, .unset, .unset] [(.int (lcmpW q2 q1))])) _
            refine XS.ifNo X31.here hx rfl (hb hby at_82) rfl (XT.ll_le_f hb28) ?_
            show Steps p.tables e below (T31.setTop (mkF m 85 #[.val (.long q1), .second, .val (.long q2), .second, .val (.long q3), .second, .val (.long w1), .second, .val (.long w2), .second, .val (.int kk), .val (.int ni), .val (.ref b), .val (.ref kh), .val (.ref kl), .val (.int (1 : Int32)), .unset, .unset, .unset] [])) _
            refine XS.aload X31.here hx rfl (hb hby at_85) rfl rfl ?_
            show Steps p.tables e below (T31.setTop (mkF m 87 #[.val (.long q1), .second, .val (.long q2), .second, .val (.long q3), .second, .val (.long w1), .second, .val (.long w2), .second, .val (.int kk), .val (.int ni), .val (.ref b), .val (.ref kh), .val (.ref kl), .val (.int (1 : Int32)), .unset, .unset, .unset] [(.ref kh)])) _
            refine XS.iload X31.here hx rfl (hb hby at_87) rfl ?_
            show Steps p.tables e below (T31.setTop (mkF m 89 #[.val (.long q1), .second, .val (.long q2), .second, .val (.long q3), .second, .val (.long w1), .second, .val (.long w2), .second, .val (.int kk), .val (.int ni), .val (.ref b), .val (.ref kh), .val (.ref kl), .val (.int (1 : Int32)), .unset, .unset, .unset] [(.int (1 : Int32)), (.ref kh)])) _
            refine XS.lloadN X31.here hx rfl (hb hby at_89) rfl ?_
            exact Steps.refl _
          obtain ⟨T36, h36, X36, e36, W36, V36', st36⟩ := own_stJ X31 hx hZ rfl VK31 (j := (1 : Int32)) (i := 1) rfl ⟨by decide, Nat.le_of_ble_eq_true rfl⟩ (g := (mkF m 90 #[.val (.long q1), .second, .val (.long q2), .second, .val (.long q3), .second, .val (.long w1), .second, .val (.long w2), .second, .val (.int kk), .val (.int ni), .val (.ref b), .val (.ref kh), .val (.ref kl), .val (.int (1 : Int32)), .unset, .unset, .unset] [(.long q2), (.int (1 : Int32)), (.ref kh)])) rfl rfl (hb hby at_90)
          have V36 : LA Z h36 kh .long [(.long q1), (.long q2), (.long (0 : Int64))] := V36'
          have S37 : Steps p.tables e below Ω (T36.setTop (mkF m 91 #[.val (.long q1), .second, .val (.long q2), .second, .val (.long q3), .second, .val (.long w1), .second, .val (.long w2), .second, .val (.int kk), .val (.int ni), .val (.ref b), .val (.ref kh), .val (.ref kl), .val (.int (1 : Int32)), .unset, .unset, .unset] [])) := S35.trans (st36 _ (Steps.refl _))
          have N36 := Fr.snoc X36 N31 g_kh
          have LH_36 := LH31.other W36 x1
          have LL_36 := LL31.other W36 x2
          have VL_36 := VL31.other W36 (Ne.symm x7)
          have E_b_36 := (E31).wr W36
          have F_heads_b_36 : Fld Z h36 b "com/example/arcspan/arcspan/io/ForwardHeads" "heads" "[J" (.ref ha) := (Ph31).other W36 (Or.inl x3)
          have F_lines_b_36 : Fld Z h36 b "com/example/arcspan/arcspan/io/ForwardHeads" "lines" "[J" (.ref la) := (Pl31).other W36 (Or.inl x3)
          have F_first_b_36 : Fld Z h36 b "com/example/arcspan/arcspan/io/ForwardHeads" "first" "I" (.int (0 : Int32)) := (Pf31).other W36 (Or.inl x3)
          have F_end_b_36 : Fld Z h36 b "com/example/arcspan/arcspan/io/ForwardHeads" "end" "I" (.int (2 : Int32)) := (Pe31).other W36 (Or.inl x3)
          have S38 : Steps p.tables e below Ω (T36.setTop (mkF m 98 #[.val (.long q1), .second, .val (.long q2), .second, .val (.long q3), .second, .val (.long w1), .second, .val (.long w2), .second, .val (.int kk), .val (.int ni), .val (.ref b), .val (.ref kh), .val (.ref kl), .val (.int (1 : Int32)), .unset, .unset, .unset] [(.long (22 : Int64)), (.int (1 : Int32)), (.ref kl)])) := by
            refine S37.trans ?_
            refine XS.aload X36.here hx rfl (hb hby at_91) rfl rfl ?_
            show Steps p.tables e below (T36.setTop (mkF m 93 #[.val (.long q1), .second, .val (.long q2), .second, .val (.long q3), .second, .val (.long w1), .second, .val (.long w2), .second, .val (.int kk), .val (.int ni), .val (.ref b), .val (.ref kh), .val (.ref kl), .val (.int (1 : Int32)), .unset, .unset, .unset] [(.ref kl)])) _
            refine XS.iload X36.here hx rfl (hb hby at_93) rfl ?_
            show Steps p.tables e below (T36.setTop (mkF m 95 #[.val (.long q1), .second, .val (.long q2), .second, .val (.long q3), .second, .val (.long w1), .second, .val (.long w2), .second, .val (.int kk), .val (.int ni), .val (.ref b), .val (.ref kh), .val (.ref kl), .val (.int (1 : Int32)), .unset, .unset, .unset] [(.int (1 : Int32)), (.ref kl)])) _
            refine X36.ldc2Long hx hown (mvT hZ (hw _ (List.mem_of_getElem? (i := 24) rfl))) (g := (mkF m 95 #[.val (.long q1), .second, .val (.long q2), .second, .val (.long q3), .second, .val (.long w1), .second, .val (.long w2), .second, .val (.int kk), .val (.int ni), .val (.ref b), .val (.ref kh), .val (.ref kl), .val (.int (1 : Int32)), .unset, .unset, .unset] [(.int (1 : Int32)), (.ref kl)])) rfl (hb hby at_95) _ ?_
            exact Steps.refl _
          obtain ⟨T39, h39, X39, e39, W39, V39', st39⟩ := own_stJ X36 hx hZ e36 VL_36 (j := (1 : Int32)) (i := 1) rfl ⟨by decide, Nat.le_of_ble_eq_true rfl⟩ (g := (mkF m 98 #[.val (.long q1), .second, .val (.long q2), .second, .val (.long q3), .second, .val (.long w1), .second, .val (.long w2), .second, .val (.int kk), .val (.int ni), .val (.ref b), .val (.ref kh), .val (.ref kl), .val (.int (1 : Int32)), .unset, .unset, .unset] [(.long (22 : Int64)), (.int (1 : Int32)), (.ref kl)])) rfl rfl (hb hby at_98)
          have V39 : LA Z h39 kl .long [(.long (11 : Int64)), (.long (22 : Int64)), (.long (0 : Int64))] := V39'
          have S40 : Steps p.tables e below Ω (T39.setTop (mkF m 99 #[.val (.long q1), .second, .val (.long q2), .second, .val (.long q3), .second, .val (.long w1), .second, .val (.long w2), .second, .val (.int kk), .val (.int ni), .val (.ref b), .val (.ref kh), .val (.ref kl), .val (.int (1 : Int32)), .unset, .unset, .unset] [])) := S38.trans (st39 _ (Steps.refl _))
          have N39 := Fr.snoc X39 N36 g_kl
          have LH_39 := LH_36.other W39 x4
          have LL_39 := LL_36.other W39 x5
          have VK_39 := V36.other W39 x7
          have E_b_39 := (E_b_36).wr W39
          have F_heads_b_39 : Fld Z h39 b "com/example/arcspan/arcspan/io/ForwardHeads" "heads" "[J" (.ref ha) := (F_heads_b_36).other W39 (Or.inl x6)
          have F_lines_b_39 : Fld Z h39 b "com/example/arcspan/arcspan/io/ForwardHeads" "lines" "[J" (.ref la) := (F_lines_b_36).other W39 (Or.inl x6)
          have F_first_b_39 : Fld Z h39 b "com/example/arcspan/arcspan/io/ForwardHeads" "first" "I" (.int (0 : Int32)) := (F_first_b_36).other W39 (Or.inl x6)
          have F_end_b_39 : Fld Z h39 b "com/example/arcspan/arcspan/io/ForwardHeads" "end" "I" (.int (2 : Int32)) := (F_end_b_36).other W39 (Or.inl x6)
          have S41 : Steps p.tables e below Ω (T39.setTop (mkF m 102 #[.val (.long q1), .second, .val (.long q2), .second, .val (.long q3), .second, .val (.long w1), .second, .val (.long w2), .second, .val (.int kk), .val (.int ni), .val (.ref b), .val (.ref kh), .val (.ref kl), .val (.int (2 : Int32)), .unset, .unset, .unset] [])) := by
            refine S40.trans ?_
            refine XS.iinc X39.here hx rfl (hb hby at_99) rfl (l' := #[.val (.long q1), .second, .val (.long q2), .second, .val (.long q3), .second, .val (.long w1), .second, .val (.long w2), .second, .val (.int kk), .val (.int ni), .val (.ref b), .val (.ref kh), .val (.ref kl), .val (.int (2 : Int32)), .unset, .unset, .unset]) rfl ?_
            exact Steps.refl _
          have S48 : Steps p.tables e below Ω (T39.setTop (mkF m 105 #[.val (.long q1), .second, .val (.long q2), .second, .val (.long q3), .second, .val (.long w1), .second, .val (.long w2), .second, .val (.int kk), .val (.int ni), .val (.ref b), .val (.ref kh), .val (.ref kl), .val (.int (2 : Int32)), .unset, .unset, .unset] [(.int (3 : Int32)), (.int ni)])) := by
            refine S41.trans ?_
            refine XS.iload X39.here hx rfl (hb hby at_102) rfl ?_
            show Steps p.tables e below (T39.setTop (mkF m 104 #[.val (.long q1), .second, .val (.long q2), .second, .val (.long q3), .second, .val (.long w1), .second, .val (.long w2), .second, .val (.int kk), .val (.int ni), .val (.ref b), .val (.ref kh), .val (.ref kl), .val (.int (2 : Int32)), .unset, .unset, .unset] [(.int ni)])) _
            refine XS.iconst X39.here hx rfl (hb hby at_104) ?_
            exact Steps.refl _
          by_cases hC : ni < (3 : Int32)
          · have qhC : ni.toInt < 3 := Int32.lt_iff_toInt_lt.mp hC
            have S49 : Steps p.tables e below Ω (T39.setTop (mkF m 149 #[.val (.long q1), .second, .val (.long q2), .second, .val (.long q3), .second, .val (.long w1), .second, .val (.long w2), .second, .val (.int kk), .val (.int ni), .val (.ref b), .val (.ref kh), .val (.ref kl), .val (.int (2 : Int32)), .unset, .unset, .unset] [])) := by
              refine S48.trans ?_
              refine XS.icmpYes X39.here hx rfl (pc0 := 105) (pc' := 149) rfl (hb hby at_105) rfl (XT.ii_lt_t hC) (by decide) (by decide) ?_
              exact Steps.refl _
            exact ⟨T39, _, _, (2 : Int32), (own_upd (own_upd (fun _ => (0 : Int64)) (0 : Int32).toNatClampNeg q1) (1 : Int32).toNatClampNeg q2), (own_upd (own_upd (fun _ => (0 : Int64)) (0 : Int32).toNatClampNeg (11 : Int64)) (1 : Int32).toNatClampNeg (22 : Int64)), q1, q2, (0 : Int64), (11 : Int64), (22 : Int64), (0 : Int64), X39, e39, N39, (Nat.le_trans (Nat.le_trans (Nat.le_trans (Nat.le_trans (Nat.le_trans (Nat.le_trans (Nat.le_trans (Nat.le_trans (Nat.le_trans (Nat.le_trans Z0 E2.1) K5.1) E8.1) E11.1) K18.1) (Keep.of_wr W21).1) (Keep.of_wr W24).1) K31.1) (Keep.of_wr W36).1) (Keep.of_wr W39).1), E_b_39, F_heads_b_39, F_lines_b_39, F_first_b_39, F_end_b_39, LH_39, LL_39, VK_39, V39, by decide, by decide, (fun _ => ⟨rfl, rfl⟩), (fun _ => ⟨rfl, rfl, (Int64.lt_iff_toInt_lt.mp hb28)⟩), (fun z => absurd z (by decide)), S49⟩
          · have qhC : ¬ ni.toInt < 3 := fun q => hC (Int32.lt_iff_toInt_lt.mpr q)
            have S51 : Steps p.tables e below Ω (T39.setTop (mkF m 108 #[.val (.long q1), .second, .val (.long q2), .second, .val (.long q3), .second, .val (.long w1), .second, .val (.long w2), .second, .val (.int kk), .val (.int ni), .val (.ref b), .val (.ref kh), .val (.ref kl), .val (.int (2 : Int32)), .unset, .unset, .unset] [])) := by
              refine S48.trans ?_
              refine XS.icmpNo X39.here hx rfl (hb hby at_105) rfl (XT.ii_lt_f hC) ?_
              exact Steps.refl _
            by_cases hb50 : q2 < q3
            · have S52 : Steps p.tables e below Ω (T39.setTop (mkF m 115 #[.val (.long q1), .second, .val (.long q2), .second, .val (.long q3), .second, .val (.long w1), .second, .val (.long w2), .second, .val (.int kk), .val (.int ni), .val (.ref b), .val (.ref kh), .val (.ref kl), .val (.int (2 : Int32)), .unset, .unset, .unset] [(.long (33 : Int64)), (.long q3), (.ref b)])) := by
                refine S51.trans ?_
                refine XS.aload X39.here hx rfl (hb hby at_108) rfl rfl ?_
                show Steps p.tables e below (T39.setTop (mkF m 110 #[.val (.long q1), .second, .val (.long q2), .second, .val (.long q3), .second, .val (.long w1), .second, .val (.long w2), .second, .val (.int kk), .val (.int ni), .val (.ref b), .val (.ref kh), .val (.ref kl), .val (.int (2 : Int32)), .unset, .unset, .unset] [(.ref b)])) _
                refine XS.lload X39.here hx rfl (hb hby at_110) rfl ?_
                show Steps p.tables e below (T39.setTop (mkF m 112 #[.val (.long q1), .second, .val (.long q2), .second, .val (.long q3), .second, .val (.long w1), .second, .val (.long w2), .second, .val (.int kk), .val (.int ni), .val (.ref b), .val (.ref kh), .val (.ref kl), .val (.int (2 : Int32)), .unset, .unset, .unset] [(.long q3), (.ref b)])) _
                refine X39.ldc2Long hx hown (mvT hZ (hw _ (List.mem_of_getElem? (i := 39) rfl))) (g := (mkF m 112 #[.val (.long q1), .second, .val (.long q2), .second, .val (.long q3), .second, .val (.long w1), .second, .val (.long w2), .second, .val (.int kk), .val (.int ni), .val (.ref b), .val (.ref kh), .val (.ref kl), .val (.int (2 : Int32)), .unset, .unset, .unset] [(.long q3), (.ref b)])) rfl (hb hby at_112) _ ?_
                exact Steps.refl _
              obtain ⟨cq53, kq53, q53a, q53b, q53c⟩ := isOf hZ e39 E_b_39
              obtain ⟨v53, T53, L53, X53, hQ53, st53⟩ := own_callV X39 hx (y := (⟨"com/example/arcspan/arcspan/io/ForwardHeads", "add", "(JJ)V"⟩ : MethodName)) hown (mvT hZ (hw _ (List.mem_of_getElem? (i := 15) rfl))) (mvT hZ (hw _ (List.mem_of_getElem? (i := 16) rfl))) (mvT hZ (hw _ (List.mem_of_getElem? (i := 18) rfl))) (mvT hZ (hw _ (List.mem_of_getElem? (i := 17) rfl))) (by decide) (backOf (W := 0) (rm2p l Z a0 hw [] b q3 (33 : Int64) ha la (0 : Int32) (2 : Int32) (own_upd (own_upd (fun _ => (0 : Int64)) (0 : Int32).toNatClampNeg q1) (1 : Int32).toNatClampNeg q2) (own_upd (own_upd (fun _ => (0 : Int64)) (0 : Int32).toNatClampNeg (11 : Int64)) (1 : Int32).toNatClampNeg (22 : Int64)) h39 n0 (Nat.le_trans (Nat.le_trans (Nat.le_trans (Nat.le_trans (Nat.le_trans (Nat.le_trans (Nat.le_trans (Nat.le_trans (Nat.le_trans (Nat.le_trans Z0 E2.1) K5.1) E8.1) E11.1) K18.1) (Keep.of_wr W21).1) (Keep.of_wr W24).1) K31.1) (Keep.of_wr W36).1) (Keep.of_wr W39).1) E_b_39 F_heads_b_39 F_lines_b_39 F_first_b_39 F_end_b_39 LH_39 LL_39 g_b gha gla d1 d2 d3 (by decide) (by decide) (fun _ => ⟨by decide, hb50⟩)) hZ (hw _ (List.mem_of_getElem? (i := 19) rfl)) (hw _ (List.mem_of_getElem? (i := 2) rfl)) (by decide) (by decide)) q53a q53c (g := (mkF m 115 #[.val (.long q1), .second, .val (.long q2), .second, .val (.long q3), .second, .val (.long w1), .second, .val (.long w2), .second, .val (.int kk), .val (.int ni), .val (.ref b), .val (.ref kh), .val (.ref kl), .val (.int (2 : Int32)), .unset, .unset, .unset] [(.long (33 : Int64)), (.long q3), (.ref b)])) rfl (by rw [hml]; rfl) (argsL := [(.long q3), (.long (33 : Int64))]) (rest := []) (lenOf pd_1 rfl) rfl (by show 2 * 0 + _ ≤ _; exact Nat.le_of_eq rfl) (hb hby at_115) ⟨rfl, e39, (by decide : 5 + 0 ≤ _), (by decide : 42 + 0 ≤ _)⟩
              obtain ⟨hv53, N53q, K53, E53, Ph53, Pl53, Pf53, Pe53, LH53, LL53⟩ := hQ53
              rw [hv53] at st53
              have N53 := Fr.app N39 N53q
              have S54 : Steps p.tables e below Ω (T53.setTop (mkF m 118 #[.val (.long q1), .second, .val (.long q2), .second, .val (.long q3), .second, .val (.long w1), .second, .val (.long w2), .second, .val (.int kk), .val (.int ni), .val (.ref b), .val (.ref kh), .val (.ref kl), .val (.int (2 : Int32)), .unset, .unset, .unset] [])) := S52.trans st53
              have VK53 := VK_39.keep K53 (ninS (Ne.symm x3) (ninS (Ne.symm x1) (ninS (Ne.symm x2) nin0)))
              have VL53 := V39.keep K53 (ninS (Ne.symm x6) (ninS (Ne.symm x4) (ninS (Ne.symm x5) nin0)))
              have S55 : Steps p.tables e below Ω (T53.setTop (mkF m 126 #[.val (.long q1), .second, .val (.long q2), .second, .val (.long q3), .second, .val (.long w1), .second, .val (.long w2), .second, .val (.int kk), .val (.int ni), .val (.ref b), .val (.ref kh), .val (.ref kl), .val (.int (2 : Int32)), .unset, .unset, .unset] [(.int (1 : Int32)), (.ref kh), (.long q3)])) := by
                refine S54.trans ?_
                refine XS.lload X53.here hx rfl (hb hby at_118) rfl ?_
                show Steps p.tables e below (T53.setTop (mkF m 120 #[.val (.long q1), .second, .val (.long q2), .second, .val (.long q3), .second, .val (.long w1), .second, .val (.long w2), .second, .val (.int kk), .val (.int ni), .val (.ref b), .val (.ref kh), .val (.ref kl), .val (.int (2 : Int32)), .unset, .unset, .unset] [(.long q3)])) _
                refine XS.aload X53.here hx rfl (hb hby at_120) rfl rfl ?_
                show Steps p.tables e below (T53.setTop (mkF m 122 #[.val (.long q1), .second, .val (.long q2), .second, .val (.long q3), .second, .val (.long w1), .second, .val (.long w2), .second, .val (.int kk), .val (.int ni), .val (.ref b), .val (.ref kh), .val (.ref kl), .val (.int (2 : Int32)), .unset, .unset, .unset] [(.ref kh), (.long q3)])) _
                refine XS.iload X53.here hx rfl (hb hby at_122) rfl ?_
                show Steps p.tables e below (T53.setTop (mkF m 124 #[.val (.long q1), .second, .val (.long q2), .second, .val (.long q3), .second, .val (.long w1), .second, .val (.long w2), .second, .val (.int kk), .val (.int ni), .val (.ref b), .val (.ref kh), .val (.ref kl), .val (.int (2 : Int32)), .unset, .unset, .unset] [(.int (2 : Int32)), (.ref kh), (.long q3)])) _
                refine XS.iconst X53.here hx rfl (hb hby at_124) ?_
                show Steps p.tables e below (T53.setTop (mkF m 125 #[.val (.long q1), .second, .val (.long q2), .second, .val (.long q3), .second, .val (.long w1), .second, .val (.long w2), .second, .val (.int kk), .val (.int ni), .val (.ref b), .val (.ref kh), .val (.ref kl), .val (.int (2 : Int32)), .unset, .unset, .unset] [(.int (1 : Int32)), (.int (2 : Int32)), (.ref kh), (.long q3)])) _
                refine XS.isub X53.here hx rfl (hb hby at_125) rfl ?_
                exact Steps.refl _
              have S56 : Steps p.tables e below Ω (T53.setTop (mkF m 127 #[.val (.long q1), .second, .val (.long q2), .second, .val (.long q3), .second, .val (.long w1), .second, .val (.long w2), .second, .val (.int kk), .val (.int ni), .val (.ref b), .val (.ref kh), .val (.ref kl), .val (.int (2 : Int32)), .unset, .unset, .unset] [(.long q2), (.long q3)])) := S55.trans (own_ldJ X53 hx hZ rfl VK53 (j := (1 : Int32)) (x := q2) (by decide) rfl (g := (mkF m 126 #[.val (.long q1), .second, .val (.long q2), .second, .val (.long q3), .second, .val (.long w1), .second, .val (.long w2), .second, .val (.int kk), .val (.int ni), .val (.ref b), .val (.ref kh), .val (.ref kl), .val (.int (2 : Int32)), .unset, .unset, .unset] [(.int (1 : Int32)), (.ref kh), (.long q3)])) rfl rfl (hb hby at_126) _ (Steps.refl _))
              have S57 : Steps p.tables e below Ω (T53.setTop (mkF m 137 #[.val (.long q1), .second, .val (.long q2), .second, .val (.long q3), .second, .val (.long w1), .second, .val (.long w2), .second, .val (.int kk), .val (.int ni), .val (.ref b), .val (.ref kh), .val (.ref kl), .val (.int (2 : Int32)), .unset, .unset, .unset] [(.long q3), (.int (2 : Int32)), (.ref kh)])) := by
                refine S56.trans ?_
                refine XS.lcmp X53.here hx rfl (hb hby at_127) rfl ?_
                show Steps p.tables e below (T53.setTop (mkF m 128 #[.val (.long q1), .second, .val (.long q2), .second, .val (.long q3), .second, .val (.long w1), .second, .val (.long w2), .second, .val (.int kk), .val (.int ni), .val (.ref b), .val (.ref kh), .val (.ref kl), .val (.int (2 : Int32)), .unset, .unset, .unset] [(.int (lcmpW q3 q2))])) _
                refine XS.ifNo X53.here hx rfl (hb hby at_128) rfl (XT.ll_le_f hb50) ?_
                show Steps p.tables e below (T53.setTop (mkF m 131 #[.val (.long q1), .second, .val (.long q2), .second, .val (.long q3), .second, .val (.long w1), .second, .val (.long w2), .second, .val (.int kk), .val (.int ni), .val (.ref b), .val (.ref kh), .val (.ref kl), .val (.int (2 : Int32)), .unset, .unset, .unset] [])) _
                refine XS.aload X53.here hx rfl (hb hby at_131) rfl rfl ?_
                show Steps p.tables e below (T53.setTop (mkF m 133 #[.val (.long q1), .second, .val (.long q2), .second, .val (.long q3), .second, .val (.long w1), .second, .val (.long w2), .second, .val (.int kk), .val (.int ni), .val (.ref b), .val (.ref kh), .val (.ref kl), .val (.int (2 : Int32)), .unset, .unset, .unset] [(.ref kh)])) _
                refine XS.iload X53.here hx rfl (hb hby at_133) rfl ?_
                show Steps p.tables e below (T53.setTop (mkF m 135 #[.val (.long q1), .second, .val (.long q2), .second, .val (.long q3), .second, .val (.long w1), .second, .val (.long w2), .second, .val (.int kk), .val (.int ni), .val (.ref b), .val (.ref kh), .val (.ref kl), .val (.int (2 : Int32)), .unset, .unset, .unset] [(.int (2 : Int32)), (.ref kh)])) _
                refine XS.lload X53.here hx rfl (hb hby at_135) rfl ?_
                exact Steps.refl _
              obtain ⟨T58, h58, X58, e58, W58, V58', st58⟩ := own_stJ X53 hx hZ rfl VK53 (j := (2 : Int32)) (i := 2) rfl ⟨by decide, Nat.le_of_ble_eq_true rfl⟩ (g := (mkF m 137 #[.val (.long q1), .second, .val (.long q2), .second, .val (.long q3), .second, .val (.long w1), .second, .val (.long w2), .second, .val (.int kk), .val (.int ni), .val (.ref b), .val (.ref kh), .val (.ref kl), .val (.int (2 : Int32)), .unset, .unset, .unset] [(.long q3), (.int (2 : Int32)), (.ref kh)])) rfl rfl (hb hby at_137)
              have V58 : LA Z h58 kh .long [(.long q1), (.long q2), (.long q3)] := V58'
              have S59 : Steps p.tables e below Ω (T58.setTop (mkF m 138 #[.val (.long q1), .second, .val (.long q2), .second, .val (.long q3), .second, .val (.long w1), .second, .val (.long w2), .second, .val (.int kk), .val (.int ni), .val (.ref b), .val (.ref kh), .val (.ref kl), .val (.int (2 : Int32)), .unset, .unset, .unset] [])) := S57.trans (st58 _ (Steps.refl _))
              have N58 := Fr.snoc X58 N53 g_kh
              have LH_58 := LH53.other W58 x1
              have LL_58 := LL53.other W58 x2
              have VL_58 := VL53.other W58 (Ne.symm x7)
              have E_b_58 := (E53).wr W58
              have F_heads_b_58 : Fld Z h58 b "com/example/arcspan/arcspan/io/ForwardHeads" "heads" "[J" (.ref ha) := (Ph53).other W58 (Or.inl x3)
              have F_lines_b_58 : Fld Z h58 b "com/example/arcspan/arcspan/io/ForwardHeads" "lines" "[J" (.ref la) := (Pl53).other W58 (Or.inl x3)
              have F_first_b_58 : Fld Z h58 b "com/example/arcspan/arcspan/io/ForwardHeads" "first" "I" (.int (0 : Int32)) := (Pf53).other W58 (Or.inl x3)
              have F_end_b_58 : Fld Z h58 b "com/example/arcspan/arcspan/io/ForwardHeads" "end" "I" (.int (3 : Int32)) := (Pe53).other W58 (Or.inl x3)
              have S60 : Steps p.tables e below Ω (T58.setTop (mkF m 145 #[.val (.long q1), .second, .val (.long q2), .second, .val (.long q3), .second, .val (.long w1), .second, .val (.long w2), .second, .val (.int kk), .val (.int ni), .val (.ref b), .val (.ref kh), .val (.ref kl), .val (.int (2 : Int32)), .unset, .unset, .unset] [(.long (33 : Int64)), (.int (2 : Int32)), (.ref kl)])) := by
                refine S59.trans ?_
                refine XS.aload X58.here hx rfl (hb hby at_138) rfl rfl ?_
                show Steps p.tables e below (T58.setTop (mkF m 140 #[.val (.long q1), .second, .val (.long q2), .second, .val (.long q3), .second, .val (.long w1), .second, .val (.long w2), .second, .val (.int kk), .val (.int ni), .val (.ref b), .val (.ref kh), .val (.ref kl), .val (.int (2 : Int32)), .unset, .unset, .unset] [(.ref kl)])) _
                refine XS.iload X58.here hx rfl (hb hby at_140) rfl ?_
                show Steps p.tables e below (T58.setTop (mkF m 142 #[.val (.long q1), .second, .val (.long q2), .second, .val (.long q3), .second, .val (.long w1), .second, .val (.long w2), .second, .val (.int kk), .val (.int ni), .val (.ref b), .val (.ref kh), .val (.ref kl), .val (.int (2 : Int32)), .unset, .unset, .unset] [(.int (2 : Int32)), (.ref kl)])) _
                refine X58.ldc2Long hx hown (mvT hZ (hw _ (List.mem_of_getElem? (i := 39) rfl))) (g := (mkF m 142 #[.val (.long q1), .second, .val (.long q2), .second, .val (.long q3), .second, .val (.long w1), .second, .val (.long w2), .second, .val (.int kk), .val (.int ni), .val (.ref b), .val (.ref kh), .val (.ref kl), .val (.int (2 : Int32)), .unset, .unset, .unset] [(.int (2 : Int32)), (.ref kl)])) rfl (hb hby at_142) _ ?_
                exact Steps.refl _
              obtain ⟨T61, h61, X61, e61, W61, V61', st61⟩ := own_stJ X58 hx hZ e58 VL_58 (j := (2 : Int32)) (i := 2) rfl ⟨by decide, Nat.le_of_ble_eq_true rfl⟩ (g := (mkF m 145 #[.val (.long q1), .second, .val (.long q2), .second, .val (.long q3), .second, .val (.long w1), .second, .val (.long w2), .second, .val (.int kk), .val (.int ni), .val (.ref b), .val (.ref kh), .val (.ref kl), .val (.int (2 : Int32)), .unset, .unset, .unset] [(.long (33 : Int64)), (.int (2 : Int32)), (.ref kl)])) rfl rfl (hb hby at_145)
              have V61 : LA Z h61 kl .long [(.long (11 : Int64)), (.long (22 : Int64)), (.long (33 : Int64))] := V61'
              have S62 : Steps p.tables e below Ω (T61.setTop (mkF m 146 #[.val (.long q1), .second, .val (.long q2), .second, .val (.long q3), .second, .val (.long w1), .second, .val (.long w2), .second, .val (.int kk), .val (.int ni), .val (.ref b), .val (.ref kh), .val (.ref kl), .val (.int (2 : Int32)), .unset, .unset, .unset] [])) := S60.trans (st61 _ (Steps.refl _))
              have N61 := Fr.snoc X61 N58 g_kl
              have LH_61 := LH_58.other W61 x4
              have LL_61 := LL_58.other W61 x5
              have VK_61 := V58.other W61 x7
              have E_b_61 := (E_b_58).wr W61
              have F_heads_b_61 : Fld Z h61 b "com/example/arcspan/arcspan/io/ForwardHeads" "heads" "[J" (.ref ha) := (F_heads_b_58).other W61 (Or.inl x6)
              have F_lines_b_61 : Fld Z h61 b "com/example/arcspan/arcspan/io/ForwardHeads" "lines" "[J" (.ref la) := (F_lines_b_58).other W61 (Or.inl x6)
              have F_first_b_61 : Fld Z h61 b "com/example/arcspan/arcspan/io/ForwardHeads" "first" "I" (.int (0 : Int32)) := (F_first_b_58).other W61 (Or.inl x6)
              have F_end_b_61 : Fld Z h61 b "com/example/arcspan/arcspan/io/ForwardHeads" "end" "I" (.int (3 : Int32)) := (F_end_b_58).other W61 (Or.inl x6)
              have S63 : Steps p.tables e below Ω (T61.setTop (mkF m 149 #[.val (.long q1), .second, .val (.long q2), .second, .val (.long q3), .second, .val (.long w1), .second, .val (.long w2), .second, .val (.int kk), .val (.int ni), .val (.ref b), .val (.ref kh), .val (.ref kl), .val (.int (3 : Int32)), .unset, .unset, .unset] [])) := by
                refine S62.trans ?_
                refine XS.iinc X61.here hx rfl (hb hby at_146) rfl (l' := #[.val (.long q1), .second, .val (.long q2), .second, .val (.long q3), .second, .val (.long w1), .second, .val (.long w2), .second, .val (.int kk), .val (.int ni), .val (.ref b), .val (.ref kh), .val (.ref kl), .val (.int (3 : Int32)), .unset, .unset, .unset]) rfl ?_
                exact Steps.refl _
              exact ⟨T61, _, _, (3 : Int32), (own_upd (own_upd (own_upd (fun _ => (0 : Int64)) (0 : Int32).toNatClampNeg q1) (1 : Int32).toNatClampNeg q2) (2 : Int32).toNatClampNeg q3), (own_upd (own_upd (own_upd (fun _ => (0 : Int64)) (0 : Int32).toNatClampNeg (11 : Int64)) (1 : Int32).toNatClampNeg (22 : Int64)) (2 : Int32).toNatClampNeg (33 : Int64)), q1, q2, q3, (11 : Int64), (22 : Int64), (33 : Int64), X61, e61, N61, (Nat.le_trans (Nat.le_trans (Nat.le_trans (Nat.le_trans (Nat.le_trans (Nat.le_trans (Nat.le_trans (Nat.le_trans (Nat.le_trans (Nat.le_trans (Nat.le_trans (Nat.le_trans (Nat.le_trans Z0 E2.1) K5.1) E8.1) E11.1) K18.1) (Keep.of_wr W21).1) (Keep.of_wr W24).1) K31.1) (Keep.of_wr W36).1) (Keep.of_wr W39).1) K53.1) (Keep.of_wr W58).1) (Keep.of_wr W61).1), E_b_61, F_heads_b_61, F_lines_b_61, F_first_b_61, F_end_b_61, LH_61, LL_61, VK_61, V61, by decide, by decide, (fun _ => ⟨rfl, rfl⟩), (fun _ => ⟨rfl, rfl, (Int64.lt_iff_toInt_lt.mp hb28)⟩), (fun _ => ⟨rfl, rfl, (Int64.lt_iff_toInt_lt.mp hb50)⟩), S63⟩
            · have S64 : Steps p.tables e below Ω (T39.setTop (mkF m 115 #[.val (.long q1), .second, .val (.long q2), .second, .val (.long q3), .second, .val (.long w1), .second, .val (.long w2), .second, .val (.int kk), .val (.int ni), .val (.ref b), .val (.ref kh), .val (.ref kl), .val (.int (2 : Int32)), .unset, .unset, .unset] [(.long (33 : Int64)), (.long q3), (.ref b)])) := by
                refine S51.trans ?_
                refine XS.aload X39.here hx rfl (hb hby at_108) rfl rfl ?_
                show Steps p.tables e below (T39.setTop (mkF m 110 #[.val (.long q1), .second, .val (.long q2), .second, .val (.long q3), .second, .val (.long w1), .second, .val (.long w2), .second, .val (.int kk), .val (.int ni), .val (.ref b), .val (.ref kh), .val (.ref kl), .val (.int (2 : Int32)), .unset, .unset, .unset] [(.ref b)])) _
                refine XS.lload X39.here hx rfl (hb hby at_110) rfl ?_
                show Steps p.tables e below (T39.setTop (mkF m 112 #[.val (.long q1), .second, .val (.long q2), .second, .val (.long q3), .second, .val (.long w1), .second, .val (.long w2), .second, .val (.int kk), .val (.int ni), .val (.ref b), .val (.ref kh), .val (.ref kl), .val (.int (2 : Int32)), .unset, .unset, .unset] [(.long q3), (.ref b)])) _
                refine X39.ldc2Long hx hown (mvT hZ (hw _ (List.mem_of_getElem? (i := 39) rfl))) (g := (mkF m 112 #[.val (.long q1), .second, .val (.long q2), .second, .val (.long q3), .second, .val (.long w1), .second, .val (.long w2), .second, .val (.int kk), .val (.int ni), .val (.ref b), .val (.ref kh), .val (.ref kl), .val (.int (2 : Int32)), .unset, .unset, .unset] [(.long q3), (.ref b)])) rfl (hb hby at_112) _ ?_
                exact Steps.refl _
              obtain ⟨cq65, kq65, q65a, q65b, q65c⟩ := isOf hZ e39 E_b_39
              obtain ⟨v65, T65, L65, X65, hQ65, st65⟩ := own_callV X39 hx (y := (⟨"com/example/arcspan/arcspan/io/ForwardHeads", "add", "(JJ)V"⟩ : MethodName)) hown (mvT hZ (hw _ (List.mem_of_getElem? (i := 15) rfl))) (mvT hZ (hw _ (List.mem_of_getElem? (i := 16) rfl))) (mvT hZ (hw _ (List.mem_of_getElem? (i := 18) rfl))) (mvT hZ (hw _ (List.mem_of_getElem? (i := 17) rfl))) (by decide) (backOf (W := 0) (rm2s l Z a0 hw [] b q3 (33 : Int64) ha la (0 : Int32) (2 : Int32) (own_upd (own_upd (fun _ => (0 : Int64)) (0 : Int32).toNatClampNeg q1) (1 : Int32).toNatClampNeg q2) (own_upd (own_upd (fun _ => (0 : Int64)) (0 : Int32).toNatClampNeg (11 : Int64)) (1 : Int32).toNatClampNeg (22 : Int64)) h39 n0 (Nat.le_trans (Nat.le_trans (Nat.le_trans (Nat.le_trans (Nat.le_trans (Nat.le_trans (Nat.le_trans (Nat.le_trans (Nat.le_trans (Nat.le_trans Z0 E2.1) K5.1) E8.1) E11.1) K18.1) (Keep.of_wr W21).1) (Keep.of_wr W24).1) K31.1) (Keep.of_wr W36).1) (Keep.of_wr W39).1) E_b_39 F_heads_b_39 F_lines_b_39 F_first_b_39 F_end_b_39 LH_39 LL_39 g_b gha gla d1 d2 d3 (by decide) (by decide) (by decide) (by decide) hb50) hZ (hw _ (List.mem_of_getElem? (i := 19) rfl)) (hw _ (List.mem_of_getElem? (i := 2) rfl)) (by decide) (by decide)) q65a q65c (g := (mkF m 115 #[.val (.long q1), .second, .val (.long q2), .second, .val (.long q3), .second, .val (.long w1), .second, .val (.long w2), .second, .val (.int kk), .val (.int ni), .val (.ref b), .val (.ref kh), .val (.ref kl), .val (.int (2 : Int32)), .unset, .unset, .unset] [(.long (33 : Int64)), (.long q3), (.ref b)])) rfl (by rw [hml]; rfl) (argsL := [(.long q3), (.long (33 : Int64))]) (rest := []) (lenOf pd_1 rfl) rfl (by show 2 * 0 + _ ≤ _; exact Nat.le_of_eq rfl) (hb hby at_115) ⟨rfl, e39, (by decide : 5 + 0 ≤ _), (by decide : 42 + 0 ≤ _)⟩
              obtain ⟨hv65, N65q, e65⟩ := hQ65
              rw [hv65] at st65
              have N65 := Fr.app N39 N65q
              have S66 : Steps p.tables e below Ω (T65.setTop (mkF m 118 #[.val (.long q1), .second, .val (.long q2), .second, .val (.long q3), .second, .val (.long w1), .second, .val (.long w2), .second, .val (.int kk), .val (.int ni), .val (.ref b), .val (.ref kh), .val (.ref kl), .val (.int (2 : Int32)), .unset, .unset, .unset] [])) := S64.trans st65
              have S67 : Steps p.tables e below Ω (T65.setTop (mkF m 126 #[.val (.long q1), .second, .val (.long q2), .second, .val (.long q3), .second, .val (.long w1), .second, .val (.long w2), .second, .val (.int kk), .val (.int ni), .val (.ref b), .val (.ref kh), .val (.ref kl), .val (.int (2 : Int32)), .unset, .unset, .unset] [(.int (1 : Int32)), (.ref kh), (.long q3)])) := by
                refine S66.trans ?_
                refine XS.lload X65.here hx rfl (hb hby at_118) rfl ?_
                show Steps p.tables e below (T65.setTop (mkF m 120 #[.val (.long q1), .second, .val (.long q2), .second, .val (.long q3), .second, .val (.long w1), .second, .val (.long w2), .second, .val (.int kk), .val (.int ni), .val (.ref b), .val (.ref kh), .val (.ref kl), .val (.int (2 : Int32)), .unset, .unset, .unset] [(.long q3)])) _
                refine XS.aload X65.here hx rfl (hb hby at_120) rfl rfl ?_
                show Steps p.tables e below (T65.setTop (mkF m 122 #[.val (.long q1), .second, .val (.long q2), .second, .val (.long q3), .second, .val (.long w1), .second, .val (.long w2), .second, .val (.int kk), .val (.int ni), .val (.ref b), .val (.ref kh), .val (.ref kl), .val (.int (2 : Int32)), .unset, .unset, .unset] [(.ref kh), (.long q3)])) _
                refine XS.iload X65.here hx rfl (hb hby at_122) rfl ?_
                show Steps p.tables e below (T65.setTop (mkF m 124 #[.val (.long q1), .second, .val (.long q2), .second, .val (.long q3), .second, .val (.long w1), .second, .val (.long w2), .second, .val (.int kk), .val (.int ni), .val (.ref b), .val (.ref kh), .val (.ref kl), .val (.int (2 : Int32)), .unset, .unset, .unset] [(.int (2 : Int32)), (.ref kh), (.long q3)])) _
                refine XS.iconst X65.here hx rfl (hb hby at_124) ?_
                show Steps p.tables e below (T65.setTop (mkF m 125 #[.val (.long q1), .second, .val (.long q2), .second, .val (.long q3), .second, .val (.long w1), .second, .val (.long w2), .second, .val (.int kk), .val (.int ni), .val (.ref b), .val (.ref kh), .val (.ref kl), .val (.int (2 : Int32)), .unset, .unset, .unset] [(.int (1 : Int32)), (.int (2 : Int32)), (.ref kh), (.long q3)])) _
                refine XS.isub X65.here hx rfl (hb hby at_125) rfl ?_
                exact Steps.refl _
              have S68 : Steps p.tables e below Ω (T65.setTop (mkF m 127 #[.val (.long q1), .second, .val (.long q2), .second, .val (.long q3), .second, .val (.long w1), .second, .val (.long w2), .second, .val (.int kk), .val (.int ni), .val (.ref b), .val (.ref kh), .val (.ref kl), .val (.int (2 : Int32)), .unset, .unset, .unset] [(.long q2), (.long q3)])) := S67.trans (own_ldJ X65 hx hZ e65 VK_39 (j := (1 : Int32)) (x := q2) (by decide) rfl (g := (mkF m 126 #[.val (.long q1), .second, .val (.long q2), .second, .val (.long q3), .second, .val (.long w1), .second, .val (.long w2), .second, .val (.int kk), .val (.int ni), .val (.ref b), .val (.ref kh), .val (.ref kl), .val (.int (2 : Int32)), .unset, .unset, .unset] [(.int (1 : Int32)), (.ref kh), (.long q3)])) rfl rfl (hb hby at_126) _ (Steps.refl _))
              have S69 : Steps p.tables e below Ω (T65.setTop (mkF m 149 #[.val (.long q1), .second, .val (.long q2), .second, .val (.long q3), .second, .val (.long w1), .second, .val (.long w2), .second, .val (.int kk), .val (.int ni), .val (.ref b), .val (.ref kh), .val (.ref kl), .val (.int (2 : Int32)), .unset, .unset, .unset] [])) := by
                refine S68.trans ?_
                refine XS.lcmp X65.here hx rfl (hb hby at_127) rfl ?_
                show Steps p.tables e below (T65.setTop (mkF m 128 #[.val (.long q1), .second, .val (.long q2), .second, .val (.long q3), .second, .val (.long w1), .second, .val (.long w2), .second, .val (.int kk), .val (.int ni), .val (.ref b), .val (.ref kh), .val (.ref kl), .val (.int (2 : Int32)), .unset, .unset, .unset] [(.int (lcmpW q3 q2))])) _
                refine XS.ifYes X65.here hx rfl (pc0 := 128) (pc' := 149) rfl (hb hby at_128) rfl (XT.ll_le_t hb50) (by decide) (by decide) ?_
                exact Steps.refl _
              exact ⟨T65, _, _, (2 : Int32), (own_upd (own_upd (fun _ => (0 : Int64)) (0 : Int32).toNatClampNeg q1) (1 : Int32).toNatClampNeg q2), (own_upd (own_upd (fun _ => (0 : Int64)) (0 : Int32).toNatClampNeg (11 : Int64)) (1 : Int32).toNatClampNeg (22 : Int64)), q1, q2, (0 : Int64), (11 : Int64), (22 : Int64), (0 : Int64), X65, e65, N65, (Nat.le_trans (Nat.le_trans (Nat.le_trans (Nat.le_trans (Nat.le_trans (Nat.le_trans (Nat.le_trans (Nat.le_trans (Nat.le_trans (Nat.le_trans Z0 E2.1) K5.1) E8.1) E11.1) K18.1) (Keep.of_wr W21).1) (Keep.of_wr W24).1) K31.1) (Keep.of_wr W36).1) (Keep.of_wr W39).1), E_b_39, F_heads_b_39, F_lines_b_39, F_first_b_39, F_end_b_39, LH_39, LL_39, VK_39, V39, by decide, by decide, (fun _ => ⟨rfl, rfl⟩), (fun _ => ⟨rfl, rfl, (Int64.lt_iff_toInt_lt.mp hb28)⟩), (fun z => absurd z (by decide)), S69⟩
        · have S42 : Steps p.tables e below Ω (T24.setTop (mkF m 70 #[.val (.long q1), .second, .val (.long q2), .second, .val (.long q3), .second, .val (.long w1), .second, .val (.long w2), .second, .val (.int kk), .val (.int ni), .val (.ref b), .val (.ref kh), .val (.ref kl), .val (.int (1 : Int32)), .unset, .unset, .unset] [(.long (22 : Int64)), (.long q2), (.ref b)])) := by
            refine S29.trans ?_
            refine XS.aload X24.here hx rfl (hb hby at_64) rfl rfl ?_
            show Steps p.tables e below (T24.setTop (mkF m 66 #[.val (.long q1), .second, .val (.long q2), .second, .val (.long q3), .second, .val (.long w1), .second, .val (.long w2), .second, .val (.int kk), .val (.int ni), .val (.ref b), .val (.ref kh), .val (.ref kl), .val (.int (1 : Int32)), .unset, .unset, .unset] [(.ref b)])) _
            refine XS.lloadN X24.here hx rfl (hb hby at_66) rfl ?_
            show Steps p.tables e below (T24.setTop (mkF m 67 #[.val (.long q1), .second, .val (.long q2), .second, .val (.long q3), .second, .val (.long w1), .second, .val (.long w2), .second, .val (.int kk), .val (.int ni), .val (.ref b), .val (.ref kh), .val (.ref kl), .val (.int (1 : Int32)), .unset, .unset, .unset] [(.long q2), (.ref b)])) _
            refine X24.ldc2Long hx hown (mvT hZ (hw _ (List.mem_of_getElem? (i := 24) rfl))) (g := (mkF m 67 #[.val (.long q1), .second, .val (.long q2), .second, .val (.long q3), .second, .val (.long w1), .second, .val (.long w2), .second, .val (.int kk), .val (.int ni), .val (.ref b), .val (.ref kh), .val (.ref kl), .val (.int (1 : Int32)), .unset, .unset, .unset] [(.long q2), (.ref b)])) rfl (hb hby at_67) _ ?_
            exact Steps.refl _
          obtain ⟨cq43, kq43, q43a, q43b, q43c⟩ := isOf hZ e24 E_b_24
          obtain ⟨v43, T43, L43, X43, hQ43, st43⟩ := own_callV X24 hx (y := (⟨"com/example/arcspan/arcspan/io/ForwardHeads", "add", "(JJ)V"⟩ : MethodName)) hown (mvT hZ (hw _ (List.mem_of_getElem? (i := 15) rfl))) (mvT hZ (hw _ (List.mem_of_getElem? (i := 16) rfl))) (mvT hZ (hw _ (List.mem_of_getElem? (i := 18) rfl))) (mvT hZ (hw _ (List.mem_of_getElem? (i := 17) rfl))) (by decide) (backOf (W := 0) (rm2s l Z a0 hw [] b q2 (22 : Int64) ha la (0 : Int32) (1 : Int32) (own_upd (fun _ => (0 : Int64)) (0 : Int32).toNatClampNeg q1) (own_upd (fun _ => (0 : Int64)) (0 : Int32).toNatClampNeg (11 : Int64)) h24 n0 (Nat.le_trans (Nat.le_trans (Nat.le_trans (Nat.le_trans (Nat.le_trans (Nat.le_trans (Nat.le_trans Z0 E2.1) K5.1) E8.1) E11.1) K18.1) (Keep.of_wr W21).1) (Keep.of_wr W24).1) E_b_24 F_heads_b_24 F_lines_b_24 F_first_b_24 F_end_b_24 LH_24 LL_24 g_b gha gla d1 d2 d3 (by decide) (by decide) (by decide) (by decide) hb28) hZ (hw _ (List.mem_of_getElem? (i := 19) rfl)) (hw _ (List.mem_of_getElem? (i := 2) rfl)) (by decide) (by decide)) q43a q43c (g := (mkF m 70 #[.val (.long q1), .second, .val (.long q2), .second, .val (.long q3), .second, .val (.long w1), .second, .val (.long w2), .second, .val (.int kk), .val (.int ni), .val (.ref b), .val (.ref kh), .val (.ref kl), .val (.int (1 : Int32)), .unset, .unset, .unset] [(.long (22 : Int64)), (.long q2), (.ref b)])) rfl (by rw [hml]; rfl) (argsL := [(.long q2), (.long (22 : Int64))]) (rest := []) (lenOf pd_1 rfl) rfl (by show 2 * 0 + _ ≤ _; exact Nat.le_of_eq rfl) (hb hby at_70) ⟨rfl, e24, (by decide : 5 + 0 ≤ _), (by decide : 42 + 0 ≤ _)⟩
          obtain ⟨hv43, N43q, e43⟩ := hQ43
          rw [hv43] at st43
          have N43 := Fr.app N24 N43q
          have S44 : Steps p.tables e below Ω (T43.setTop (mkF m 73 #[.val (.long q1), .second, .val (.long q2), .second, .val (.long q3), .second, .val (.long w1), .second, .val (.long w2), .second, .val (.int kk), .val (.int ni), .val (.ref b), .val (.ref kh), .val (.ref kl), .val (.int (1 : Int32)), .unset, .unset, .unset] [])) := S42.trans st43
          have S45 : Steps p.tables e below Ω (T43.setTop (mkF m 80 #[.val (.long q1), .second, .val (.long q2), .second, .val (.long q3), .second, .val (.long w1), .second, .val (.long w2), .second, .val (.int kk), .val (.int ni), .val (.ref b), .val (.ref kh), .val (.ref kl), .val (.int (1 : Int32)), .unset, .unset, .unset] [(.int (0 : Int32)), (.ref kh), (.long q2)])) := by
            refine S44.trans ?_
            refine XS.lloadN X43.here hx rfl (hb hby at_73) rfl ?_
            show Steps p.tables e below (T43.setTop (mkF m 74 #[.val (.long q1), .second, .val (.long q2), .second, .val (.long q3), .second, .val (.long w1), .second, .val (.long w2), .second, .val (.int kk), .val (.int ni), .val (.ref b), .val (.ref kh), .val (.ref kl), .val (.int (1 : Int32)), .unset, .unset, .unset] [(.long q2)])) _
            refine XS.aload X43.here hx rfl (hb hby at_74) rfl rfl ?_
            show Steps p.tables e below (T43.setTop (mkF m 76 #[.val (.long q1), .second, .val (.long q2), .second, .val (.long q3), .second, .val (.long w1), .second, .val (.long w2), .second, .val (.int kk), .val (.int ni), .val (.ref b), .val (.ref kh), .val (.ref kl), .val (.int (1 : Int32)), .unset, .unset, .unset] [(.ref kh), (.long q2)])) _
            refine XS.iload X43.here hx rfl (hb hby at_76) rfl ?_
            show Steps p.tables e below (T43.setTop (mkF m 78 #[.val (.long q1), .second, .val (.long q2), .second, .val (.long q3), .second, .val (.long w1), .second, .val (.long w2), .second, .val (.int kk), .val (.int ni), .val (.ref b), .val (.ref kh), .val (.ref kl), .val (.int (1 : Int32)), .unset, .unset, .unset] [(.int (1 : Int32)), (.ref kh), (.long q2)])) _
            refine XS.iconst X43.here hx rfl (hb hby at_78) ?_
            show Steps p.tables e below (T43.setTop (mkF m 79 #[.val (.long q1), .second, .val (.long q2), .second, .val (.long q3), .second, .val (.long w1), .second, .val (.long w2), .second, .val (.int kk), .val (.int ni), .val (.ref b), .val (.ref kh), .val (.ref kl), .val (.int (1 : Int32)), .unset, .unset, .unset] [(.int (1 : Int32)), (.int (1 : Int32)), (.ref kh), (.long q2)])) _
            refine XS.isub X43.here hx rfl (hb hby at_79) rfl ?_
            exact Steps.refl _
          have S46 : Steps p.tables e below Ω (T43.setTop (mkF m 81 #[.val (.long q1), .second, .val (.long q2), .second, .val (.long q3), .second, .val (.long w1), .second, .val (.long w2), .second, .val (.int kk), .val (.int ni), .val (.ref b), .val (.ref kh), .val (.ref kl), .val (.int (1 : Int32)), .unset, .unset, .unset] [(.long q1), (.long q2)])) := S45.trans (own_ldJ X43 hx hZ e43 VK_24 (j := (0 : Int32)) (x := q1) (by decide) rfl (g := (mkF m 80 #[.val (.long q1), .second, .val (.long q2), .second, .val (.long q3), .second, .val (.long w1), .second, .val (.long w2), .second, .val (.int kk), .val (.int ni), .val (.ref b), .val (.ref kh), .val (.ref kl), .val (.int (1 : Int32)), .unset, .unset, .unset] [(.int (0 : Int32)), (.ref kh), (.long q2)])) rfl rfl (hb hby at_80) _ (Steps.refl _))
          have S47 : Steps p.tables e below Ω (T43.setTop (mkF m 102 #[.val (.long q1), .second, .val (.long q2), .second, .val (.long q3), .second, .val (.long w1), .second, .val (.long w2), .second, .val (.int kk), .val (.int ni), .val (.ref b), .val (.ref kh), .val (.ref kl), .val (.int (1 : Int32)), .unset, .unset, .unset] [])) := by
            refine S46.trans ?_
            refine XS.lcmp X43.here hx rfl (hb hby at_81) rfl ?_
            show Steps p.tables e below (T43.setTop (mkF m 82 #[.val (.long q1), .second, .val (.long q2), .second, .val (.long q3), .second, .val (.long w1), .second, .val (.long w2), .second, .val (.int kk), .val (.int ni), .val (.ref b), .val (.ref kh), .val (.ref kl), .val (.int (1 : Int32)), .unset, .unset, .unset] [(.int (lcmpW q2 q1))])) _
            refine XS.ifYes X43.here hx rfl (pc0 := 82) (pc' := 102) rfl (hb hby at_82) rfl (XT.ll_le_t hb28) (by decide) (by decide) ?_
            exact Steps.refl _
          have S70 : Steps p.tables e below Ω (T43.setTop (mkF m 105 #[.val (.long q1), .second, .val (.long q2), .second, .val (.long q3), .second, .val (.long w1), .second, .val (.long w2), .second, .val (.int kk), .val (.int ni), .val (.ref b), .val (.ref kh), .val (.ref kl), .val (.int (1 : Int32)), .unset, .unset, .unset] [(.int (3 : Int32)), (.int ni)])) := by
            refine S47.trans ?_
            refine XS.iload X43.here hx rfl (hb hby at_102) rfl ?_
            show Steps p.tables e below (T43.setTop (mkF m 104 #[.val (.long q1), .second, .val (.long q2), .second, .val (.long q3), .second, .val (.long w1), .second, .val (.long w2), .second, .val (.int kk), .val (.int ni), .val (.ref b), .val (.ref kh), .val (.ref kl), .val (.int (1 : Int32)), .unset, .unset, .unset] [(.int ni)])) _
            refine XS.iconst X43.here hx rfl (hb hby at_104) ?_
            exact Steps.refl _
          by_cases hC : ni < (3 : Int32)
          · have qhC : ni.toInt < 3 := Int32.lt_iff_toInt_lt.mp hC
            have S71 : Steps p.tables e below Ω (T43.setTop (mkF m 149 #[.val (.long q1), .second, .val (.long q2), .second, .val (.long q3), .second, .val (.long w1), .second, .val (.long w2), .second, .val (.int kk), .val (.int ni), .val (.ref b), .val (.ref kh), .val (.ref kl), .val (.int (1 : Int32)), .unset, .unset, .unset] [])) := by
              refine S70.trans ?_
              refine XS.icmpYes X43.here hx rfl (pc0 := 105) (pc' := 149) rfl (hb hby at_105) rfl (XT.ii_lt_t hC) (by decide) (by decide) ?_
              exact Steps.refl _
            exact ⟨T43, _, _, (1 : Int32), (own_upd (fun _ => (0 : Int64)) (0 : Int32).toNatClampNeg q1), (own_upd (fun _ => (0 : Int64)) (0 : Int32).toNatClampNeg (11 : Int64)), q1, (0 : Int64), (0 : Int64), (11 : Int64), (0 : Int64), (0 : Int64), X43, e43, N43, (Nat.le_trans (Nat.le_trans (Nat.le_trans (Nat.le_trans (Nat.le_trans (Nat.le_trans (Nat.le_trans Z0 E2.1) K5.1) E8.1) E11.1) K18.1) (Keep.of_wr W21).1) (Keep.of_wr W24).1), E_b_24, F_heads_b_24, F_lines_b_24, F_first_b_24, F_end_b_24, LH_24, LL_24, VK_24, V24, by decide, by decide, (fun _ => ⟨rfl, rfl⟩), (fun z => absurd z (by decide)), (fun z => absurd z (by decide)), S71⟩
          · have qhC : ¬ ni.toInt < 3 := fun q => hC (Int32.lt_iff_toInt_lt.mpr q)
            have S73 : Steps p.tables e below Ω (T43.setTop (mkF m 108 #[.val (.long q1), .second, .val (.long q2), .second, .val (.long q3), .second, .val (.long w1), .second, .val (.long w2), .second, .val (.int kk), .val (.int ni), .val (.ref b), .val (.ref kh), .val (.ref kl), .val (.int (1 : Int32)), .unset, .unset, .unset] [])) := by
              refine S70.trans ?_
              refine XS.icmpNo X43.here hx rfl (hb hby at_105) rfl (XT.ii_lt_f hC) ?_
              exact Steps.refl _
            by_cases hb72 : q1 < q3
            · have S74 : Steps p.tables e below Ω (T43.setTop (mkF m 115 #[.val (.long q1), .second, .val (.long q2), .second, .val (.long q3), .second, .val (.long w1), .second, .val (.long w2), .second, .val (.int kk), .val (.int ni), .val (.ref b), .val (.ref kh), .val (.ref kl), .val (.int (1 : Int32)), .unset, .unset, .unset] [(.long (33 : Int64)), (.long q3), (.ref b)])) := by
                refine S73.trans ?_
                refine XS.aload X43.here hx rfl (hb hby at_108) rfl rfl ?_
                show Steps p.tables e below (T43.setTop (mkF m 110 #[.val (.long q1), .second, .val (.long q2), .second, .val (.long q3), .second, .val (.long w1), .second, .val (.long w2), .second, .val (.int kk), .val (.int ni), .val (.ref b), .val (.ref kh), .val (.ref kl), .val (.int (1 : Int32)), .unset, .unset, .unset] [(.ref b)])) _
                refine XS.lload X43.here hx rfl (hb hby at_110) rfl ?_
                show Steps p.tables e below (T43.setTop (mkF m 112 #[.val (.long q1), .second, .val (.long q2), .second, .val (.long q3), .second, .val (.long w1), .second, .val (.long w2), .second, .val (.int kk), .val (.int ni), .val (.ref b), .val (.ref kh), .val (.ref kl), .val (.int (1 : Int32)), .unset, .unset, .unset] [(.long q3), (.ref b)])) _
                refine X43.ldc2Long hx hown (mvT hZ (hw _ (List.mem_of_getElem? (i := 39) rfl))) (g := (mkF m 112 #[.val (.long q1), .second, .val (.long q2), .second, .val (.long q3), .second, .val (.long w1), .second, .val (.long w2), .second, .val (.int kk), .val (.int ni), .val (.ref b), .val (.ref kh), .val (.ref kl), .val (.int (1 : Int32)), .unset, .unset, .unset] [(.long q3), (.ref b)])) rfl (hb hby at_112) _ ?_
                exact Steps.refl _
              obtain ⟨cq75, kq75, q75a, q75b, q75c⟩ := isOf hZ e43 E_b_24
              obtain ⟨v75, T75, L75, X75, hQ75, st75⟩ := own_callV X43 hx (y := (⟨"com/example/arcspan/arcspan/io/ForwardHeads", "add", "(JJ)V"⟩ : MethodName)) hown (mvT hZ (hw _ (List.mem_of_getElem? (i := 15) rfl))) (mvT hZ (hw _ (List.mem_of_getElem? (i := 16) rfl))) (mvT hZ (hw _ (List.mem_of_getElem? (i := 18) rfl))) (mvT hZ (hw _ (List.mem_of_getElem? (i := 17) rfl))) (by decide) (backOf (W := 0) (rm2p l Z a0 hw [] b q3 (33 : Int64) ha la (0 : Int32) (1 : Int32) (own_upd (fun _ => (0 : Int64)) (0 : Int32).toNatClampNeg q1) (own_upd (fun _ => (0 : Int64)) (0 : Int32).toNatClampNeg (11 : Int64)) h24 n0 (Nat.le_trans (Nat.le_trans (Nat.le_trans (Nat.le_trans (Nat.le_trans (Nat.le_trans (Nat.le_trans Z0 E2.1) K5.1) E8.1) E11.1) K18.1) (Keep.of_wr W21).1) (Keep.of_wr W24).1) E_b_24 F_heads_b_24 F_lines_b_24 F_first_b_24 F_end_b_24 LH_24 LL_24 g_b gha gla d1 d2 d3 (by decide) (by decide) (fun _ => ⟨by decide, hb72⟩)) hZ (hw _ (List.mem_of_getElem? (i := 19) rfl)) (hw _ (List.mem_of_getElem? (i := 2) rfl)) (by decide) (by decide)) q75a q75c (g := (mkF m 115 #[.val (.long q1), .second, .val (.long q2), .second, .val (.long q3), .second, .val (.long w1), .second, .val (.long w2), .second, .val (.int kk), .val (.int ni), .val (.ref b), .val (.ref kh), .val (.ref kl), .val (.int (1 : Int32)), .unset, .unset, .unset] [(.long (33 : Int64)), (.long q3), (.ref b)])) rfl (by rw [hml]; rfl) (argsL := [(.long q3), (.long (33 : Int64))]) (rest := []) (lenOf pd_1 rfl) rfl (by show 2 * 0 + _ ≤ _; exact Nat.le_of_eq rfl) (hb hby at_115) ⟨rfl, e43, (by decide : 5 + 0 ≤ _), (by decide : 42 + 0 ≤ _)⟩
              obtain ⟨hv75, N75q, K75, E75, Ph75, Pl75, Pf75, Pe75, LH75, LL75⟩ := hQ75
              rw [hv75] at st75
              have N75 := Fr.app N43 N75q
              have S76 : Steps p.tables e below Ω (T75.setTop (mkF m 118 #[.val (.long q1), .second, .val (.long q2), .second, .val (.long q3), .second, .val (.long w1), .second, .val (.long w2), .second, .val (.int kk), .val (.int ni), .val (.ref b), .val (.ref kh), .val (.ref kl), .val (.int (1 : Int32)), .unset, .unset, .unset] [])) := S74.trans st75
              have VK75 := VK_24.keep K75 (ninS (Ne.symm x3) (ninS (Ne.symm x1) (ninS (Ne.symm x2) nin0)))
              have VL75 := V24.keep K75 (ninS (Ne.symm x6) (ninS (Ne.symm x4) (ninS (Ne.symm x5) nin0)))
              have S77 : Steps p.tables e below Ω (T75.setTop (mkF m 126 #[.val (.long q1), .second, .val (.long q2), .second, .val (.long q3), .second, .val (.long w1), .second, .val (.long w2), .second, .val (.int kk), .val (.int ni), .val (.ref b), .val (.ref kh), .val (.ref kl), .val (.int (1 : Int32)), .unset, .unset, .unset] [(.int (0 : Int32)), (.ref kh), (.long q3)])) := by
                refine S76.trans ?_
                refine XS.lload X75.here hx rfl (hb hby at_118) rfl ?_
                show Steps p.tables e below (T75.setTop (mkF m 120 #[.val (.long q1), .second, .val (.long q2), .second, .val (.long q3), .second, .val (.long w1), .second, .val (.long w2), .second, .val (.int kk), .val (.int ni), .val (.ref b), .val (.ref kh), .val (.ref kl), .val (.int (1 : Int32)), .unset, .unset, .unset] [(.long q3)])) _
                refine XS.aload X75.here hx rfl (hb hby at_120) rfl rfl ?_
                show Steps p.tables e below (T75.setTop (mkF m 122 #[.val (.long q1), .second, .val (.long q2), .second, .val (.long q3), .second, .val (.long w1), .second, .val (.long w2), .second, .val (.int kk), .val (.int ni), .val (.ref b), .val (.ref kh), .val (.ref kl), .val (.int (1 : Int32)), .unset, .unset, .unset] [(.ref kh), (.long q3)])) _
                refine XS.iload X75.here hx rfl (hb hby at_122) rfl ?_
                show Steps p.tables e below (T75.setTop (mkF m 124 #[.val (.long q1), .second, .val (.long q2), .second, .val (.long q3), .second, .val (.long w1), .second, .val (.long w2), .second, .val (.int kk), .val (.int ni), .val (.ref b), .val (.ref kh), .val (.ref kl), .val (.int (1 : Int32)), .unset, .unset, .unset] [(.int (1 : Int32)), (.ref kh), (.long q3)])) _
                refine XS.iconst X75.here hx rfl (hb hby at_124) ?_
                show Steps p.tables e below (T75.setTop (mkF m 125 #[.val (.long q1), .second, .val (.long q2), .second, .val (.long q3), .second, .val (.long w1), .second, .val (.long w2), .second, .val (.int kk), .val (.int ni), .val (.ref b), .val (.ref kh), .val (.ref kl), .val (.int (1 : Int32)), .unset, .unset, .unset] [(.int (1 : Int32)), (.int (1 : Int32)), (.ref kh), (.long q3)])) _
                refine XS.isub X75.here hx rfl (hb hby at_125) rfl ?_
                exact Steps.refl _
              have S78 : Steps p.tables e below Ω (T75.setTop (mkF m 127 #[.val (.long q1), .second, .val (.long q2), .second, .val (.long q3), .second, .val (.long w1), .second, .val (.long w2), .second, .val (.int kk), .val (.int ni), .val (.ref b), .val (.ref kh), .val (.ref kl), .val (.int (1 : Int32)), .unset, .unset, .unset] [(.long q1), (.long q3)])) := S77.trans (own_ldJ X75 hx hZ rfl VK75 (j := (0 : Int32)) (x := q1) (by decide) rfl (g := (mkF m 126 #[.val (.long q1), .second, .val (.long q2), .second, .val (.long q3), .second, .val (.long w1), .second, .val (.long w2), .second, .val (.int kk), .val (.int ni), .val (.ref b), .val (.ref kh), .val (.ref kl), .val (.int (1 : Int32)), .unset, .unset, .unset] [(.int (0 : Int32)), (.ref kh), (.long q3)])) rfl rfl (hb hby at_126) _ (Steps.refl _))
              have S79 : Steps p.tables e below Ω (T75.setTop (mkF m 137 #[.val (.long q1), .second, .val (.long q2), .second, .val (.long q3), .second, .val (.long w1), .second, .val (.long w2), .second, .val (.int kk), .val (.int ni), .val (.ref b), .val (.ref kh), .val (.ref kl), .val (.int (1 : Int32)), .unset, .unset, .unset] [(.long q3), (.int (1 : Int32)), (.ref kh)])) := by
                refine S78.trans ?_
                refine XS.lcmp X75.here hx rfl (hb hby at_127) rfl ?_
                show Steps p.tables e below (T75.setTop (mkF m 128 #[.val (.long q1), .second, .val (.long q2), .second, .val (.long q3), .second, .val (.long w1), .second, .val (.long w2), .second, .val (.int kk), .val (.int ni), .val (.ref b), .val (.ref kh), .val (.ref kl), .val (.int (1 : Int32)), .unset, .unset, .unset] [(.int (lcmpW q3 q1))])) _
                refine XS.ifNo X75.here hx rfl (hb hby at_128) rfl (XT.ll_le_f hb72) ?_
                show Steps p.tables e below (T75.setTop (mkF m 131 #[.val (.long q1), .second, .val (.long q2), .second, .val (.long q3), .second, .val (.long w1), .second, .val (.long w2), .second, .val (.int kk), .val (.int ni), .val (.ref b), .val (.ref kh), .val (.ref kl), .val (.int (1 : Int32)), .unset, .unset, .unset] [])) _
                refine XS.aload X75.here hx rfl (hb hby at_131) rfl rfl ?_
                show Steps p.tables e below (T75.setTop (mkF m 133 #[.val (.long q1), .second, .val (.long q2), .second, .val (.long q3), .second, .val (.long w1), .second, .val (.long w2), .second, .val (.int kk), .val (.int ni), .val (.ref b), .val (.ref kh), .val (.ref kl), .val (.int (1 : Int32)), .unset, .unset, .unset] [(.ref kh)])) _
                refine XS.iload X75.here hx rfl (hb hby at_133) rfl ?_
                show Steps p.tables e below (T75.setTop (mkF m 135 #[.val (.long q1), .second, .val (.long q2), .second, .val (.long q3), .second, .val (.long w1), .second, .val (.long w2), .second, .val (.int kk), .val (.int ni), .val (.ref b), .val (.ref kh), .val (.ref kl), .val (.int (1 : Int32)), .unset, .unset, .unset] [(.int (1 : Int32)), (.ref kh)])) _
                refine XS.lload X75.here hx rfl (hb hby at_135) rfl ?_
                exact Steps.refl _
              obtain ⟨T80, h80, X80, e80, W80, V80', st80⟩ := own_stJ X75 hx hZ rfl VK75 (j := (1 : Int32)) (i := 1) rfl ⟨by decide, Nat.le_of_ble_eq_true rfl⟩ (g := (mkF m 137 #[.val (.long q1), .second, .val (.long q2), .second, .val (.long q3), .second, .val (.long w1), .second, .val (.long w2), .second, .val (.int kk), .val (.int ni), .val (.ref b), .val (.ref kh), .val (.ref kl), .val (.int (1 : Int32)), .unset, .unset, .unset] [(.long q3), (.int (1 : Int32)), (.ref kh)])) rfl rfl (hb hby at_137)
              have V80 : LA Z h80 kh .long [(.long q1), (.long q3), (.long (0 : Int64))] := V80'
              have S81 : Steps p.tables e below Ω (T80.setTop (mkF m 138 #[.val (.long q1), .second, .val (.long q2), .second, .val (.long q3), .second, .val (.long w1), .second, .val (.long w2), .second, .val (.int kk), .val (.int ni), .val (.ref b), .val (.ref kh), .val (.ref kl), .val (.int (1 : Int32)), .unset, .unset, .unset] [])) := S79.trans (st80 _ (Steps.refl _))
              have N80 := Fr.snoc X80 N75 g_kh
              have LH_80 := LH75.other W80 x1
              have LL_80 := LL75.other W80 x2
              have VL_80 := VL75.other W80 (Ne.symm x7)
              have E_b_80 := (E75).wr W80
              have F_heads_b_80 : Fld Z h80 b "com/example/arcspan/arcspan/io/ForwardHeads" "heads" "[J" (.ref ha) := (Ph75).other W80 (Or.inl x3)
              have F_lines_b_80 : Fld Z h80 b "com/example/arcspan/arcspan/io/ForwardHeads" "lines" "[J" (.ref la) := (Pl75).other W80 (Or.inl x3)
              have F_first_b_80 : Fld Z h80 b "com/example/arcspan/arcspan/io/ForwardHeads" "first" "I" (.int (0 : Int32)) := (Pf75).other W80 (Or.inl x3)
              have F_end_b_80 : Fld Z h80 b "com/example/arcspan/arcspan/io/ForwardHeads" "end" "I" (.int (2 : Int32)) := (Pe75).other W80 (Or.inl x3)
              have S82 : Steps p.tables e below Ω (T80.setTop (mkF m 145 #[.val (.long q1), .second, .val (.long q2), .second, .val (.long q3), .second, .val (.long w1), .second, .val (.long w2), .second, .val (.int kk), .val (.int ni), .val (.ref b), .val (.ref kh), .val (.ref kl), .val (.int (1 : Int32)), .unset, .unset, .unset] [(.long (33 : Int64)), (.int (1 : Int32)), (.ref kl)])) := by
                refine S81.trans ?_
                refine XS.aload X80.here hx rfl (hb hby at_138) rfl rfl ?_
                show Steps p.tables e below (T80.setTop (mkF m 140 #[.val (.long q1), .second, .val (.long q2), .second, .val (.long q3), .second, .val (.long w1), .second, .val (.long w2), .second, .val (.int kk), .val (.int ni), .val (.ref b), .val (.ref kh), .val (.ref kl), .val (.int (1 : Int32)), .unset, .unset, .unset] [(.ref kl)])) _
                refine XS.iload X80.here hx rfl (hb hby at_140) rfl ?_
                show Steps p.tables e below (T80.setTop (mkF m 142 #[.val (.long q1), .second, .val (.long q2), .second, .val (.long q3), .second, .val (.long w1), .second, .val (.long w2), .second, .val (.int kk), .val (.int ni), .val (.ref b), .val (.ref kh), .val (.ref kl), .val (.int (1 : Int32)), .unset, .unset, .unset] [(.int (1 : Int32)), (.ref kl)])) _
                refine X80.ldc2Long hx hown (mvT hZ (hw _ (List.mem_of_getElem? (i := 39) rfl))) (g := (mkF m 142 #[.val (.long q1), .second, .val (.long q2), .second, .val (.long q3), .second, .val (.long w1), .second, .val (.long w2), .second, .val (.int kk), .val (.int ni), .val (.ref b), .val (.ref kh), .val (.ref kl), .val (.int (1 : Int32)), .unset, .unset, .unset] [(.int (1 : Int32)), (.ref kl)])) rfl (hb hby at_142) _ ?_
                exact Steps.refl _
              obtain ⟨T83, h83, X83, e83, W83, V83', st83⟩ := own_stJ X80 hx hZ e80 VL_80 (j := (1 : Int32)) (i := 1) rfl ⟨by decide, Nat.le_of_ble_eq_true rfl⟩ (g := (mkF m 145 #[.val (.long q1), .second, .val (.long q2), .second, .val (.long q3), .second, .val (.long w1), .second, .val (.long w2), .second, .val (.int kk), .val (.int ni), .val (.ref b), .val (.ref kh), .val (.ref kl), .val (.int (1 : Int32)), .unset, .unset, .unset] [(.long (33 : Int64)), (.int (1 : Int32)), (.ref kl)])) rfl rfl (hb hby at_145)
              have V83 : LA Z h83 kl .long [(.long (11 : Int64)), (.long (33 : Int64)), (.long (0 : Int64))] := V83'
              have S84 : Steps p.tables e below Ω (T83.setTop (mkF m 146 #[.val (.long q1), .second, .val (.long q2), .second, .val (.long q3), .second, .val (.long w1), .second, .val (.long w2), .second, .val (.int kk), .val (.int ni), .val (.ref b), .val (.ref kh), .val (.ref kl), .val (.int (1 : Int32)), .unset, .unset, .unset] [])) := S82.trans (st83 _ (Steps.refl _))
              have N83 := Fr.snoc X83 N80 g_kl
              have LH_83 := LH_80.other W83 x4
              have LL_83 := LL_80.other W83 x5
              have VK_83 := V80.other W83 x7
              have E_b_83 := (E_b_80).wr W83
              have F_heads_b_83 : Fld Z h83 b "com/example/arcspan/arcspan/io/ForwardHeads" "heads" "[J" (.ref ha) := (F_heads_b_80).other W83 (Or.inl x6)
              have F_lines_b_83 : Fld Z h83 b "com/example/arcspan/arcspan/io/ForwardHeads" "lines" "[J" (.ref la) := (F_lines_b_80).other W83 (Or.inl x6)
              have F_first_b_83 : Fld Z h83 b "com/example/arcspan/arcspan/io/ForwardHeads" "first" "I" (.int (0 : Int32)) := (F_first_b_80).other W83 (Or.inl x6)
              have F_end_b_83 : Fld Z h83 b "com/example/arcspan/arcspan/io/ForwardHeads" "end" "I" (.int (2 : Int32)) := (F_end_b_80).other W83 (Or.inl x6)
              have S85 : Steps p.tables e below Ω (T83.setTop (mkF m 149 #[.val (.long q1), .second, .val (.long q2), .second, .val (.long q3), .second, .val (.long w1), .second, .val (.long w2), .second, .val (.int kk), .val (.int ni), .val (.ref b), .val (.ref kh), .val (.ref kl), .val (.int (2 : Int32)), .unset, .unset, .unset] [])) := by
                refine S84.trans ?_
                refine XS.iinc X83.here hx rfl (hb hby at_146) rfl (l' := #[.val (.long q1), .second, .val (.long q2), .second, .val (.long q3), .second, .val (.long w1), .second, .val (.long w2), .second, .val (.int kk), .val (.int ni), .val (.ref b), .val (.ref kh), .val (.ref kl), .val (.int (2 : Int32)), .unset, .unset, .unset]) rfl ?_
                exact Steps.refl _
              exact ⟨T83, _, _, (2 : Int32), (own_upd (own_upd (fun _ => (0 : Int64)) (0 : Int32).toNatClampNeg q1) (1 : Int32).toNatClampNeg q3), (own_upd (own_upd (fun _ => (0 : Int64)) (0 : Int32).toNatClampNeg (11 : Int64)) (1 : Int32).toNatClampNeg (33 : Int64)), q1, q3, (0 : Int64), (11 : Int64), (33 : Int64), (0 : Int64), X83, e83, N83, (Nat.le_trans (Nat.le_trans (Nat.le_trans (Nat.le_trans (Nat.le_trans (Nat.le_trans (Nat.le_trans (Nat.le_trans (Nat.le_trans (Nat.le_trans Z0 E2.1) K5.1) E8.1) E11.1) K18.1) (Keep.of_wr W21).1) (Keep.of_wr W24).1) K75.1) (Keep.of_wr W80).1) (Keep.of_wr W83).1), E_b_83, F_heads_b_83, F_lines_b_83, F_first_b_83, F_end_b_83, LH_83, LL_83, VK_83, V83, by decide, by decide, (fun _ => ⟨rfl, rfl⟩), (fun _ => ⟨rfl, rfl, (Int64.lt_iff_toInt_lt.mp hb72)⟩), (fun z => absurd z (by decide)), S85⟩
            · have S86 : Steps p.tables e below Ω (T43.setTop (mkF m 115 #[.val (.long q1), .second, .val (.long q2), .second, .val (.long q3), .second, .val (.long w1), .second, .val (.long w2), .second, .val (.int kk), .val (.int ni), .val (.ref b), .val (.ref kh), .val (.ref kl), .val (.int (1 : Int32)), .unset, .unset, .unset] [(.long (33 : Int64)), (.long q3), (.ref b)])) := by
                refine S73.trans ?_
                refine XS.aload X43.here hx rfl (hb hby at_108) rfl rfl ?_
                show Steps p.tables e below (T43.setTop (mkF m 110 #[.val (.long q1), .second, .val (.long q2), .second, .val (.long q3), .second, .val (.long w1), .second, .val (.long w2), .second, .val (.int kk), .val (.int ni), .val (.ref b), .val (.ref kh), .val (.ref kl), .val (.int (1 : Int32)), .unset, .unset, .unset] [(.ref b)])) _
                refine XS.lload X43.here hx rfl (hb hby at_110) rfl ?_
                show Steps p.tables e below (T43.setTop (mkF m 112 #[.val (.long q1), .second, .val (.long q2), .second, .val (.long q3), .second, .val (.long w1), .second, .val (.long w2), .second, .val (.int kk), .val (.int ni), .val (.ref b), .val (.ref kh), .val (.ref kl), .val (.int (1 : Int32)), .unset, .unset, .unset] [(.long q3), (.ref b)])) _
                refine X43.ldc2Long hx hown (mvT hZ (hw _ (List.mem_of_getElem? (i := 39) rfl))) (g := (mkF m 112 #[.val (.long q1), .second, .val (.long q2), .second, .val (.long q3), .second, .val (.long w1), .second, .val (.long w2), .second, .val (.int kk), .val (.int ni), .val (.ref b), .val (.ref kh), .val (.ref kl), .val (.int (1 : Int32)), .unset, .unset, .unset] [(.long q3), (.ref b)])) rfl (hb hby at_112) _ ?_
                exact Steps.refl _
              obtain ⟨cq87, kq87, q87a, q87b, q87c⟩ := isOf hZ e43 E_b_24
              obtain ⟨v87, T87, L87, X87, hQ87, st87⟩ := own_callV X43 hx (y := (⟨"com/example/arcspan/arcspan/io/ForwardHeads", "add", "(JJ)V"⟩ : MethodName)) hown (mvT hZ (hw _ (List.mem_of_getElem? (i := 15) rfl))) (mvT hZ (hw _ (List.mem_of_getElem? (i := 16) rfl))) (mvT hZ (hw _ (List.mem_of_getElem? (i := 18) rfl))) (mvT hZ (hw _ (List.mem_of_getElem? (i := 17) rfl))) (by decide) (backOf (W := 0) (rm2s l Z a0 hw [] b q3 (33 : Int64) ha la (0 : Int32) (1 : Int32) (own_upd (fun _ => (0 : Int64)) (0 : Int32).toNatClampNeg q1) (own_upd (fun _ => (0 : Int64)) (0 : Int32).toNatClampNeg (11 : Int64)) h24 n0 (Nat.le_trans (Nat.le_trans (Nat.le_trans (Nat.le_trans (Nat.le_trans (Nat.le_trans (Nat.le_trans Z0 E2.1) K5.1) E8.1) E11.1) K18.1) (Keep.of_wr W21).1) (Keep.of_wr W24).1) E_b_24 F_heads_b_24 F_lines_b_24 F_first_b_24 F_end_b_24 LH_24 LL_24 g_b gha gla d1 d2 d3 (by decide) (by decide) (by decide) (by decide) hb72) hZ (hw _ (List.mem_of_getElem? (i := 19) rfl)) (hw _ (List.mem_of_getElem? (i := 2) rfl)) (by decide) (by decide)) q87a q87c (g := (mkF m 115 #[.val (.long q1), .second, .val (.long q2), .second, .val (.long q3), .second, .val (.long w1), .second, .val (.long w2), .second, .val (.int kk), .val (.int ni), .val (.ref b), .val (.ref kh), .val (.ref kl), .val (.int (1 : Int32)), .unset, .unset, .unset] [(.long (33 : Int64)), (.long q3), (.ref b)])) rfl (by rw [hml]; rfl) (argsL := [(.long q3), (.long (33 : Int64))]) (rest := []) (lenOf pd_1 rfl) rfl (by show 2 * 0 + _ ≤ _; exact Nat.le_of_eq rfl) (hb hby at_115) ⟨rfl, e43, (by decide : 5 + 0 ≤ _), (by decide : 42 + 0 ≤ _)⟩
              obtain ⟨hv87, N87q, e87⟩ := hQ87
              rw [hv87] at st87
              have N87 := Fr.app N43 N87q
              have S88 : Steps p.tables e below Ω (T87.setTop (mkF m 118 #[.val (.long q1), .second, .val (.long q2), .second, .val (.long q3), .second, .val (.long w1), .second, .val (.long w2), .second, .val (.int kk), .val (.int ni), .val (.ref b), .val (.ref kh), .val (.ref kl), .val (.int (1 : Int32)), .unset, .unset, .unset] [])) := S86.trans st87
              have S89 : Steps p.tables e below Ω (T87.setTop (mkF m 126 #[.val (.long q1), .second, .val (.long q2), .second, .val (.long q3), .second, .val (.long w1), .second, .val (.long w2), .second, .val (.int kk), .val (.int ni), .val (.ref b), .val (.ref kh), .val (.ref kl), .val (.int (1 : Int32)), .unset, .unset, .unset] [(.int (0 : Int32)), (.ref kh), (.long q3)])) := by
                refine S88.trans ?_
                refine XS.lload X87.here hx rfl (hb hby at_118) rfl ?_
                show Steps p.tables e below (T87.setTop (mkF m 120 #[.val (.long q1), .second, .val (.long q2), .second, .val (.long q3), .second, .val (.long w1), .second, .val (.long w2), .second, .val (.int kk), .val (.int ni), .val (.ref b), .val (.ref kh), .val (.ref kl), .val (.int (1 : Int32)), .unset, .unset, .unset] [(.long q3)])) _
                refine XS.aload X87.here hx rfl (hb hby at_120) rfl rfl ?_
                show Steps p.tables e below (T87.setTop (mkF m 122 #[.val (.long q1), .second, .val (.long q2), .second, .val (.long q3), .second, .val (.long w1), .second, .val (.long w2), .second, .val (.int kk), .val (.int ni), .val (.ref b), .val (.ref kh), .val (.ref kl), .val (.int (1 : Int32)), .unset, .unset, .unset] [(.ref kh), (.long q3)])) _
                refine XS.iload X87.here hx rfl (hb hby at_122) rfl ?_
                show Steps p.tables e below (T87.setTop (mkF m 124 #[.val (.long q1), .second, .val (.long q2), .second, .val (.long q3), .second, .val (.long w1), .second, .val (.long w2), .second, .val (.int kk), .val (.int ni), .val (.ref b), .val (.ref kh), .val (.ref kl), .val (.int (1 : Int32)), .unset, .unset, .unset] [(.int (1 : Int32)), (.ref kh), (.long q3)])) _
                refine XS.iconst X87.here hx rfl (hb hby at_124) ?_
                show Steps p.tables e below (T87.setTop (mkF m 125 #[.val (.long q1), .second, .val (.long q2), .second, .val (.long q3), .second, .val (.long w1), .second, .val (.long w2), .second, .val (.int kk), .val (.int ni), .val (.ref b), .val (.ref kh), .val (.ref kl), .val (.int (1 : Int32)), .unset, .unset, .unset] [(.int (1 : Int32)), (.int (1 : Int32)), (.ref kh), (.long q3)])) _
                refine XS.isub X87.here hx rfl (hb hby at_125) rfl ?_
                exact Steps.refl _
              have S90 : Steps p.tables e below Ω (T87.setTop (mkF m 127 #[.val (.long q1), .second, .val (.long q2), .second, .val (.long q3), .second, .val (.long w1), .second, .val (.long w2), .second, .val (.int kk), .val (.int ni), .val (.ref b), .val (.ref kh), .val (.ref kl), .val (.int (1 : Int32)), .unset, .unset, .unset] [(.long q1), (.long q3)])) := S89.trans (own_ldJ X87 hx hZ e87 VK_24 (j := (0 : Int32)) (x := q1) (by decide) rfl (g := (mkF m 126 #[.val (.long q1), .second, .val (.long q2), .second, .val (.long q3), .second, .val (.long w1), .second, .val (.long w2), .second, .val (.int kk), .val (.int ni), .val (.ref b), .val (.ref kh), .val (.ref kl), .val (.int (1 : Int32)), .unset, .unset, .unset] [(.int (0 : Int32)), (.ref kh), (.long q3)])) rfl rfl (hb hby at_126) _ (Steps.refl _))
              have S91 : Steps p.tables e below Ω (T87.setTop (mkF m 149 #[.val (.long q1), .second, .val (.long q2), .second, .val (.long q3), .second, .val (.long w1), .second, .val (.long w2), .second, .val (.int kk), .val (.int ni), .val (.ref b), .val (.ref kh), .val (.ref kl), .val (.int (1 : Int32)), .unset, .unset, .unset] [])) := by
                refine S90.trans ?_
                refine XS.lcmp X87.here hx rfl (hb hby at_127) rfl ?_
                show Steps p.tables e below (T87.setTop (mkF m 128 #[.val (.long q1), .second, .val (.long q2), .second, .val (.long q3), .second, .val (.long w1), .second, .val (.long w2), .second, .val (.int kk), .val (.int ni), .val (.ref b), .val (.ref kh), .val (.ref kl), .val (.int (1 : Int32)), .unset, .unset, .unset] [(.int (lcmpW q3 q1))])) _
                refine XS.ifYes X87.here hx rfl (pc0 := 128) (pc' := 149) rfl (hb hby at_128) rfl (XT.ll_le_t hb72) (by decide) (by decide) ?_
                exact Steps.refl _
              exact ⟨T87, _, _, (1 : Int32), (own_upd (fun _ => (0 : Int64)) (0 : Int32).toNatClampNeg q1), (own_upd (fun _ => (0 : Int64)) (0 : Int32).toNatClampNeg (11 : Int64)), q1, (0 : Int64), (0 : Int64), (11 : Int64), (0 : Int64), (0 : Int64), X87, e87, N87, (Nat.le_trans (Nat.le_trans (Nat.le_trans (Nat.le_trans (Nat.le_trans (Nat.le_trans (Nat.le_trans Z0 E2.1) K5.1) E8.1) E11.1) K18.1) (Keep.of_wr W21).1) (Keep.of_wr W24).1), E_b_24, F_heads_b_24, F_lines_b_24, F_first_b_24, F_end_b_24, LH_24, LL_24, VK_24, V24, by decide, by decide, (fun _ => ⟨rfl, rfl⟩), (fun z => absurd z (by decide)), (fun z => absurd z (by decide)), S91⟩
  have S92 : Steps p.tables e below Ω (Tm.setTop (mkF m 153 #[.val (.long q1), .second, .val (.long q2), .second, .val (.long q3), .second, .val (.long w1), .second, .val (.long w2), .second, .val (.int kk), .val (.int ni), .val (.ref b), .val (.ref kh), .val (.ref kl), .val (.int en), .unset, .unset, .unset] [(.long w1), (.ref b)])) := by
    refine Sm.trans ?_
    refine XS.aload Xm.here hx rfl (hb hby at_149) rfl rfl ?_
    show Steps p.tables e below (Tm.setTop (mkF m 151 #[.val (.long q1), .second, .val (.long q2), .second, .val (.long q3), .second, .val (.long w1), .second, .val (.long w2), .second, .val (.int kk), .val (.int ni), .val (.ref b), .val (.ref kh), .val (.ref kl), .val (.int en), .unset, .unset, .unset] [(.ref b)])) _
    refine XS.lload Xm.here hx rfl (hb hby at_151) rfl ?_
    exact Steps.refl _
  obtain ⟨cq93, kq93, q93a, q93b, q93c⟩ := isOf hZ em Em
  obtain ⟨v93, T93, L93, X93, hQ93, st93⟩ := own_callV Xm hx (y := (⟨"com/example/arcspan/arcspan/io/ForwardHeads", "reached", "(J)V"⟩ : MethodName)) hown (mvT hZ (hw _ (List.mem_of_getElem? (i := 25) rfl))) (mvT hZ (hw _ (List.mem_of_getElem? (i := 26) rfl))) (mvT hZ (hw _ (List.mem_of_getElem? (i := 28) rfl))) (mvT hZ (hw _ (List.mem_of_getElem? (i := 27) rfl))) (by decide) (backOf (W := 0) (rm4 l Z a0 hw [] b w1 ha la (0 : Int32) en g1 hm n0 Zm Em Mh Ml Mf Me MH g_b d2 (by decide) (by omega) (by omega)) hZ (hw _ (List.mem_of_getElem? (i := 29) rfl)) (hw _ (List.mem_of_getElem? (i := 2) rfl)) (by decide) (by decide)) q93a q93c (g := (mkF m 153 #[.val (.long q1), .second, .val (.long q2), .second, .val (.long q3), .second, .val (.long w1), .second, .val (.long w2), .second, .val (.int kk), .val (.int ni), .val (.ref b), .val (.ref kh), .val (.ref kl), .val (.int en), .unset, .unset, .unset] [(.long w1), (.ref b)])) rfl (by rw [hml]; rfl) (argsL := [(.long w1)]) (rest := []) (lenOf pd_2 rfl) rfl (by show 2 * 0 + _ ≤ _; exact Nat.le_of_eq rfl) (hb hby at_153) ⟨rfl, em, (by decide : 5 + 0 ≤ _), (by decide : 42 + 0 ≤ _)⟩
  obtain ⟨f1, hv93, N93q, K93, E93, Ph93, Pl93, Pf93, Pe93, r1, r2, r3, r4⟩ := hQ93
  rw [hv93] at st93
  have N93 := Fr.app Nm N93q
  have S94 : Steps p.tables e below Ω (T93.setTop (mkF m 156 #[.val (.long q1), .second, .val (.long q2), .second, .val (.long q3), .second, .val (.long w1), .second, .val (.long w2), .second, .val (.int kk), .val (.int ni), .val (.ref b), .val (.ref kh), .val (.ref kl), .val (.int en), .unset, .unset, .unset] [])) := S92.trans st93
  have MH1 := MH.keep K93 (ninS (Ne.symm d2) nin0)
  have ML1 := ML.keep K93 (ninS (Ne.symm d3) nin0)
  have MK1 := MK.keep K93 (ninS (Ne.symm x3) nin0)
  have MV1 := MVL.keep K93 (ninS (Ne.symm x6) nin0)
  have S95 : Steps p.tables e below Ω (T93.setTop (mkF m 160 #[.val (.long q1), .second, .val (.long q2), .second, .val (.long q3), .second, .val (.long w1), .second, .val (.long w2), .second, .val (.int kk), .val (.int ni), .val (.ref b), .val (.ref kh), .val (.ref kl), .val (.int en), .unset, .unset, .unset] [(.long w2), (.ref b)])) := by
    refine S94.trans ?_
    refine XS.aload X93.here hx rfl (hb hby at_156) rfl rfl ?_
    show Steps p.tables e below (T93.setTop (mkF m 158 #[.val (.long q1), .second, .val (.long q2), .second, .val (.long q3), .second, .val (.long w1), .second, .val (.long w2), .second, .val (.int kk), .val (.int ni), .val (.ref b), .val (.ref kh), .val (.ref kl), .val (.int en), .unset, .unset, .unset] [(.ref b)])) _
    refine XS.lload X93.here hx rfl (hb hby at_158) rfl ?_
    exact Steps.refl _
  obtain ⟨cq96, kq96, q96a, q96b, q96c⟩ := isOf hZ rfl E93
  obtain ⟨v96, T96, L96, X96, hQ96, st96⟩ := own_callV X93 hx (y := (⟨"com/example/arcspan/arcspan/io/ForwardHeads", "reached", "(J)V"⟩ : MethodName)) hown (mvT hZ (hw _ (List.mem_of_getElem? (i := 25) rfl))) (mvT hZ (hw _ (List.mem_of_getElem? (i := 26) rfl))) (mvT hZ (hw _ (List.mem_of_getElem? (i := 28) rfl))) (mvT hZ (hw _ (List.mem_of_getElem? (i := 27) rfl))) (by decide) (backOf (W := 0) (rm4 l Z a0 hw [] b w2 ha la f1 en g1 T93.heap n0 (Nat.le_trans Zm K93.1) E93 Ph93 Pl93 Pf93 Pe93 MH1 g_b d2 (by omega) (by omega) (by omega)) hZ (hw _ (List.mem_of_getElem? (i := 29) rfl)) (hw _ (List.mem_of_getElem? (i := 2) rfl)) (by decide) (by decide)) q96a q96c (g := (mkF m 160 #[.val (.long q1), .second, .val (.long q2), .second, .val (.long q3), .second, .val (.long w1), .second, .val (.long w2), .second, .val (.int kk), .val (.int ni), .val (.ref b), .val (.ref kh), .val (.ref kl), .val (.int en), .unset, .unset, .unset] [(.long w2), (.ref b)])) rfl (by rw [hml]; rfl) (argsL := [(.long w2)]) (rest := []) (lenOf pd_2 rfl) rfl (by show 2 * 0 + _ ≤ _; exact Nat.le_of_eq rfl) (hb hby at_160) ⟨rfl, rfl, (by decide : 5 + 0 ≤ _), (by decide : 42 + 0 ≤ _)⟩
  obtain ⟨f2, hv96, N96q, K96, E96, Ph96, Pl96, Pf96, Pe96, u1, u2, u3, u4⟩ := hQ96
  rw [hv96] at st96
  have N96 := Fr.app N93 N96q
  have S97 : Steps p.tables e below Ω (T96.setTop (mkF m 163 #[.val (.long q1), .second, .val (.long q2), .second, .val (.long q3), .second, .val (.long w1), .second, .val (.long w2), .second, .val (.int kk), .val (.int ni), .val (.ref b), .val (.ref kh), .val (.ref kl), .val (.int en), .unset, .unset, .unset] [])) := S95.trans st96
  have MH2 := MH1.keep K96 (ninS (Ne.symm d2) nin0)
  have ML2 := ML1.keep K96 (ninS (Ne.symm d3) nin0)
  have MK2 := MK1.keep K96 (ninS (Ne.symm x3) nin0)
  have MV2 := MV1.keep K96 (ninS (Ne.symm x6) nin0)
  have gk0 : 1 ≤ en.toInt → (g1 0).toInt = k0.toInt := fun z => by rw [(c3 z).1]
  have gk1 : 2 ≤ en.toInt → (g1 1).toInt = k1.toInt := fun z => by rw [(c4 z).1]
  have gk2 : 3 ≤ en.toInt → (g1 2).toInt = k2.toInt := fun z => by rw [(c5 z).1]
  have o1 : 2 ≤ en.toInt → k0.toInt < k1.toInt := fun z => (c4 z).2.2
  have o2 : 3 ≤ en.toInt → k1.toInt < k2.toInt := fun z => (c5 z).2.2
  have S98 : Steps p.tables e below Ω (T96.setTop (mkF m 167 #[.val (.long q1), .second, .val (.long q2), .second, .val (.long q3), .second, .val (.long w1), .second, .val (.long w2), .second, .val (.int kk), .val (.int ni), .val (.ref b), .val (.ref kh), .val (.ref kl), .val (.int en), .unset, .unset, .unset] [(.long w2), (.long w1)])) := by
    refine S97.trans ?_
    refine XS.lload X96.here hx rfl (hb hby at_163) rfl ?_
    show Steps p.tables e below (T96.setTop (mkF m 165 #[.val (.long q1), .second, .val (.long q2), .second, .val (.long q3), .second, .val (.long w1), .second, .val (.long w2), .second, .val (.int kk), .val (.int ni), .val (.ref b), .val (.ref kh), .val (.ref kl), .val (.int en), .unset, .unset, .unset] [(.long w1)])) _
    refine XS.lload X96.here hx rfl (hb hby at_165) rfl ?_
    exact Steps.refl _
  obtain ⟨v99, T99, L99, X99, hQ99, st99⟩ := own_callS X96 hx (y := (⟨"java/lang/Math", "max", "(JJ)J"⟩ : MethodName)) hown (mvT hZ (hw _ (List.mem_of_getElem? (i := 30) rfl))) (mvT hZ (hw _ (List.mem_of_getElem? (i := 31) rfl))) (mvT hZ (hw _ (List.mem_of_getElem? (i := 32) rfl))) (mvT hZ (hw _ (List.mem_of_getElem? (i := 33) rfl))) (by decide) (backOf (W := 0) (rm5 l Z a0 hw [] w1 w2  T96.heap n0 (Nat.le_trans (Nat.le_trans Zm K93.1) K96.1) ) hZ (hw _ (List.mem_of_getElem? (i := 33) rfl)) (hw _ (List.mem_of_getElem? (i := 32) rfl)) (by decide) (by decide)) (g := (mkF m 167 #[.val (.long q1), .second, .val (.long q2), .second, .val (.long q3), .second, .val (.long w1), .second, .val (.long w2), .second, .val (.int kk), .val (.int ni), .val (.ref b), .val (.ref kh), .val (.ref kl), .val (.int en), .unset, .unset, .unset] [(.long w2), (.long w1)])) rfl (by rw [hml]; rfl) (argsL := [(.long w1), (.long w2)]) (rest := []) (lenOf pd_3 rfl) rfl (by show 2 * 0 + _ ≤ _; exact Nat.le_of_eq rfl) (hb hby at_167) ⟨rfl, rfl, (by decide : 5 + 0 ≤ _), (by decide : 42 + 0 ≤ _)⟩
  obtain ⟨hv99, N99q, e99⟩ := hQ99
  rw [hv99] at st99
  have N99 := Fr.app N96 N99q
  have S100 : Steps p.tables e below Ω (T99.setTop (mkF m 170 #[.val (.long q1), .second, .val (.long q2), .second, .val (.long q3), .second, .val (.long w1), .second, .val (.long w2), .second, .val (.int kk), .val (.int ni), .val (.ref b), .val (.ref kh), .val (.ref kl), .val (.int en), .unset, .unset, .unset] [(.long (own_maxJ w1 w2))])) := S98.trans st99
  obtain ⟨mx, h_mx⟩ : ∃ z : Int64, z = (own_maxJ w1 w2) := ⟨_, rfl⟩
  rw [← h_mx] at S100
  have hmx := own_maxJI w1 w2
  rw [← h_mx] at hmx
  have mono : ∀ i j : Nat, i < j → (j : Int) < en.toInt → (g1 i).toInt < (g1 j).toInt := fun i j hij hj => by
    have hc : (i = 0 ∧ j = 1) ∨ (i = 0 ∧ j = 2) ∨ (i = 1 ∧ j = 2) := by omega
    rcases hc with ⟨rfl, rfl⟩ | ⟨rfl, rfl⟩ | ⟨rfl, rfl⟩
    · have x1 := gk0 (by omega); have x2 := gk1 (by omega); have x3 := o1 (by omega); omega
    · have x1 := gk0 (by omega); have x2 := gk2 (by omega); have x3 := o1 (by omega); have x4 := o2 (by omega); omega
    · have x1 := gk1 (by omega); have x2 := gk2 (by omega); have x3 := o2 (by omega); omega
  obtain ⟨P1, P2⟩ := own_first g1 f1.toInt f2.toInt en.toInt w1.toInt w2.toInt mx.toInt (by omega) u1 u2 (fun i h => r3 i (by omega) h) r4 u3 u4 mono hmx
  clear r3 r4 u3 u4 mono
  have S101 : Steps p.tables e below Ω (T99.setTop (mkF m 178 #[.val (.long q1), .second, .val (.long q2), .second, .val (.long q3), .second, .val (.long w1), .second, .val (.long w2), .second, .val (.int kk), .val (.int ni), .val (.ref b), .val (.ref kh), .val (.ref kl), .val (.int en), .val (.long mx), .second, .val (.int (-1 : Int32))] [(.int (1 : Int32)), (.int en)])) := by
    refine S100.trans ?_
    refine XS.lstore X99.here hx rfl (hb hby at_170) rfl (l' := #[.val (.long q1), .second, .val (.long q2), .second, .val (.long q3), .second, .val (.long w1), .second, .val (.long w2), .second, .val (.int kk), .val (.int ni), .val (.ref b), .val (.ref kh), .val (.ref kl), .val (.int en), .val (.long mx), .second, .unset]) rfl ?_
    show Steps p.tables e below (T99.setTop (mkF m 172 #[.val (.long q1), .second, .val (.long q2), .second, .val (.long q3), .second, .val (.long w1), .second, .val (.long w2), .second, .val (.int kk), .val (.int ni), .val (.ref b), .val (.ref kh), .val (.ref kl), .val (.int en), .val (.long mx), .second, .unset] [])) _
    refine XS.iconst X99.here hx rfl (hb hby at_172) ?_
    show Steps p.tables e below (T99.setTop (mkF m 173 #[.val (.long q1), .second, .val (.long q2), .second, .val (.long q3), .second, .val (.long w1), .second, .val (.long w2), .second, .val (.int kk), .val (.int ni), .val (.ref b), .val (.ref kh), .val (.ref kl), .val (.int en), .val (.long mx), .second, .unset] [(.int (-1 : Int32))])) _
    refine XS.istore X99.here hx rfl (hb hby at_173) rfl (l' := #[.val (.long q1), .second, .val (.long q2), .second, .val (.long q3), .second, .val (.long w1), .second, .val (.long w2), .second, .val (.int kk), .val (.int ni), .val (.ref b), .val (.ref kh), .val (.ref kl), .val (.int en), .val (.long mx), .second, .val (.int (-1 : Int32))]) rfl ?_
    show Steps p.tables e below (T99.setTop (mkF m 175 #[.val (.long q1), .second, .val (.long q2), .second, .val (.long q3), .second, .val (.long w1), .second, .val (.long w2), .second, .val (.int kk), .val (.int ni), .val (.ref b), .val (.ref kh), .val (.ref kl), .val (.int en), .val (.long mx), .second, .val (.int (-1 : Int32))] [])) _
    refine XS.iload X99.here hx rfl (hb hby at_175) rfl ?_
    show Steps p.tables e below (T99.setTop (mkF m 177 #[.val (.long q1), .second, .val (.long q2), .second, .val (.long q3), .second, .val (.long w1), .second, .val (.long w2), .second, .val (.int kk), .val (.int ni), .val (.ref b), .val (.ref kh), .val (.ref kl), .val (.int en), .val (.long mx), .second, .val (.int (-1 : Int32))] [(.int en)])) _
    refine XS.iconst X99.here hx rfl (hb hby at_177) ?_
    exact Steps.refl _
  by_cases s1 : en < (1 : Int32)
  · have qs1 : en.toInt < 1 := Int32.lt_iff_toInt_lt.mp s1
    have S102 : Steps p.tables e below Ω (T99.setTop (mkF m 245 #[.val (.long q1), .second, .val (.long q2), .second, .val (.long q3), .second, .val (.long w1), .second, .val (.long w2), .second, .val (.int kk), .val (.int ni), .val (.ref b), .val (.ref kh), .val (.ref kl), .val (.int en), .val (.long mx), .second, .val (.int (-1 : Int32))] [(.ref b)])) := by
      refine S101.trans ?_
      refine XS.icmpYes X99.here hx rfl (pc0 := 178) (pc' := 197) rfl (hb hby at_178) rfl (XT.ii_lt_t s1) (by decide) (by decide) ?_
      show Steps p.tables e below (T99.setTop (mkF m 197 #[.val (.long q1), .second, .val (.long q2), .second, .val (.long q3), .second, .val (.long w1), .second, .val (.long w2), .second, .val (.int kk), .val (.int ni), .val (.ref b), .val (.ref kh), .val (.ref kl), .val (.int en), .val (.long mx), .second, .val (.int (-1 : Int32))] [])) _
      refine XS.iload X99.here hx rfl (hb hby at_197) rfl ?_
      show Steps p.tables e below (T99.setTop (mkF m 199 #[.val (.long q1), .second, .val (.long q2), .second, .val (.long q3), .second, .val (.long w1), .second, .val (.long w2), .second, .val (.int kk), .val (.int ni), .val (.ref b), .val (.ref kh), .val (.ref kl), .val (.int en), .val (.long mx), .second, .val (.int (-1 : Int32))] [(.int en)])) _
      refine XS.iconst X99.here hx rfl (hb hby at_199) ?_
      show Steps p.tables e below (T99.setTop (mkF m 200 #[.val (.long q1), .second, .val (.long q2), .second, .val (.long q3), .second, .val (.long w1), .second, .val (.long w2), .second, .val (.int kk), .val (.int ni), .val (.ref b), .val (.ref kh), .val (.ref kl), .val (.int en), .val (.long mx), .second, .val (.int (-1 : Int32))] [(.int (2 : Int32)), (.int en)])) _
      refine XS.icmpYes X99.here hx rfl (pc0 := 200) (pc' := 219) rfl (hb hby at_200) rfl (XT.ii_lt_t (own_lt32 (by omega))) (by decide) (by decide) ?_
      show Steps p.tables e below (T99.setTop (mkF m 219 #[.val (.long q1), .second, .val (.long q2), .second, .val (.long q3), .second, .val (.long w1), .second, .val (.long w2), .second, .val (.int kk), .val (.int ni), .val (.ref b), .val (.ref kh), .val (.ref kl), .val (.int en), .val (.long mx), .second, .val (.int (-1 : Int32))] [])) _
      refine XS.iload X99.here hx rfl (hb hby at_219) rfl ?_
      show Steps p.tables e below (T99.setTop (mkF m 221 #[.val (.long q1), .second, .val (.long q2), .second, .val (.long q3), .second, .val (.long w1), .second, .val (.long w2), .second, .val (.int kk), .val (.int ni), .val (.ref b), .val (.ref kh), .val (.ref kl), .val (.int en), .val (.long mx), .second, .val (.int (-1 : Int32))] [(.int en)])) _
      refine XS.iconst X99.here hx rfl (hb hby at_221) ?_
      show Steps p.tables e below (T99.setTop (mkF m 222 #[.val (.long q1), .second, .val (.long q2), .second, .val (.long q3), .second, .val (.long w1), .second, .val (.long w2), .second, .val (.int kk), .val (.int ni), .val (.ref b), .val (.ref kh), .val (.ref kl), .val (.int en), .val (.long mx), .second, .val (.int (-1 : Int32))] [(.int (3 : Int32)), (.int en)])) _
      refine XS.icmpYes X99.here hx rfl (pc0 := 222) (pc' := 238) rfl (hb hby at_222) rfl (XT.ii_lt_t (own_lt32 (by omega))) (by decide) (by decide) ?_
      show Steps p.tables e below (T99.setTop (mkF m 238 #[.val (.long q1), .second, .val (.long q2), .second, .val (.long q3), .second, .val (.long w1), .second, .val (.long w2), .second, .val (.int kk), .val (.int ni), .val (.ref b), .val (.ref kh), .val (.ref kl), .val (.int en), .val (.long mx), .second, .val (.int (-1 : Int32))] [])) _
      refine XS.iload X99.here hx rfl (hb hby at_238) rfl ?_
      show Steps p.tables e below (T99.setTop (mkF m 240 #[.val (.long q1), .second, .val (.long q2), .second, .val (.long q3), .second, .val (.long w1), .second, .val (.long w2), .second, .val (.int kk), .val (.int ni), .val (.ref b), .val (.ref kh), .val (.ref kl), .val (.int en), .val (.long mx), .second, .val (.int (-1 : Int32))] [(.int (-1 : Int32))])) _
      refine XS.ifNo X99.here hx rfl (hb hby at_240) rfl (XT.i0_ge_f (by decide)) ?_
      show Steps p.tables e below (T99.setTop (mkF m 243 #[.val (.long q1), .second, .val (.long q2), .second, .val (.long q3), .second, .val (.long w1), .second, .val (.long w2), .second, .val (.int kk), .val (.int ni), .val (.ref b), .val (.ref kh), .val (.ref kl), .val (.int en), .val (.long mx), .second, .val (.int (-1 : Int32))] [])) _
      refine XS.aload X99.here hx rfl (hb hby at_243) rfl rfl ?_
      exact Steps.refl _
    have hfe : f2 = en := own_i3 (own_e g1 f2.toInt en.toInt mx.toInt (by omega) u2 P2 (fun i hi => absurd hi (by omega)))
    obtain ⟨cq103, kq103, q103a, q103b, q103c⟩ := isOf hZ e99 E96
    obtain ⟨v103, T103, L103, X103, hQ103, st103⟩ := own_callV X99 hx (y := (⟨"com/example/arcspan/arcspan/io/ForwardHeads", "isEmpty", "()Z"⟩ : MethodName)) hown (mvT hZ (hw _ (List.mem_of_getElem? (i := 34) rfl))) (mvT hZ (hw _ (List.mem_of_getElem? (i := 35) rfl))) (mvT hZ (hw _ (List.mem_of_getElem? (i := 37) rfl))) (mvT hZ (hw _ (List.mem_of_getElem? (i := 36) rfl))) (by decide) (backOf (W := 0) (rm6 l Z a0 hw [] b ha la f2 en T96.heap n0 (Nat.le_trans (Nat.le_trans Zm K93.1) K96.1) Ph96 Pl96 Pf96 Pe96) hZ (hw _ (List.mem_of_getElem? (i := 38) rfl)) (hw _ (List.mem_of_getElem? (i := 2) rfl)) (by decide) (by decide)) q103a q103c (g := (mkF m 245 #[.val (.long q1), .second, .val (.long q2), .second, .val (.long q3), .second, .val (.long w1), .second, .val (.long w2), .second, .val (.int kk), .val (.int ni), .val (.ref b), .val (.ref kh), .val (.ref kl), .val (.int en), .val (.long mx), .second, .val (.int (-1 : Int32))] [(.ref b)])) rfl (by rw [hml]; rfl) (argsL := []) (rest := []) (lenOf pd_4 rfl) rfl (by show 2 * 0 + _ ≤ _; exact Nat.le_of_eq rfl) (hb hby at_245) ⟨rfl, e99, (by decide : 5 + 0 ≤ _), (by decide : 42 + 0 ≤ _)⟩
    obtain ⟨hv103, N103q, e103⟩ := hQ103
    rw [hv103] at st103
    have N103 := Fr.app N99 N103q
    have S104 : Steps p.tables e below Ω (T103.setTop (mkF m 248 #[.val (.long q1), .second, .val (.long q2), .second, .val (.long q3), .second, .val (.long w1), .second, .val (.long w2), .second, .val (.int kk), .val (.int ni), .val (.ref b), .val (.ref kh), .val (.ref kl), .val (.int en), .val (.long mx), .second, .val (.int (-1 : Int32))] [(.int (own_emp f2 en))])) := S102.trans st103
    rw [(by rw [own_emp, if_pos hfe] : (own_emp f2 en) = (1 : Int32))] at S104
    obtain ⟨fs, hr, hrun, hended, hW, hsame⟩ := X103.leave (v := some (.int (1 : Int32))) (fun h => by rw [Bd.returns] at h; cases h)
    have hfin : Steps p.tables e below Ω (T103.setFrames fs) := by
      refine S104.trans ?_
      exact own_retZ X103 hx Bd.returns (by decide) (hb hby at_248) hr
    rw [hΩ] at hfin
    refine ⟨_, _, hfin, hrun, hended, _, _, rfl, ?_, ⟨_, rfl⟩, hW, hsame.mono (by decide) (by decide)⟩
    show Q0 Z q1 q2 q3 w1 w2 kk h0 n0 _ T103.heap _
    rw [e103]
    exact ⟨rfl, N103⟩
  · have qs1 : ¬ en.toInt < 1 := fun q => s1 (Int32.lt_iff_toInt_lt.mpr q)
    have S105 : Steps p.tables e below Ω (T99.setTop (mkF m 184 #[.val (.long q1), .second, .val (.long q2), .second, .val (.long q3), .second, .val (.long w1), .second, .val (.long w2), .second, .val (.int kk), .val (.int ni), .val (.ref b), .val (.ref kh), .val (.ref kl), .val (.int en), .val (.long mx), .second, .val (.int (-1 : Int32))] [(.int (0 : Int32)), (.ref kh)])) := by
      refine S101.trans ?_
      refine XS.icmpNo X99.here hx rfl (hb hby at_178) rfl (XT.ii_lt_f s1) ?_
      show Steps p.tables e below (T99.setTop (mkF m 181 #[.val (.long q1), .second, .val (.long q2), .second, .val (.long q3), .second, .val (.long w1), .second, .val (.long w2), .second, .val (.int kk), .val (.int ni), .val (.ref b), .val (.ref kh), .val (.ref kl), .val (.int en), .val (.long mx), .second, .val (.int (-1 : Int32))] [])) _
      refine XS.aload X99.here hx rfl (hb hby at_181) rfl rfl ?_
      show Steps p.tables e below (T99.setTop (mkF m 183 #[.val (.long q1), .second, .val (.long q2), .second, .val (.long q3), .second, .val (.long w1), .second, .val (.long w2), .second, .val (.int kk), .val (.int ni), .val (.ref b), .val (.ref kh), .val (.ref kl), .val (.int en), .val (.long mx), .second, .val (.int (-1 : Int32))] [(.ref kh)])) _
      refine XS.iconst X99.here hx rfl (hb hby at_183) ?_
      exact Steps.refl _
    have S106 : Steps p.tables e below Ω (T99.setTop (mkF m 185 #[.val (.long q1), .second, .val (.long q2), .second, .val (.long q3), .second, .val (.long w1), .second, .val (.long w2), .second, .val (.int kk), .val (.int ni), .val (.ref b), .val (.ref kh), .val (.ref kl), .val (.int en), .val (.long mx), .second, .val (.int (-1 : Int32))] [(.long k0)])) := S105.trans (own_ldJ X99 hx hZ e99 MK2 (j := (0 : Int32)) (x := k0) (by decide) rfl (g := (mkF m 184 #[.val (.long q1), .second, .val (.long q2), .second, .val (.long q3), .second, .val (.long w1), .second, .val (.long w2), .second, .val (.int kk), .val (.int ni), .val (.ref b), .val (.ref kh), .val (.ref kl), .val (.int en), .val (.long mx), .second, .val (.int (-1 : Int32))] [(.int (0 : Int32)), (.ref kh)])) rfl rfl (hb hby at_184) _ (Steps.refl _))
    have S107 : Steps p.tables e below Ω (T99.setTop (mkF m 188 #[.val (.long q1), .second, .val (.long q2), .second, .val (.long q3), .second, .val (.long w1), .second, .val (.long w2), .second, .val (.int kk), .val (.int ni), .val (.ref b), .val (.ref kh), .val (.ref kl), .val (.int en), .val (.long mx), .second, .val (.int (-1 : Int32))] [(.int (lcmpW k0 mx))])) := by
      refine S106.trans ?_
      refine XS.lload X99.here hx rfl (hb hby at_185) rfl ?_
      show Steps p.tables e below (T99.setTop (mkF m 187 #[.val (.long q1), .second, .val (.long q2), .second, .val (.long q3), .second, .val (.long w1), .second, .val (.long w2), .second, .val (.int kk), .val (.int ni), .val (.ref b), .val (.ref kh), .val (.ref kl), .val (.int en), .val (.long mx), .second, .val (.int (-1 : Int32))] [(.long mx), (.long k0)])) _
      refine XS.lcmp X99.here hx rfl (hb hby at_187) rfl ?_
      exact Steps.refl _
    by_cases s2 : mx < k0
    · have qs2 : mx.toInt < k0.toInt := Int64.lt_iff_toInt_lt.mp s2
      have S108 : Steps p.tables e below Ω (T99.setTop (mkF m 251 #[.val (.long q1), .second, .val (.long q2), .second, .val (.long q3), .second, .val (.long w1), .second, .val (.long w2), .second, .val (.int kk), .val (.int ni), .val (.ref b), .val (.ref kh), .val (.ref kl), .val (.int en), .val (.long mx), .second, .val (.int (0 : Int32))] [(.ref b)])) := by
        refine S107.trans ?_
        refine XS.ifNo X99.here hx rfl (hb hby at_188) rfl (XT.ll_le_f s2) ?_
        show Steps p.tables e below (T99.setTop (mkF m 191 #[.val (.long q1), .second, .val (.long q2), .second, .val (.long q3), .second, .val (.long w1), .second, .val (.long w2), .second, .val (.int kk), .val (.int ni), .val (.ref b), .val (.ref kh), .val (.ref kl), .val (.int en), .val (.long mx), .second, .val (.int (-1 : Int32))] [])) _
        refine XS.iconst X99.here hx rfl (hb hby at_191) ?_
        show Steps p.tables e below (T99.setTop (mkF m 192 #[.val (.long q1), .second, .val (.long q2), .second, .val (.long q3), .second, .val (.long w1), .second, .val (.long w2), .second, .val (.int kk), .val (.int ni), .val (.ref b), .val (.ref kh), .val (.ref kl), .val (.int en), .val (.long mx), .second, .val (.int (-1 : Int32))] [(.int (0 : Int32))])) _
        refine XS.istore X99.here hx rfl (hb hby at_192) rfl (l' := #[.val (.long q1), .second, .val (.long q2), .second, .val (.long q3), .second, .val (.long w1), .second, .val (.long w2), .second, .val (.int kk), .val (.int ni), .val (.ref b), .val (.ref kh), .val (.ref kl), .val (.int en), .val (.long mx), .second, .val (.int (0 : Int32))]) rfl ?_
        show Steps p.tables e below (T99.setTop (mkF m 194 #[.val (.long q1), .second, .val (.long q2), .second, .val (.long q3), .second, .val (.long w1), .second, .val (.long w2), .second, .val (.int kk), .val (.int ni), .val (.ref b), .val (.ref kh), .val (.ref kl), .val (.int en), .val (.long mx), .second, .val (.int (0 : Int32))] [])) _
        refine XS.goto X99.here hx rfl (pc0 := 194) (pc' := 238) rfl (hb hby at_194) (by decide) (by decide) ?_
        show Steps p.tables e below (T99.setTop (mkF m 238 #[.val (.long q1), .second, .val (.long q2), .second, .val (.long q3), .second, .val (.long w1), .second, .val (.long w2), .second, .val (.int kk), .val (.int ni), .val (.ref b), .val (.ref kh), .val (.ref kl), .val (.int en), .val (.long mx), .second, .val (.int (0 : Int32))] [])) _
        refine XS.iload X99.here hx rfl (hb hby at_238) rfl ?_
        show Steps p.tables e below (T99.setTop (mkF m 240 #[.val (.long q1), .second, .val (.long q2), .second, .val (.long q3), .second, .val (.long w1), .second, .val (.long w2), .second, .val (.int kk), .val (.int ni), .val (.ref b), .val (.ref kh), .val (.ref kl), .val (.int en), .val (.long mx), .second, .val (.int (0 : Int32))] [(.int (0 : Int32))])) _
        refine XS.ifYes X99.here hx rfl (pc0 := 240) (pc' := 249) rfl (hb hby at_240) rfl (XT.i0_ge_t (by decide)) (by decide) (by decide) ?_
        show Steps p.tables e below (T99.setTop (mkF m 249 #[.val (.long q1), .second, .val (.long q2), .second, .val (.long q3), .second, .val (.long w1), .second, .val (.long w2), .second, .val (.int kk), .val (.int ni), .val (.ref b), .val (.ref kh), .val (.ref kl), .val (.int en), .val (.long mx), .second, .val (.int (0 : Int32))] [])) _
        refine XS.aload X99.here hx rfl (hb hby at_249) rfl rfl ?_
        exact Steps.refl _
      have hk0 := gk0 (by omega)
      have hfi : f2.toInt = (0 : Nat) := own_fi g1 f2.toInt en.toInt mx.toInt 0 (by omega) u2 (by omega) P1 P2 (fun j hi => absurd hi (by omega)) (by omega)
      have hfe : ¬ f2 = en := fun q => by rw [q] at hfi; omega
      have hnt : f2.toNatClampNeg = 0 := own_nat hfi
      obtain ⟨cq109, kq109, q109a, q109b, q109c⟩ := isOf hZ e99 E96
      obtain ⟨v109, T109, L109, X109, hQ109, st109⟩ := own_callV X99 hx (y := (⟨"com/example/arcspan/arcspan/io/ForwardHeads", "isEmpty", "()Z"⟩ : MethodName)) hown (mvT hZ (hw _ (List.mem_of_getElem? (i := 34) rfl))) (mvT hZ (hw _ (List.mem_of_getElem? (i := 35) rfl))) (mvT hZ (hw _ (List.mem_of_getElem? (i := 37) rfl))) (mvT hZ (hw _ (List.mem_of_getElem? (i := 36) rfl))) (by decide) (backOf (W := 0) (rm6 l Z a0 hw [] b ha la f2 en T96.heap n0 (Nat.le_trans (Nat.le_trans Zm K93.1) K96.1) Ph96 Pl96 Pf96 Pe96) hZ (hw _ (List.mem_of_getElem? (i := 38) rfl)) (hw _ (List.mem_of_getElem? (i := 2) rfl)) (by decide) (by decide)) q109a q109c (g := (mkF m 251 #[.val (.long q1), .second, .val (.long q2), .second, .val (.long q3), .second, .val (.long w1), .second, .val (.long w2), .second, .val (.int kk), .val (.int ni), .val (.ref b), .val (.ref kh), .val (.ref kl), .val (.int en), .val (.long mx), .second, .val (.int (0 : Int32))] [(.ref b)])) rfl (by rw [hml]; rfl) (argsL := []) (rest := []) (lenOf pd_4 rfl) rfl (by show 2 * 0 + _ ≤ _; exact Nat.le_of_eq rfl) (hb hby at_251) ⟨rfl, e99, (by decide : 5 + 0 ≤ _), (by decide : 42 + 0 ≤ _)⟩
      obtain ⟨hv109, N109q, e109⟩ := hQ109
      rw [hv109] at st109
      have N109 := Fr.app N99 N109q
      have S110 : Steps p.tables e below Ω (T109.setTop (mkF m 254 #[.val (.long q1), .second, .val (.long q2), .second, .val (.long q3), .second, .val (.long w1), .second, .val (.long w2), .second, .val (.int kk), .val (.int ni), .val (.ref b), .val (.ref kh), .val (.ref kl), .val (.int en), .val (.long mx), .second, .val (.int (0 : Int32))] [(.int (own_emp f2 en))])) := S108.trans st109
      rw [(by rw [own_emp, if_neg hfe] : (own_emp f2 en) = (0 : Int32))] at S110
      have S111 : Steps p.tables e below Ω (T109.setTop (mkF m 259 #[.val (.long q1), .second, .val (.long q2), .second, .val (.long q3), .second, .val (.long w1), .second, .val (.long w2), .second, .val (.int kk), .val (.int ni), .val (.ref b), .val (.ref kh), .val (.ref kl), .val (.int en), .val (.long mx), .second, .val (.int (0 : Int32))] [(.ref b)])) := by
        refine S110.trans ?_
        refine XS.ifNo X109.here hx rfl (hb hby at_254) rfl (XT.i0_ne_f (by decide)) ?_
        show Steps p.tables e below (T109.setTop (mkF m 257 #[.val (.long q1), .second, .val (.long q2), .second, .val (.long q3), .second, .val (.long w1), .second, .val (.long w2), .second, .val (.int kk), .val (.int ni), .val (.ref b), .val (.ref kh), .val (.ref kl), .val (.int en), .val (.long mx), .second, .val (.int (0 : Int32))] [])) _
        refine XS.aload X109.here hx rfl (hb hby at_257) rfl rfl ?_
        exact Steps.refl _
      obtain ⟨cq112, kq112, q112a, q112b, q112c⟩ := isOf hZ e109 E96
      obtain ⟨v112, T112, L112, X112, hQ112, st112⟩ := own_callV X109 hx (y := (⟨"com/example/arcspan/arcspan/io/ForwardHeads", "firstHead", "()J"⟩ : MethodName)) hown (mvT hZ (hw _ (List.mem_of_getElem? (i := 40) rfl))) (mvT hZ (hw _ (List.mem_of_getElem? (i := 41) rfl))) (mvT hZ (hw _ (List.mem_of_getElem? (i := 43) rfl))) (mvT hZ (hw _ (List.mem_of_getElem? (i := 42) rfl))) (by decide) (backOf (W := 0) (rm7 l Z a0 hw [] b ha la f2 en g1 T96.heap n0 (Nat.le_trans (Nat.le_trans Zm K93.1) K96.1) Ph96 Pl96 Pf96 Pe96 MH2 (by omega) (by omega)) hZ (hw _ (List.mem_of_getElem? (i := 44) rfl)) (hw _ (List.mem_of_getElem? (i := 2) rfl)) (by decide) (by decide)) q112a q112c (g := (mkF m 259 #[.val (.long q1), .second, .val (.long q2), .second, .val (.long q3), .second, .val (.long w1), .second, .val (.long w2), .second, .val (.int kk), .val (.int ni), .val (.ref b), .val (.ref kh), .val (.ref kl), .val (.int en), .val (.long mx), .second, .val (.int (0 : Int32))] [(.ref b)])) rfl (by rw [hml]; rfl) (argsL := []) (rest := []) (lenOf pd_5 rfl) rfl (by show 2 * 0 + _ ≤ _; exact Nat.le_of_eq rfl) (hb hby at_259) ⟨rfl, e109, (by decide : 5 + 0 ≤ _), (by decide : 42 + 0 ≤ _)⟩
      obtain ⟨hv112, N112q, e112⟩ := hQ112
      rw [hv112] at st112
      have N112 := Fr.app N109 N112q
      have S113 : Steps p.tables e below Ω (T112.setTop (mkF m 262 #[.val (.long q1), .second, .val (.long q2), .second, .val (.long q3), .second, .val (.long w1), .second, .val (.long w2), .second, .val (.int kk), .val (.int ni), .val (.ref b), .val (.ref kh), .val (.ref kl), .val (.int en), .val (.long mx), .second, .val (.int (0 : Int32))] [(.long (g1 f2.toNatClampNeg))])) := S111.trans st112
      rw [(by rw [hnt]; exact (c3 (by omega)).1 : (g1 f2.toNatClampNeg) = k0)] at S113
      have S114 : Steps p.tables e below Ω (T112.setTop (mkF m 266 #[.val (.long q1), .second, .val (.long q2), .second, .val (.long q3), .second, .val (.long w1), .second, .val (.long w2), .second, .val (.int kk), .val (.int ni), .val (.ref b), .val (.ref kh), .val (.ref kl), .val (.int en), .val (.long mx), .second, .val (.int (0 : Int32))] [(.int (0 : Int32)), (.ref kh), (.long k0)])) := by
        refine S113.trans ?_
        refine XS.aload X112.here hx rfl (hb hby at_262) rfl rfl ?_
        show Steps p.tables e below (T112.setTop (mkF m 264 #[.val (.long q1), .second, .val (.long q2), .second, .val (.long q3), .second, .val (.long w1), .second, .val (.long w2), .second, .val (.int kk), .val (.int ni), .val (.ref b), .val (.ref kh), .val (.ref kl), .val (.int en), .val (.long mx), .second, .val (.int (0 : Int32))] [(.ref kh), (.long k0)])) _
        refine XS.iload X112.here hx rfl (hb hby at_264) rfl ?_
        exact Steps.refl _
      have S115 : Steps p.tables e below Ω (T112.setTop (mkF m 267 #[.val (.long q1), .second, .val (.long q2), .second, .val (.long q3), .second, .val (.long w1), .second, .val (.long w2), .second, .val (.int kk), .val (.int ni), .val (.ref b), .val (.ref kh), .val (.ref kl), .val (.int en), .val (.long mx), .second, .val (.int (0 : Int32))] [(.long k0), (.long k0)])) := S114.trans (own_ldJ X112 hx hZ e112 MK2 (j := (0 : Int32)) (x := k0) (by decide) rfl (g := (mkF m 266 #[.val (.long q1), .second, .val (.long q2), .second, .val (.long q3), .second, .val (.long w1), .second, .val (.long w2), .second, .val (.int kk), .val (.int ni), .val (.ref b), .val (.ref kh), .val (.ref kl), .val (.int en), .val (.long mx), .second, .val (.int (0 : Int32))] [(.int (0 : Int32)), (.ref kh), (.long k0)])) rfl rfl (hb hby at_266) _ (Steps.refl _))
      have S116 : Steps p.tables e below Ω (T112.setTop (mkF m 268 #[.val (.long q1), .second, .val (.long q2), .second, .val (.long q3), .second, .val (.long w1), .second, .val (.long w2), .second, .val (.int kk), .val (.int ni), .val (.ref b), .val (.ref kh), .val (.ref kl), .val (.int en), .val (.long mx), .second, .val (.int (0 : Int32))] [(.int (lcmpW k0 k0))])) := by
        refine S115.trans ?_
        refine XS.lcmp X112.here hx rfl (hb hby at_267) rfl ?_
        exact Steps.refl _
      have S117 : Steps p.tables e below Ω (T112.setTop (mkF m 273 #[.val (.long q1), .second, .val (.long q2), .second, .val (.long q3), .second, .val (.long w1), .second, .val (.long w2), .second, .val (.int kk), .val (.int ni), .val (.ref b), .val (.ref kh), .val (.ref kl), .val (.int en), .val (.long mx), .second, .val (.int (0 : Int32))] [(.ref b)])) := by
        refine S116.trans ?_
        refine XS.ifNo X112.here hx rfl (hb hby at_268) rfl (XT.ll_ne_f rfl) ?_
        show Steps p.tables e below (T112.setTop (mkF m 271 #[.val (.long q1), .second, .val (.long q2), .second, .val (.long q3), .second, .val (.long w1), .second, .val (.long w2), .second, .val (.int kk), .val (.int ni), .val (.ref b), .val (.ref kh), .val (.ref kl), .val (.int en), .val (.long mx), .second, .val (.int (0 : Int32))] [])) _
        refine XS.aload X112.here hx rfl (hb hby at_271) rfl rfl ?_
        exact Steps.refl _
      obtain ⟨cq118, kq118, q118a, q118b, q118c⟩ := isOf hZ e112 E96
      obtain ⟨v118, T118, L118, X118, hQ118, st118⟩ := own_callV X112 hx (y := (⟨"com/example/arcspan/arcspan/io/ForwardHeads", "firstLine", "()J"⟩ : MethodName)) hown (mvT hZ (hw _ (List.mem_of_getElem? (i := 45) rfl))) (mvT hZ (hw _ (List.mem_of_getElem? (i := 46) rfl))) (mvT hZ (hw _ (List.mem_of_getElem? (i := 48) rfl))) (mvT hZ (hw _ (List.mem_of_getElem? (i := 47) rfl))) (by decide) (backOf (W := 0) (rm8 l Z a0 hw [] b ha la f2 en g2 T96.heap n0 (Nat.le_trans (Nat.le_trans Zm K93.1) K96.1) Ph96 Pl96 Pf96 Pe96 ML2 (by omega) (by omega)) hZ (hw _ (List.mem_of_getElem? (i := 49) rfl)) (hw _ (List.mem_of_getElem? (i := 2) rfl)) (by decide) (by decide)) q118a q118c (g := (mkF m 273 #[.val (.long q1), .second, .val (.long q2), .second, .val (.long q3), .second, .val (.long w1), .second, .val (.long w2), .second, .val (.int kk), .val (.int ni), .val (.ref b), .val (.ref kh), .val (.ref kl), .val (.int en), .val (.long mx), .second, .val (.int (0 : Int32))] [(.ref b)])) rfl (by rw [hml]; rfl) (argsL := []) (rest := []) (lenOf pd_5 rfl) rfl (by show 2 * 0 + _ ≤ _; exact Nat.le_of_eq rfl) (hb hby at_273) ⟨rfl, e112, (by decide : 5 + 0 ≤ _), (by decide : 42 + 0 ≤ _)⟩
      obtain ⟨hv118, N118q, e118⟩ := hQ118
      rw [hv118] at st118
      have N118 := Fr.app N112 N118q
      have S119 : Steps p.tables e below Ω (T118.setTop (mkF m 276 #[.val (.long q1), .second, .val (.long q2), .second, .val (.long q3), .second, .val (.long w1), .second, .val (.long w2), .second, .val (.int kk), .val (.int ni), .val (.ref b), .val (.ref kh), .val (.ref kl), .val (.int en), .val (.long mx), .second, .val (.int (0 : Int32))] [(.long (g2 f2.toNatClampNeg))])) := S117.trans st118
      rw [(by rw [hnt]; exact (c3 (by omega)).2 : (g2 f2.toNatClampNeg) = l0)] at S119
      have S120 : Steps p.tables e below Ω (T118.setTop (mkF m 280 #[.val (.long q1), .second, .val (.long q2), .second, .val (.long q3), .second, .val (.long w1), .second, .val (.long w2), .second, .val (.int kk), .val (.int ni), .val (.ref b), .val (.ref kh), .val (.ref kl), .val (.int en), .val (.long mx), .second, .val (.int (0 : Int32))] [(.int (0 : Int32)), (.ref kl), (.long l0)])) := by
        refine S119.trans ?_
        refine XS.aload X118.here hx rfl (hb hby at_276) rfl rfl ?_
        show Steps p.tables e below (T118.setTop (mkF m 278 #[.val (.long q1), .second, .val (.long q2), .second, .val (.long q3), .second, .val (.long w1), .second, .val (.long w2), .second, .val (.int kk), .val (.int ni), .val (.ref b), .val (.ref kh), .val (.ref kl), .val (.int en), .val (.long mx), .second, .val (.int (0 : Int32))] [(.ref kl), (.long l0)])) _
        refine XS.iload X118.here hx rfl (hb hby at_278) rfl ?_
        exact Steps.refl _
      have S121 : Steps p.tables e below Ω (T118.setTop (mkF m 281 #[.val (.long q1), .second, .val (.long q2), .second, .val (.long q3), .second, .val (.long w1), .second, .val (.long w2), .second, .val (.int kk), .val (.int ni), .val (.ref b), .val (.ref kh), .val (.ref kl), .val (.int en), .val (.long mx), .second, .val (.int (0 : Int32))] [(.long l0), (.long l0)])) := S120.trans (own_ldJ X118 hx hZ e118 MV2 (j := (0 : Int32)) (x := l0) (by decide) rfl (g := (mkF m 280 #[.val (.long q1), .second, .val (.long q2), .second, .val (.long q3), .second, .val (.long w1), .second, .val (.long w2), .second, .val (.int kk), .val (.int ni), .val (.ref b), .val (.ref kh), .val (.ref kl), .val (.int en), .val (.long mx), .second, .val (.int (0 : Int32))] [(.int (0 : Int32)), (.ref kl), (.long l0)])) rfl rfl (hb hby at_280) _ (Steps.refl _))
      have S122 : Steps p.tables e below Ω (T118.setTop (mkF m 282 #[.val (.long q1), .second, .val (.long q2), .second, .val (.long q3), .second, .val (.long w1), .second, .val (.long w2), .second, .val (.int kk), .val (.int ni), .val (.ref b), .val (.ref kh), .val (.ref kl), .val (.int en), .val (.long mx), .second, .val (.int (0 : Int32))] [(.int (lcmpW l0 l0))])) := by
        refine S121.trans ?_
        refine XS.lcmp X118.here hx rfl (hb hby at_281) rfl ?_
        exact Steps.refl _
      have S123 : Steps p.tables e below Ω (T118.setTop (mkF m 290 #[.val (.long q1), .second, .val (.long q2), .second, .val (.long q3), .second, .val (.long w1), .second, .val (.long w2), .second, .val (.int kk), .val (.int ni), .val (.ref b), .val (.ref kh), .val (.ref kl), .val (.int en), .val (.long mx), .second, .val (.int (0 : Int32))] [(.int (1 : Int32))])) := by
        refine S122.trans ?_
        refine XS.ifNo X118.here hx rfl (hb hby at_282) rfl (XT.ll_ne_f rfl) ?_
        show Steps p.tables e below (T118.setTop (mkF m 285 #[.val (.long q1), .second, .val (.long q2), .second, .val (.long q3), .second, .val (.long w1), .second, .val (.long w2), .second, .val (.int kk), .val (.int ni), .val (.ref b), .val (.ref kh), .val (.ref kl), .val (.int en), .val (.long mx), .second, .val (.int (0 : Int32))] [])) _
        refine XS.iconst X118.here hx rfl (hb hby at_285) ?_
        show Steps p.tables e below (T118.setTop (mkF m 286 #[.val (.long q1), .second, .val (.long q2), .second, .val (.long q3), .second, .val (.long w1), .second, .val (.long w2), .second, .val (.int kk), .val (.int ni), .val (.ref b), .val (.ref kh), .val (.ref kl), .val (.int en), .val (.long mx), .second, .val (.int (0 : Int32))] [(.int (1 : Int32))])) _
        refine XS.goto X118.here hx rfl (pc0 := 286) (pc' := 290) rfl (hb hby at_286) (by decide) (by decide) ?_
        exact Steps.refl _
      obtain ⟨fs, hr, hrun, hended, hW, hsame⟩ := X118.leave (v := some (.int (1 : Int32))) (fun h => by rw [Bd.returns] at h; cases h)
      have hfin : Steps p.tables e below Ω (T118.setFrames fs) := by
        refine S123.trans ?_
        exact own_retZ X118 hx Bd.returns (by decide) (hb hby at_290) hr
      rw [hΩ] at hfin
      refine ⟨_, _, hfin, hrun, hended, _, _, rfl, ?_, ⟨_, rfl⟩, hW, hsame.mono (by decide) (by decide)⟩
      show Q0 Z q1 q2 q3 w1 w2 kk h0 n0 _ T118.heap _
      rw [e118]
      exact ⟨rfl, N118⟩
    · have qs2 : ¬ mx.toInt < k0.toInt := fun q => s2 (Int64.lt_iff_toInt_lt.mpr q)
      have S124 : Steps p.tables e below Ω (T99.setTop (mkF m 200 #[.val (.long q1), .second, .val (.long q2), .second, .val (.long q3), .second, .val (.long w1), .second, .val (.long w2), .second, .val (.int kk), .val (.int ni), .val (.ref b), .val (.ref kh), .val (.ref kl), .val (.int en), .val (.long mx), .second, .val (.int (-1 : Int32))] [(.int (2 : Int32)), (.int en)])) := by
        refine S107.trans ?_
        refine XS.ifYes X99.here hx rfl (pc0 := 188) (pc' := 197) rfl (hb hby at_188) rfl (XT.ll_le_t s2) (by decide) (by decide) ?_
        show Steps p.tables e below (T99.setTop (mkF m 197 #[.val (.long q1), .second, .val (.long q2), .second, .val (.long q3), .second, .val (.long w1), .second, .val (.long w2), .second, .val (.int kk), .val (.int ni), .val (.ref b), .val (.ref kh), .val (.ref kl), .val (.int en), .val (.long mx), .second, .val (.int (-1 : Int32))] [])) _
        refine XS.iload X99.here hx rfl (hb hby at_197) rfl ?_
        show Steps p.tables e below (T99.setTop (mkF m 199 #[.val (.long q1), .second, .val (.long q2), .second, .val (.long q3), .second, .val (.long w1), .second, .val (.long w2), .second, .val (.int kk), .val (.int ni), .val (.ref b), .val (.ref kh), .val (.ref kl), .val (.int en), .val (.long mx), .second, .val (.int (-1 : Int32))] [(.int en)])) _
        refine XS.iconst X99.here hx rfl (hb hby at_199) ?_
        exact Steps.refl _
      by_cases s3 : en < (2 : Int32)
      · have qs3 : en.toInt < 2 := Int32.lt_iff_toInt_lt.mp s3
        have S125 : Steps p.tables e below Ω (T99.setTop (mkF m 245 #[.val (.long q1), .second, .val (.long q2), .second, .val (.long q3), .second, .val (.long w1), .second, .val (.long w2), .second, .val (.int kk), .val (.int ni), .val (.ref b), .val (.ref kh), .val (.ref kl), .val (.int en), .val (.long mx), .second, .val (.int (-1 : Int32))] [(.ref b)])) := by
          refine S124.trans ?_
          refine XS.icmpYes X99.here hx rfl (pc0 := 200) (pc' := 219) rfl (hb hby at_200) rfl (XT.ii_lt_t s3) (by decide) (by decide) ?_
          show Steps p.tables e below (T99.setTop (mkF m 219 #[.val (.long q1), .second, .val (.long q2), .second, .val (.long q3), .second, .val (.long w1), .second, .val (.long w2), .second, .val (.int kk), .val (.int ni), .val (.ref b), .val (.ref kh), .val (.ref kl), .val (.int en), .val (.long mx), .second, .val (.int (-1 : Int32))] [])) _
          refine XS.iload X99.here hx rfl (hb hby at_219) rfl ?_
          show Steps p.tables e below (T99.setTop (mkF m 221 #[.val (.long q1), .second, .val (.long q2), .second, .val (.long q3), .second, .val (.long w1), .second, .val (.long w2), .second, .val (.int kk), .val (.int ni), .val (.ref b), .val (.ref kh), .val (.ref kl), .val (.int en), .val (.long mx), .second, .val (.int (-1 : Int32))] [(.int en)])) _
          refine XS.iconst X99.here hx rfl (hb hby at_221) ?_
          show Steps p.tables e below (T99.setTop (mkF m 222 #[.val (.long q1), .second, .val (.long q2), .second, .val (.long q3), .second, .val (.long w1), .second, .val (.long w2), .second, .val (.int kk), .val (.int ni), .val (.ref b), .val (.ref kh), .val (.ref kl), .val (.int en), .val (.long mx), .second, .val (.int (-1 : Int32))] [(.int (3 : Int32)), (.int en)])) _
          refine XS.icmpYes X99.here hx rfl (pc0 := 222) (pc' := 238) rfl (hb hby at_222) rfl (XT.ii_lt_t (own_lt32 (by omega))) (by decide) (by decide) ?_
          show Steps p.tables e below (T99.setTop (mkF m 238 #[.val (.long q1), .second, .val (.long q2), .second, .val (.long q3), .second, .val (.long w1), .second, .val (.long w2), .second, .val (.int kk), .val (.int ni), .val (.ref b), .val (.ref kh), .val (.ref kl), .val (.int en), .val (.long mx), .second, .val (.int (-1 : Int32))] [])) _
          refine XS.iload X99.here hx rfl (hb hby at_238) rfl ?_
          show Steps p.tables e below (T99.setTop (mkF m 240 #[.val (.long q1), .second, .val (.long q2), .second, .val (.long q3), .second, .val (.long w1), .second, .val (.long w2), .second, .val (.int kk), .val (.int ni), .val (.ref b), .val (.ref kh), .val (.ref kl), .val (.int en), .val (.long mx), .second, .val (.int (-1 : Int32))] [(.int (-1 : Int32))])) _
          refine XS.ifNo X99.here hx rfl (hb hby at_240) rfl (XT.i0_ge_f (by decide)) ?_
          show Steps p.tables e below (T99.setTop (mkF m 243 #[.val (.long q1), .second, .val (.long q2), .second, .val (.long q3), .second, .val (.long w1), .second, .val (.long w2), .second, .val (.int kk), .val (.int ni), .val (.ref b), .val (.ref kh), .val (.ref kl), .val (.int en), .val (.long mx), .second, .val (.int (-1 : Int32))] [])) _
          refine XS.aload X99.here hx rfl (hb hby at_243) rfl rfl ?_
          exact Steps.refl _
        have hk0 := gk0 (by omega)
        have hfe : f2 = en := own_i3 (own_e g1 f2.toInt en.toInt mx.toInt (by omega) u2 P2 (fun i hi => by have hc : i = 0 := (by omega); rcases hc with rfl <;> omega))
        obtain ⟨cq126, kq126, q126a, q126b, q126c⟩ := isOf hZ e99 E96
        obtain ⟨v126, T126, L126, X126, hQ126, st126⟩ := own_callV X99 hx (y := (⟨"com/example/arcspan/arcspan/io/ForwardHeads", "isEmpty", "()Z"⟩ : MethodName)) hown (mvT hZ (hw _ (List.mem_of_getElem? (i := 34) rfl))) (mvT hZ (hw _ (List.mem_of_getElem? (i := 35) rfl))) (mvT hZ (hw _ (List.mem_of_getElem? (i := 37) rfl))) (mvT hZ (hw _ (List.mem_of_getElem? (i := 36) rfl))) (by decide) (backOf (W := 0) (rm6 l Z a0 hw [] b ha la f2 en T96.heap n0 (Nat.le_trans (Nat.le_trans Zm K93.1) K96.1) Ph96 Pl96 Pf96 Pe96) hZ (hw _ (List.mem_of_getElem? (i := 38) rfl)) (hw _ (List.mem_of_getElem? (i := 2) rfl)) (by decide) (by decide)) q126a q126c (g := (mkF m 245 #[.val (.long q1), .second, .val (.long q2), .second, .val (.long q3), .second, .val (.long w1), .second, .val (.long w2), .second, .val (.int kk), .val (.int ni), .val (.ref b), .val (.ref kh), .val (.ref kl), .val (.int en), .val (.long mx), .second, .val (.int (-1 : Int32))] [(.ref b)])) rfl (by rw [hml]; rfl) (argsL := []) (rest := []) (lenOf pd_4 rfl) rfl (by show 2 * 0 + _ ≤ _; exact Nat.le_of_eq rfl) (hb hby at_245) ⟨rfl, e99, (by decide : 5 + 0 ≤ _), (by decide : 42 + 0 ≤ _)⟩
        obtain ⟨hv126, N126q, e126⟩ := hQ126
        rw [hv126] at st126
        have N126 := Fr.app N99 N126q
        have S127 : Steps p.tables e below Ω (T126.setTop (mkF m 248 #[.val (.long q1), .second, .val (.long q2), .second, .val (.long q3), .second, .val (.long w1), .second, .val (.long w2), .second, .val (.int kk), .val (.int ni), .val (.ref b), .val (.ref kh), .val (.ref kl), .val (.int en), .val (.long mx), .second, .val (.int (-1 : Int32))] [(.int (own_emp f2 en))])) := S125.trans st126
        rw [(by rw [own_emp, if_pos hfe] : (own_emp f2 en) = (1 : Int32))] at S127
        obtain ⟨fs, hr, hrun, hended, hW, hsame⟩ := X126.leave (v := some (.int (1 : Int32))) (fun h => by rw [Bd.returns] at h; cases h)
        have hfin : Steps p.tables e below Ω (T126.setFrames fs) := by
          refine S127.trans ?_
          exact own_retZ X126 hx Bd.returns (by decide) (hb hby at_248) hr
        rw [hΩ] at hfin
        refine ⟨_, _, hfin, hrun, hended, _, _, rfl, ?_, ⟨_, rfl⟩, hW, hsame.mono (by decide) (by decide)⟩
        show Q0 Z q1 q2 q3 w1 w2 kk h0 n0 _ T126.heap _
        rw [e126]
        exact ⟨rfl, N126⟩
      · have qs3 : ¬ en.toInt < 2 := fun q => s3 (Int32.lt_iff_toInt_lt.mpr q)
        have S128 : Steps p.tables e below Ω (T99.setTop (mkF m 206 #[.val (.long q1), .second, .val (.long q2), .second, .val (.long q3), .second, .val (.long w1), .second, .val (.long w2), .second, .val (.int kk), .val (.int ni), .val (.ref b), .val (.ref kh), .val (.ref kl), .val (.int en), .val (.long mx), .second, .val (.int (-1 : Int32))] [(.int (1 : Int32)), (.ref kh)])) := by
          refine S124.trans ?_
          refine XS.icmpNo X99.here hx rfl (hb hby at_200) rfl (XT.ii_lt_f s3) ?_
          show Steps p.tables e below (T99.setTop (mkF m 203 #[.val (.long q1), .second, .val (.long q2), .second, .val (.long q3), .second, .val (.long w1), .second, .val (.long w2), .second, .val (.int kk), .val (.int ni), .val (.ref b), .val (.ref kh), .val (.ref kl), .val (.int en), .val (.long mx), .second, .val (.int (-1 : Int32))] [])) _
          refine XS.aload X99.here hx rfl (hb hby at_203) rfl rfl ?_
          show Steps p.tables e below (T99.setTop (mkF m 205 #[.val (.long q1), .second, .val (.long q2), .second, .val (.long q3), .second, .val (.long w1), .second, .val (.long w2), .second, .val (.int kk), .val (.int ni), .val (.ref b), .val (.ref kh), .val (.ref kl), .val (.int en), .val (.long mx), .second, .val (.int (-1 : Int32))] [(.ref kh)])) _
          refine XS.iconst X99.here hx rfl (hb hby at_205) ?_
          exact Steps.refl _
        have S129 : Steps p.tables e below Ω (T99.setTop (mkF m 207 #[.val (.long q1), .second, .val (.long q2), .second, .val (.long q3), .second, .val (.long w1), .second, .val (.long w2), .second, .val (.int kk), .val (.int ni), .val (.ref b), .val (.ref kh), .val (.ref kl), .val (.int en), .val (.long mx), .second, .val (.int (-1 : Int32))] [(.long k1)])) := S128.trans (own_ldJ X99 hx hZ e99 MK2 (j := (1 : Int32)) (x := k1) (by decide) rfl (g := (mkF m 206 #[.val (.long q1), .second, .val (.long q2), .second, .val (.long q3), .second, .val (.long w1), .second, .val (.long w2), .second, .val (.int kk), .val (.int ni), .val (.ref b), .val (.ref kh), .val (.ref kl), .val (.int en), .val (.long mx), .second, .val (.int (-1 : Int32))] [(.int (1 : Int32)), (.ref kh)])) rfl rfl (hb hby at_206) _ (Steps.refl _))
        have S130 : Steps p.tables e below Ω (T99.setTop (mkF m 210 #[.val (.long q1), .second, .val (.long q2), .second, .val (.long q3), .second, .val (.long w1), .second, .val (.long w2), .second, .val (.int kk), .val (.int ni), .val (.ref b), .val (.ref kh), .val (.ref kl), .val (.int en), .val (.long mx), .second, .val (.int (-1 : Int32))] [(.int (lcmpW k1 mx))])) := by
          refine S129.trans ?_
          refine XS.lload X99.here hx rfl (hb hby at_207) rfl ?_
          show Steps p.tables e below (T99.setTop (mkF m 209 #[.val (.long q1), .second, .val (.long q2), .second, .val (.long q3), .second, .val (.long w1), .second, .val (.long w2), .second, .val (.int kk), .val (.int ni), .val (.ref b), .val (.ref kh), .val (.ref kl), .val (.int en), .val (.long mx), .second, .val (.int (-1 : Int32))] [(.long mx), (.long k1)])) _
          refine XS.lcmp X99.here hx rfl (hb hby at_209) rfl ?_
          exact Steps.refl _
        by_cases s4 : mx < k1
        · have qs4 : mx.toInt < k1.toInt := Int64.lt_iff_toInt_lt.mp s4
          have S131 : Steps p.tables e below Ω (T99.setTop (mkF m 251 #[.val (.long q1), .second, .val (.long q2), .second, .val (.long q3), .second, .val (.long w1), .second, .val (.long w2), .second, .val (.int kk), .val (.int ni), .val (.ref b), .val (.ref kh), .val (.ref kl), .val (.int en), .val (.long mx), .second, .val (.int (1 : Int32))] [(.ref b)])) := by
            refine S130.trans ?_
            refine XS.ifNo X99.here hx rfl (hb hby at_210) rfl (XT.ll_le_f s4) ?_
            show Steps p.tables e below (T99.setTop (mkF m 213 #[.val (.long q1), .second, .val (.long q2), .second, .val (.long q3), .second, .val (.long w1), .second, .val (.long w2), .second, .val (.int kk), .val (.int ni), .val (.ref b), .val (.ref kh), .val (.ref kl), .val (.int en), .val (.long mx), .second, .val (.int (-1 : Int32))] [])) _
            refine XS.iconst X99.here hx rfl (hb hby at_213) ?_
            show Steps p.tables e below (T99.setTop (mkF m 214 #[.val (.long q1), .second, .val (.long q2), .second, .val (.long q3), .second, .val (.long w1), .second, .val (.long w2), .second, .val (.int kk), .val (.int ni), .val (.ref b), .val (.ref kh), .val (.ref kl), .val (.int en), .val (.long mx), .second, .val (.int (-1 : Int32))] [(.int (1 : Int32))])) _
            refine XS.istore X99.here hx rfl (hb hby at_214) rfl (l' := #[.val (.long q1), .second, .val (.long q2), .second, .val (.long q3), .second, .val (.long w1), .second, .val (.long w2), .second, .val (.int kk), .val (.int ni), .val (.ref b), .val (.ref kh), .val (.ref kl), .val (.int en), .val (.long mx), .second, .val (.int (1 : Int32))]) rfl ?_
            show Steps p.tables e below (T99.setTop (mkF m 216 #[.val (.long q1), .second, .val (.long q2), .second, .val (.long q3), .second, .val (.long w1), .second, .val (.long w2), .second, .val (.int kk), .val (.int ni), .val (.ref b), .val (.ref kh), .val (.ref kl), .val (.int en), .val (.long mx), .second, .val (.int (1 : Int32))] [])) _
            refine XS.goto X99.here hx rfl (pc0 := 216) (pc' := 238) rfl (hb hby at_216) (by decide) (by decide) ?_
            show Steps p.tables e below (T99.setTop (mkF m 238 #[.val (.long q1), .second, .val (.long q2), .second, .val (.long q3), .second, .val (.long w1), .second, .val (.long w2), .second, .val (.int kk), .val (.int ni), .val (.ref b), .val (.ref kh), .val (.ref kl), .val (.int en), .val (.long mx), .second, .val (.int (1 : Int32))] [])) _
            refine XS.iload X99.here hx rfl (hb hby at_238) rfl ?_
            show Steps p.tables e below (T99.setTop (mkF m 240 #[.val (.long q1), .second, .val (.long q2), .second, .val (.long q3), .second, .val (.long w1), .second, .val (.long w2), .second, .val (.int kk), .val (.int ni), .val (.ref b), .val (.ref kh), .val (.ref kl), .val (.int en), .val (.long mx), .second, .val (.int (1 : Int32))] [(.int (1 : Int32))])) _
            refine XS.ifYes X99.here hx rfl (pc0 := 240) (pc' := 249) rfl (hb hby at_240) rfl (XT.i0_ge_t (by decide)) (by decide) (by decide) ?_
            show Steps p.tables e below (T99.setTop (mkF m 249 #[.val (.long q1), .second, .val (.long q2), .second, .val (.long q3), .second, .val (.long w1), .second, .val (.long w2), .second, .val (.int kk), .val (.int ni), .val (.ref b), .val (.ref kh), .val (.ref kl), .val (.int en), .val (.long mx), .second, .val (.int (1 : Int32))] [])) _
            refine XS.aload X99.here hx rfl (hb hby at_249) rfl rfl ?_
            exact Steps.refl _
          have hk0 := gk0 (by omega)
          have hk1 := gk1 (by omega)
          have hfi : f2.toInt = (1 : Nat) := own_fi g1 f2.toInt en.toInt mx.toInt 1 (by omega) u2 (by omega) P1 P2 (fun j hi => by have hc : j = 0 := (by omega); rcases hc with rfl <;> omega) (by omega)
          have hfe : ¬ f2 = en := fun q => by rw [q] at hfi; omega
          have hnt : f2.toNatClampNeg = 1 := own_nat hfi
          obtain ⟨cq132, kq132, q132a, q132b, q132c⟩ := isOf hZ e99 E96
          obtain ⟨v132, T132, L132, X132, hQ132, st132⟩ := own_callV X99 hx (y := (⟨"com/example/arcspan/arcspan/io/ForwardHeads", "isEmpty", "()Z"⟩ : MethodName)) hown (mvT hZ (hw _ (List.mem_of_getElem? (i := 34) rfl))) (mvT hZ (hw _ (List.mem_of_getElem? (i := 35) rfl))) (mvT hZ (hw _ (List.mem_of_getElem? (i := 37) rfl))) (mvT hZ (hw _ (List.mem_of_getElem? (i := 36) rfl))) (by decide) (backOf (W := 0) (rm6 l Z a0 hw [] b ha la f2 en T96.heap n0 (Nat.le_trans (Nat.le_trans Zm K93.1) K96.1) Ph96 Pl96 Pf96 Pe96) hZ (hw _ (List.mem_of_getElem? (i := 38) rfl)) (hw _ (List.mem_of_getElem? (i := 2) rfl)) (by decide) (by decide)) q132a q132c (g := (mkF m 251 #[.val (.long q1), .second, .val (.long q2), .second, .val (.long q3), .second, .val (.long w1), .second, .val (.long w2), .second, .val (.int kk), .val (.int ni), .val (.ref b), .val (.ref kh), .val (.ref kl), .val (.int en), .val (.long mx), .second, .val (.int (1 : Int32))] [(.ref b)])) rfl (by rw [hml]; rfl) (argsL := []) (rest := []) (lenOf pd_4 rfl) rfl (by show 2 * 0 + _ ≤ _; exact Nat.le_of_eq rfl) (hb hby at_251) ⟨rfl, e99, (by decide : 5 + 0 ≤ _), (by decide : 42 + 0 ≤ _)⟩
          obtain ⟨hv132, N132q, e132⟩ := hQ132
          rw [hv132] at st132
          have N132 := Fr.app N99 N132q
          have S133 : Steps p.tables e below Ω (T132.setTop (mkF m 254 #[.val (.long q1), .second, .val (.long q2), .second, .val (.long q3), .second, .val (.long w1), .second, .val (.long w2), .second, .val (.int kk), .val (.int ni), .val (.ref b), .val (.ref kh), .val (.ref kl), .val (.int en), .val (.long mx), .second, .val (.int (1 : Int32))] [(.int (own_emp f2 en))])) := S131.trans st132
          rw [(by rw [own_emp, if_neg hfe] : (own_emp f2 en) = (0 : Int32))] at S133
          have S134 : Steps p.tables e below Ω (T132.setTop (mkF m 259 #[.val (.long q1), .second, .val (.long q2), .second, .val (.long q3), .second, .val (.long w1), .second, .val (.long w2), .second, .val (.int kk), .val (.int ni), .val (.ref b), .val (.ref kh), .val (.ref kl), .val (.int en), .val (.long mx), .second, .val (.int (1 : Int32))] [(.ref b)])) := by
            refine S133.trans ?_
            refine XS.ifNo X132.here hx rfl (hb hby at_254) rfl (XT.i0_ne_f (by decide)) ?_
            show Steps p.tables e below (T132.setTop (mkF m 257 #[.val (.long q1), .second, .val (.long q2), .second, .val (.long q3), .second, .val (.long w1), .second, .val (.long w2), .second, .val (.int kk), .val (.int ni), .val (.ref b), .val (.ref kh), .val (.ref kl), .val (.int en), .val (.long mx), .second, .val (.int (1 : Int32))] [])) _
            refine XS.aload X132.here hx rfl (hb hby at_257) rfl rfl ?_
            exact Steps.refl _
          obtain ⟨cq135, kq135, q135a, q135b, q135c⟩ := isOf hZ e132 E96
          obtain ⟨v135, T135, L135, X135, hQ135, st135⟩ := own_callV X132 hx (y := (⟨"com/example/arcspan/arcspan/io/ForwardHeads", "firstHead", "()J"⟩ : MethodName)) hown (mvT hZ (hw _ (List.mem_of_getElem? (i := 40) rfl))) (mvT hZ (hw _ (List.mem_of_getElem? (i := 41) rfl))) (mvT hZ (hw _ (List.mem_of_getElem? (i := 43) rfl))) (mvT hZ (hw _ (List.mem_of_getElem? (i := 42) rfl))) (by decide) (backOf (W := 0) (rm7 l Z a0 hw [] b ha la f2 en g1 T96.heap n0 (Nat.le_trans (Nat.le_trans Zm K93.1) K96.1) Ph96 Pl96 Pf96 Pe96 MH2 (by omega) (by omega)) hZ (hw _ (List.mem_of_getElem? (i := 44) rfl)) (hw _ (List.mem_of_getElem? (i := 2) rfl)) (by decide) (by decide)) q135a q135c (g := (mkF m 259 #[.val (.long q1), .second, .val (.long q2), .second, .val (.long q3), .second, .val (.long w1), .second, .val (.long w2), .second, .val (.int kk), .val (.int ni), .val (.ref b), .val (.ref kh), .val (.ref kl), .val (.int en), .val (.long mx), .second, .val (.int (1 : Int32))] [(.ref b)])) rfl (by rw [hml]; rfl) (argsL := []) (rest := []) (lenOf pd_5 rfl) rfl (by show 2 * 0 + _ ≤ _; exact Nat.le_of_eq rfl) (hb hby at_259) ⟨rfl, e132, (by decide : 5 + 0 ≤ _), (by decide : 42 + 0 ≤ _)⟩
          obtain ⟨hv135, N135q, e135⟩ := hQ135
          rw [hv135] at st135
          have N135 := Fr.app N132 N135q
          have S136 : Steps p.tables e below Ω (T135.setTop (mkF m 262 #[.val (.long q1), .second, .val (.long q2), .second, .val (.long q3), .second, .val (.long w1), .second, .val (.long w2), .second, .val (.int kk), .val (.int ni), .val (.ref b), .val (.ref kh), .val (.ref kl), .val (.int en), .val (.long mx), .second, .val (.int (1 : Int32))] [(.long (g1 f2.toNatClampNeg))])) := S134.trans st135
          rw [(by rw [hnt]; exact (c4 (by omega)).1 : (g1 f2.toNatClampNeg) = k1)] at S136
          have S137 : Steps p.tables e below Ω (T135.setTop (mkF m 266 #[.val (.long q1), .second, .val (.long q2), .second, .val (.long q3), .second, .val (.long w1), .second, .val (.long w2), .second, .val (.int kk), .val (.int ni), .val (.ref b), .val (.ref kh), .val (.ref kl), .val (.int en), .val (.long mx), .second, .val (.int (1 : Int32))] [(.int (1 : Int32)), (.ref kh), (.long k1)])) := by
            refine S136.trans ?_
            refine XS.aload X135.here hx rfl (hb hby at_262) rfl rfl ?_
            show Steps p.tables e below (T135.setTop (mkF m 264 #[.val (.long q1), .second, .val (.long q2), .second, .val (.long q3), .second, .val (.long w1), .second, .val (.long w2), .second, .val (.int kk), .val (.int ni), .val (.ref b), .val (.ref kh), .val (.ref kl), .val (.int en), .val (.long mx), .second, .val (.int (1 : Int32))] [(.ref kh), (.long k1)])) _
            refine XS.iload X135.here hx rfl (hb hby at_264) rfl ?_
            exact Steps.refl _
          have S138 : Steps p.tables e below Ω (T135.setTop (mkF m 267 #[.val (.long q1), .second, .val (.long q2), .second, .val (.long q3), .second, .val (.long w1), .second, .val (.long w2), .second, .val (.int kk), .val (.int ni), .val (.ref b), .val (.ref kh), .val (.ref kl), .val (.int en), .val (.long mx), .second, .val (.int (1 : Int32))] [(.long k1), (.long k1)])) := S137.trans (own_ldJ X135 hx hZ e135 MK2 (j := (1 : Int32)) (x := k1) (by decide) rfl (g := (mkF m 266 #[.val (.long q1), .second, .val (.long q2), .second, .val (.long q3), .second, .val (.long w1), .second, .val (.long w2), .second, .val (.int kk), .val (.int ni), .val (.ref b), .val (.ref kh), .val (.ref kl), .val (.int en), .val (.long mx), .second, .val (.int (1 : Int32))] [(.int (1 : Int32)), (.ref kh), (.long k1)])) rfl rfl (hb hby at_266) _ (Steps.refl _))
          have S139 : Steps p.tables e below Ω (T135.setTop (mkF m 268 #[.val (.long q1), .second, .val (.long q2), .second, .val (.long q3), .second, .val (.long w1), .second, .val (.long w2), .second, .val (.int kk), .val (.int ni), .val (.ref b), .val (.ref kh), .val (.ref kl), .val (.int en), .val (.long mx), .second, .val (.int (1 : Int32))] [(.int (lcmpW k1 k1))])) := by
            refine S138.trans ?_
            refine XS.lcmp X135.here hx rfl (hb hby at_267) rfl ?_
            exact Steps.refl _
          have S140 : Steps p.tables e below Ω (T135.setTop (mkF m 273 #[.val (.long q1), .second, .val (.long q2), .second, .val (.long q3), .second, .val (.long w1), .second, .val (.long w2), .second, .val (.int kk), .val (.int ni), .val (.ref b), .val (.ref kh), .val (.ref kl), .val (.int en), .val (.long mx), .second, .val (.int (1 : Int32))] [(.ref b)])) := by
            refine S139.trans ?_
            refine XS.ifNo X135.here hx rfl (hb hby at_268) rfl (XT.ll_ne_f rfl) ?_
            show Steps p.tables e below (T135.setTop (mkF m 271 #[.val (.long q1), .second, .val (.long q2), .second, .val (.long q3), .second, .val (.long w1), .second, .val (.long w2), .second, .val (.int kk), .val (.int ni), .val (.ref b), .val (.ref kh), .val (.ref kl), .val (.int en), .val (.long mx), .second, .val (.int (1 : Int32))] [])) _
            refine XS.aload X135.here hx rfl (hb hby at_271) rfl rfl ?_
            exact Steps.refl _
          obtain ⟨cq141, kq141, q141a, q141b, q141c⟩ := isOf hZ e135 E96
          obtain ⟨v141, T141, L141, X141, hQ141, st141⟩ := own_callV X135 hx (y := (⟨"com/example/arcspan/arcspan/io/ForwardHeads", "firstLine", "()J"⟩ : MethodName)) hown (mvT hZ (hw _ (List.mem_of_getElem? (i := 45) rfl))) (mvT hZ (hw _ (List.mem_of_getElem? (i := 46) rfl))) (mvT hZ (hw _ (List.mem_of_getElem? (i := 48) rfl))) (mvT hZ (hw _ (List.mem_of_getElem? (i := 47) rfl))) (by decide) (backOf (W := 0) (rm8 l Z a0 hw [] b ha la f2 en g2 T96.heap n0 (Nat.le_trans (Nat.le_trans Zm K93.1) K96.1) Ph96 Pl96 Pf96 Pe96 ML2 (by omega) (by omega)) hZ (hw _ (List.mem_of_getElem? (i := 49) rfl)) (hw _ (List.mem_of_getElem? (i := 2) rfl)) (by decide) (by decide)) q141a q141c (g := (mkF m 273 #[.val (.long q1), .second, .val (.long q2), .second, .val (.long q3), .second, .val (.long w1), .second, .val (.long w2), .second, .val (.int kk), .val (.int ni), .val (.ref b), .val (.ref kh), .val (.ref kl), .val (.int en), .val (.long mx), .second, .val (.int (1 : Int32))] [(.ref b)])) rfl (by rw [hml]; rfl) (argsL := []) (rest := []) (lenOf pd_5 rfl) rfl (by show 2 * 0 + _ ≤ _; exact Nat.le_of_eq rfl) (hb hby at_273) ⟨rfl, e135, (by decide : 5 + 0 ≤ _), (by decide : 42 + 0 ≤ _)⟩
          obtain ⟨hv141, N141q, e141⟩ := hQ141
          rw [hv141] at st141
          have N141 := Fr.app N135 N141q
          have S142 : Steps p.tables e below Ω (T141.setTop (mkF m 276 #[.val (.long q1), .second, .val (.long q2), .second, .val (.long q3), .second, .val (.long w1), .second, .val (.long w2), .second, .val (.int kk), .val (.int ni), .val (.ref b), .val (.ref kh), .val (.ref kl), .val (.int en), .val (.long mx), .second, .val (.int (1 : Int32))] [(.long (g2 f2.toNatClampNeg))])) := S140.trans st141
          rw [(by rw [hnt]; exact (c4 (by omega)).2.1 : (g2 f2.toNatClampNeg) = l1)] at S142
          have S143 : Steps p.tables e below Ω (T141.setTop (mkF m 280 #[.val (.long q1), .second, .val (.long q2), .second, .val (.long q3), .second, .val (.long w1), .second, .val (.long w2), .second, .val (.int kk), .val (.int ni), .val (.ref b), .val (.ref kh), .val (.ref kl), .val (.int en), .val (.long mx), .second, .val (.int (1 : Int32))] [(.int (1 : Int32)), (.ref kl), (.long l1)])) := by
            refine S142.trans ?_
            refine XS.aload X141.here hx rfl (hb hby at_276) rfl rfl ?_
            show Steps p.tables e below (T141.setTop (mkF m 278 #[.val (.long q1), .second, .val (.long q2), .second, .val (.long q3), .second, .val (.long w1), .second, .val (.long w2), .second, .val (.int kk), .val (.int ni), .val (.ref b), .val (.ref kh), .val (.ref kl), .val (.int en), .val (.long mx), .second, .val (.int (1 : Int32))] [(.ref kl), (.long l1)])) _
            refine XS.iload X141.here hx rfl (hb hby at_278) rfl ?_
            exact Steps.refl _
          have S144 : Steps p.tables e below Ω (T141.setTop (mkF m 281 #[.val (.long q1), .second, .val (.long q2), .second, .val (.long q3), .second, .val (.long w1), .second, .val (.long w2), .second, .val (.int kk), .val (.int ni), .val (.ref b), .val (.ref kh), .val (.ref kl), .val (.int en), .val (.long mx), .second, .val (.int (1 : Int32))] [(.long l1), (.long l1)])) := S143.trans (own_ldJ X141 hx hZ e141 MV2 (j := (1 : Int32)) (x := l1) (by decide) rfl (g := (mkF m 280 #[.val (.long q1), .second, .val (.long q2), .second, .val (.long q3), .second, .val (.long w1), .second, .val (.long w2), .second, .val (.int kk), .val (.int ni), .val (.ref b), .val (.ref kh), .val (.ref kl), .val (.int en), .val (.long mx), .second, .val (.int (1 : Int32))] [(.int (1 : Int32)), (.ref kl), (.long l1)])) rfl rfl (hb hby at_280) _ (Steps.refl _))
          have S145 : Steps p.tables e below Ω (T141.setTop (mkF m 282 #[.val (.long q1), .second, .val (.long q2), .second, .val (.long q3), .second, .val (.long w1), .second, .val (.long w2), .second, .val (.int kk), .val (.int ni), .val (.ref b), .val (.ref kh), .val (.ref kl), .val (.int en), .val (.long mx), .second, .val (.int (1 : Int32))] [(.int (lcmpW l1 l1))])) := by
            refine S144.trans ?_
            refine XS.lcmp X141.here hx rfl (hb hby at_281) rfl ?_
            exact Steps.refl _
          have S146 : Steps p.tables e below Ω (T141.setTop (mkF m 290 #[.val (.long q1), .second, .val (.long q2), .second, .val (.long q3), .second, .val (.long w1), .second, .val (.long w2), .second, .val (.int kk), .val (.int ni), .val (.ref b), .val (.ref kh), .val (.ref kl), .val (.int en), .val (.long mx), .second, .val (.int (1 : Int32))] [(.int (1 : Int32))])) := by
            refine S145.trans ?_
            refine XS.ifNo X141.here hx rfl (hb hby at_282) rfl (XT.ll_ne_f rfl) ?_
            show Steps p.tables e below (T141.setTop (mkF m 285 #[.val (.long q1), .second, .val (.long q2), .second, .val (.long q3), .second, .val (.long w1), .second, .val (.long w2), .second, .val (.int kk), .val (.int ni), .val (.ref b), .val (.ref kh), .val (.ref kl), .val (.int en), .val (.long mx), .second, .val (.int (1 : Int32))] [])) _
            refine XS.iconst X141.here hx rfl (hb hby at_285) ?_
            show Steps p.tables e below (T141.setTop (mkF m 286 #[.val (.long q1), .second, .val (.long q2), .second, .val (.long q3), .second, .val (.long w1), .second, .val (.long w2), .second, .val (.int kk), .val (.int ni), .val (.ref b), .val (.ref kh), .val (.ref kl), .val (.int en), .val (.long mx), .second, .val (.int (1 : Int32))] [(.int (1 : Int32))])) _
            refine XS.goto X141.here hx rfl (pc0 := 286) (pc' := 290) rfl (hb hby at_286) (by decide) (by decide) ?_
            exact Steps.refl _
          obtain ⟨fs, hr, hrun, hended, hW, hsame⟩ := X141.leave (v := some (.int (1 : Int32))) (fun h => by rw [Bd.returns] at h; cases h)
          have hfin : Steps p.tables e below Ω (T141.setFrames fs) := by
            refine S146.trans ?_
            exact own_retZ X141 hx Bd.returns (by decide) (hb hby at_290) hr
          rw [hΩ] at hfin
          refine ⟨_, _, hfin, hrun, hended, _, _, rfl, ?_, ⟨_, rfl⟩, hW, hsame.mono (by decide) (by decide)⟩
          show Q0 Z q1 q2 q3 w1 w2 kk h0 n0 _ T141.heap _
          rw [e141]
          exact ⟨rfl, N141⟩
        · have qs4 : ¬ mx.toInt < k1.toInt := fun q => s4 (Int64.lt_iff_toInt_lt.mpr q)
          have S147 : Steps p.tables e below Ω (T99.setTop (mkF m 222 #[.val (.long q1), .second, .val (.long q2), .second, .val (.long q3), .second, .val (.long w1), .second, .val (.long w2), .second, .val (.int kk), .val (.int ni), .val (.ref b), .val (.ref kh), .val (.ref kl), .val (.int en), .val (.long mx), .second, .val (.int (-1 : Int32))] [(.int (3 : Int32)), (.int en)])) := by
            refine S130.trans ?_
            refine XS.ifYes X99.here hx rfl (pc0 := 210) (pc' := 219) rfl (hb hby at_210) rfl (XT.ll_le_t s4) (by decide) (by decide) ?_
            show Steps p.tables e below (T99.setTop (mkF m 219 #[.val (.long q1), .second, .val (.long q2), .second, .val (.long q3), .second, .val (.long w1), .second, .val (.long w2), .second, .val (.int kk), .val (.int ni), .val (.ref b), .val (.ref kh), .val (.ref kl), .val (.int en), .val (.long mx), .second, .val (.int (-1 : Int32))] [])) _
            refine XS.iload X99.here hx rfl (hb hby at_219) rfl ?_
            show Steps p.tables e below (T99.setTop (mkF m 221 #[.val (.long q1), .second, .val (.long q2), .second, .val (.long q3), .second, .val (.long w1), .second, .val (.long w2), .second, .val (.int kk), .val (.int ni), .val (.ref b), .val (.ref kh), .val (.ref kl), .val (.int en), .val (.long mx), .second, .val (.int (-1 : Int32))] [(.int en)])) _
            refine XS.iconst X99.here hx rfl (hb hby at_221) ?_
            exact Steps.refl _
          by_cases s5 : en < (3 : Int32)
          · have qs5 : en.toInt < 3 := Int32.lt_iff_toInt_lt.mp s5
            have S148 : Steps p.tables e below Ω (T99.setTop (mkF m 245 #[.val (.long q1), .second, .val (.long q2), .second, .val (.long q3), .second, .val (.long w1), .second, .val (.long w2), .second, .val (.int kk), .val (.int ni), .val (.ref b), .val (.ref kh), .val (.ref kl), .val (.int en), .val (.long mx), .second, .val (.int (-1 : Int32))] [(.ref b)])) := by
              refine S147.trans ?_
              refine XS.icmpYes X99.here hx rfl (pc0 := 222) (pc' := 238) rfl (hb hby at_222) rfl (XT.ii_lt_t s5) (by decide) (by decide) ?_
              show Steps p.tables e below (T99.setTop (mkF m 238 #[.val (.long q1), .second, .val (.long q2), .second, .val (.long q3), .second, .val (.long w1), .second, .val (.long w2), .second, .val (.int kk), .val (.int ni), .val (.ref b), .val (.ref kh), .val (.ref kl), .val (.int en), .val (.long mx), .second, .val (.int (-1 : Int32))] [])) _
              refine XS.iload X99.here hx rfl (hb hby at_238) rfl ?_
              show Steps p.tables e below (T99.setTop (mkF m 240 #[.val (.long q1), .second, .val (.long q2), .second, .val (.long q3), .second, .val (.long w1), .second, .val (.long w2), .second, .val (.int kk), .val (.int ni), .val (.ref b), .val (.ref kh), .val (.ref kl), .val (.int en), .val (.long mx), .second, .val (.int (-1 : Int32))] [(.int (-1 : Int32))])) _
              refine XS.ifNo X99.here hx rfl (hb hby at_240) rfl (XT.i0_ge_f (by decide)) ?_
              show Steps p.tables e below (T99.setTop (mkF m 243 #[.val (.long q1), .second, .val (.long q2), .second, .val (.long q3), .second, .val (.long w1), .second, .val (.long w2), .second, .val (.int kk), .val (.int ni), .val (.ref b), .val (.ref kh), .val (.ref kl), .val (.int en), .val (.long mx), .second, .val (.int (-1 : Int32))] [])) _
              refine XS.aload X99.here hx rfl (hb hby at_243) rfl rfl ?_
              exact Steps.refl _
            have hk0 := gk0 (by omega)
            have hk1 := gk1 (by omega)
            have hfe : f2 = en := own_i3 (own_e g1 f2.toInt en.toInt mx.toInt (by omega) u2 P2 (fun i hi => by have hc : i = 0 ∨ i = 1 := (by omega); rcases hc with rfl | rfl <;> omega))
            obtain ⟨cq149, kq149, q149a, q149b, q149c⟩ := isOf hZ e99 E96
            obtain ⟨v149, T149, L149, X149, hQ149, st149⟩ := own_callV X99 hx (y := (⟨"com/example/arcspan/arcspan/io/ForwardHeads", "isEmpty", "()Z"⟩ : MethodName)) hown (mvT hZ (hw _ (List.mem_of_getElem? (i := 34) rfl))) (mvT hZ (hw _ (List.mem_of_getElem? (i := 35) rfl))) (mvT hZ (hw _ (List.mem_of_getElem? (i := 37) rfl))) (mvT hZ (hw _ (List.mem_of_getElem? (i := 36) rfl))) (by decide) (backOf (W := 0) (rm6 l Z a0 hw [] b ha la f2 en T96.heap n0 (Nat.le_trans (Nat.le_trans Zm K93.1) K96.1) Ph96 Pl96 Pf96 Pe96) hZ (hw _ (List.mem_of_getElem? (i := 38) rfl)) (hw _ (List.mem_of_getElem? (i := 2) rfl)) (by decide) (by decide)) q149a q149c (g := (mkF m 245 #[.val (.long q1), .second, .val (.long q2), .second, .val (.long q3), .second, .val (.long w1), .second, .val (.long w2), .second, .val (.int kk), .val (.int ni), .val (.ref b), .val (.ref kh), .val (.ref kl), .val (.int en), .val (.long mx), .second, .val (.int (-1 : Int32))] [(.ref b)])) rfl (by rw [hml]; rfl) (argsL := []) (rest := []) (lenOf pd_4 rfl) rfl (by show 2 * 0 + _ ≤ _; exact Nat.le_of_eq rfl) (hb hby at_245) ⟨rfl, e99, (by decide : 5 + 0 ≤ _), (by decide : 42 + 0 ≤ _)⟩
            obtain ⟨hv149, N149q, e149⟩ := hQ149
            rw [hv149] at st149
            have N149 := Fr.app N99 N149q
            have S150 : Steps p.tables e below Ω (T149.setTop (mkF m 248 #[.val (.long q1), .second, .val (.long q2), .second, .val (.long q3), .second, .val (.long w1), .second, .val (.long w2), .second, .val (.int kk), .val (.int ni), .val (.ref b), .val (.ref kh), .val (.ref kl), .val (.int en), .val (.long mx), .second, .val (.int (-1 : Int32))] [(.int (own_emp f2 en))])) := S148.trans st149
            rw [(by rw [own_emp, if_pos hfe] : (own_emp f2 en) = (1 : Int32))] at S150
            obtain ⟨fs, hr, hrun, hended, hW, hsame⟩ := X149.leave (v := some (.int (1 : Int32))) (fun h => by rw [Bd.returns] at h; cases h)
            have hfin : Steps p.tables e below Ω (T149.setFrames fs) := by
              refine S150.trans ?_
              exact own_retZ X149 hx Bd.returns (by decide) (hb hby at_248) hr
            rw [hΩ] at hfin
            refine ⟨_, _, hfin, hrun, hended, _, _, rfl, ?_, ⟨_, rfl⟩, hW, hsame.mono (by decide) (by decide)⟩
            show Q0 Z q1 q2 q3 w1 w2 kk h0 n0 _ T149.heap _
            rw [e149]
            exact ⟨rfl, N149⟩
          · have qs5 : ¬ en.toInt < 3 := fun q => s5 (Int32.lt_iff_toInt_lt.mpr q)
            have S151 : Steps p.tables e below Ω (T99.setTop (mkF m 228 #[.val (.long q1), .second, .val (.long q2), .second, .val (.long q3), .second, .val (.long w1), .second, .val (.long w2), .second, .val (.int kk), .val (.int ni), .val (.ref b), .val (.ref kh), .val (.ref kl), .val (.int en), .val (.long mx), .second, .val (.int (-1 : Int32))] [(.int (2 : Int32)), (.ref kh)])) := by
              refine S147.trans ?_
              refine XS.icmpNo X99.here hx rfl (hb hby at_222) rfl (XT.ii_lt_f s5) ?_
              show Steps p.tables e below (T99.setTop (mkF m 225 #[.val (.long q1), .second, .val (.long q2), .second, .val (.long q3), .second, .val (.long w1), .second, .val (.long w2), .second, .val (.int kk), .val (.int ni), .val (.ref b), .val (.ref kh), .val (.ref kl), .val (.int en), .val (.long mx), .second, .val (.int (-1 : Int32))] [])) _
              refine XS.aload X99.here hx rfl (hb hby at_225) rfl rfl ?_
              show Steps p.tables e below (T99.setTop (mkF m 227 #[.val (.long q1), .second, .val (.long q2), .second, .val (.long q3), .second, .val (.long w1), .second, .val (.long w2), .second, .val (.int kk), .val (.int ni), .val (.ref b), .val (.ref kh), .val (.ref kl), .val (.int en), .val (.long mx), .second, .val (.int (-1 : Int32))] [(.ref kh)])) _
              refine XS.iconst X99.here hx rfl (hb hby at_227) ?_
              exact Steps.refl _
            have S152 : Steps p.tables e below Ω (T99.setTop (mkF m 229 #[.val (.long q1), .second, .val (.long q2), .second, .val (.long q3), .second, .val (.long w1), .second, .val (.long w2), .second, .val (.int kk), .val (.int ni), .val (.ref b), .val (.ref kh), .val (.ref kl), .val (.int en), .val (.long mx), .second, .val (.int (-1 : Int32))] [(.long k2)])) := S151.trans (own_ldJ X99 hx hZ e99 MK2 (j := (2 : Int32)) (x := k2) (by decide) rfl (g := (mkF m 228 #[.val (.long q1), .second, .val (.long q2), .second, .val (.long q3), .second, .val (.long w1), .second, .val (.long w2), .second, .val (.int kk), .val (.int ni), .val (.ref b), .val (.ref kh), .val (.ref kl), .val (.int en), .val (.long mx), .second, .val (.int (-1 : Int32))] [(.int (2 : Int32)), (.ref kh)])) rfl rfl (hb hby at_228) _ (Steps.refl _))
            have S153 : Steps p.tables e below Ω (T99.setTop (mkF m 232 #[.val (.long q1), .second, .val (.long q2), .second, .val (.long q3), .second, .val (.long w1), .second, .val (.long w2), .second, .val (.int kk), .val (.int ni), .val (.ref b), .val (.ref kh), .val (.ref kl), .val (.int en), .val (.long mx), .second, .val (.int (-1 : Int32))] [(.int (lcmpW k2 mx))])) := by
              refine S152.trans ?_
              refine XS.lload X99.here hx rfl (hb hby at_229) rfl ?_
              show Steps p.tables e below (T99.setTop (mkF m 231 #[.val (.long q1), .second, .val (.long q2), .second, .val (.long q3), .second, .val (.long w1), .second, .val (.long w2), .second, .val (.int kk), .val (.int ni), .val (.ref b), .val (.ref kh), .val (.ref kl), .val (.int en), .val (.long mx), .second, .val (.int (-1 : Int32))] [(.long mx), (.long k2)])) _
              refine XS.lcmp X99.here hx rfl (hb hby at_231) rfl ?_
              exact Steps.refl _
            by_cases s6 : mx < k2
            · have qs6 : mx.toInt < k2.toInt := Int64.lt_iff_toInt_lt.mp s6
              have S154 : Steps p.tables e below Ω (T99.setTop (mkF m 251 #[.val (.long q1), .second, .val (.long q2), .second, .val (.long q3), .second, .val (.long w1), .second, .val (.long w2), .second, .val (.int kk), .val (.int ni), .val (.ref b), .val (.ref kh), .val (.ref kl), .val (.int en), .val (.long mx), .second, .val (.int (2 : Int32))] [(.ref b)])) := by
                refine S153.trans ?_
                refine XS.ifNo X99.here hx rfl (hb hby at_232) rfl (XT.ll_le_f s6) ?_
                show Steps p.tables e below (T99.setTop (mkF m 235 #[.val (.long q1), .second, .val (.long q2), .second, .val (.long q3), .second, .val (.long w1), .second, .val (.long w2), .second, .val (.int kk), .val (.int ni), .val (.ref b), .val (.ref kh), .val (.ref kl), .val (.int en), .val (.long mx), .second, .val (.int (-1 : Int32))] [])) _
                refine XS.iconst X99.here hx rfl (hb hby at_235) ?_
                show Steps p.tables e below (T99.setTop (mkF m 236 #[.val (.long q1), .second, .val (.long q2), .second, .val (.long q3), .second, .val (.long w1), .second, .val (.long w2), .second, .val (.int kk), .val (.int ni), .val (.ref b), .val (.ref kh), .val (.ref kl), .val (.int en), .val (.long mx), .second, .val (.int (-1 : Int32))] [(.int (2 : Int32))])) _
                refine XS.istore X99.here hx rfl (hb hby at_236) rfl (l' := #[.val (.long q1), .second, .val (.long q2), .second, .val (.long q3), .second, .val (.long w1), .second, .val (.long w2), .second, .val (.int kk), .val (.int ni), .val (.ref b), .val (.ref kh), .val (.ref kl), .val (.int en), .val (.long mx), .second, .val (.int (2 : Int32))]) rfl ?_
                show Steps p.tables e below (T99.setTop (mkF m 238 #[.val (.long q1), .second, .val (.long q2), .second, .val (.long q3), .second, .val (.long w1), .second, .val (.long w2), .second, .val (.int kk), .val (.int ni), .val (.ref b), .val (.ref kh), .val (.ref kl), .val (.int en), .val (.long mx), .second, .val (.int (2 : Int32))] [])) _
                refine XS.iload X99.here hx rfl (hb hby at_238) rfl ?_
                show Steps p.tables e below (T99.setTop (mkF m 240 #[.val (.long q1), .second, .val (.long q2), .second, .val (.long q3), .second, .val (.long w1), .second, .val (.long w2), .second, .val (.int kk), .val (.int ni), .val (.ref b), .val (.ref kh), .val (.ref kl), .val (.int en), .val (.long mx), .second, .val (.int (2 : Int32))] [(.int (2 : Int32))])) _
                refine XS.ifYes X99.here hx rfl (pc0 := 240) (pc' := 249) rfl (hb hby at_240) rfl (XT.i0_ge_t (by decide)) (by decide) (by decide) ?_
                show Steps p.tables e below (T99.setTop (mkF m 249 #[.val (.long q1), .second, .val (.long q2), .second, .val (.long q3), .second, .val (.long w1), .second, .val (.long w2), .second, .val (.int kk), .val (.int ni), .val (.ref b), .val (.ref kh), .val (.ref kl), .val (.int en), .val (.long mx), .second, .val (.int (2 : Int32))] [])) _
                refine XS.aload X99.here hx rfl (hb hby at_249) rfl rfl ?_
                exact Steps.refl _
              have hk0 := gk0 (by omega)
              have hk1 := gk1 (by omega)
              have hk2 := gk2 (by omega)
              have hfi : f2.toInt = (2 : Nat) := own_fi g1 f2.toInt en.toInt mx.toInt 2 (by omega) u2 (by omega) P1 P2 (fun j hi => by have hc : j = 0 ∨ j = 1 := (by omega); rcases hc with rfl | rfl <;> omega) (by omega)
              have hfe : ¬ f2 = en := fun q => by rw [q] at hfi; omega
              have hnt : f2.toNatClampNeg = 2 := own_nat hfi
              obtain ⟨cq155, kq155, q155a, q155b, q155c⟩ := isOf hZ e99 E96
              obtain ⟨v155, T155, L155, X155, hQ155, st155⟩ := own_callV X99 hx (y := (⟨"com/example/arcspan/arcspan/io/ForwardHeads", "isEmpty", "()Z"⟩ : MethodName)) hown (mvT hZ (hw _ (List.mem_of_getElem? (i := 34) rfl))) (mvT hZ (hw _ (List.mem_of_getElem? (i := 35) rfl))) (mvT hZ (hw _ (List.mem_of_getElem? (i := 37) rfl))) (mvT hZ (hw _ (List.mem_of_getElem? (i := 36) rfl))) (by decide) (backOf (W := 0) (rm6 l Z a0 hw [] b ha la f2 en T96.heap n0 (Nat.le_trans (Nat.le_trans Zm K93.1) K96.1) Ph96 Pl96 Pf96 Pe96) hZ (hw _ (List.mem_of_getElem? (i := 38) rfl)) (hw _ (List.mem_of_getElem? (i := 2) rfl)) (by decide) (by decide)) q155a q155c (g := (mkF m 251 #[.val (.long q1), .second, .val (.long q2), .second, .val (.long q3), .second, .val (.long w1), .second, .val (.long w2), .second, .val (.int kk), .val (.int ni), .val (.ref b), .val (.ref kh), .val (.ref kl), .val (.int en), .val (.long mx), .second, .val (.int (2 : Int32))] [(.ref b)])) rfl (by rw [hml]; rfl) (argsL := []) (rest := []) (lenOf pd_4 rfl) rfl (by show 2 * 0 + _ ≤ _; exact Nat.le_of_eq rfl) (hb hby at_251) ⟨rfl, e99, (by decide : 5 + 0 ≤ _), (by decide : 42 + 0 ≤ _)⟩
              obtain ⟨hv155, N155q, e155⟩ := hQ155
              rw [hv155] at st155
              have N155 := Fr.app N99 N155q
              have S156 : Steps p.tables e below Ω (T155.setTop (mkF m 254 #[.val (.long q1), .second, .val (.long q2), .second, .val (.long q3), .second, .val (.long w1), .second, .val (.long w2), .second, .val (.int kk), .val (.int ni), .val (.ref b), .val (.ref kh), .val (.ref kl), .val (.int en), .val (.long mx), .second, .val (.int (2 : Int32))] [(.int (own_emp f2 en))])) := S154.trans st155
              rw [(by rw [own_emp, if_neg hfe] : (own_emp f2 en) = (0 : Int32))] at S156
              have S157 : Steps p.tables e below Ω (T155.setTop (mkF m 259 #[.val (.long q1), .second, .val (.long q2), .second, .val (.long q3), .second, .val (.long w1), .second, .val (.long w2), .second, .val (.int kk), .val (.int ni), .val (.ref b), .val (.ref kh), .val (.ref kl), .val (.int en), .val (.long mx), .second, .val (.int (2 : Int32))] [(.ref b)])) := by
                refine S156.trans ?_
                refine XS.ifNo X155.here hx rfl (hb hby at_254) rfl (XT.i0_ne_f (by decide)) ?_
                show Steps p.tables e below (T155.setTop (mkF m 257 #[.val (.long q1), .second, .val (.long q2), .second, .val (.long q3), .second, .val (.long w1), .second, .val (.long w2), .second, .val (.int kk), .val (.int ni), .val (.ref b), .val (.ref kh), .val (.ref kl), .val (.int en), .val (.long mx), .second, .val (.int (2 : Int32))] [])) _
                refine XS.aload X155.here hx rfl (hb hby at_257) rfl rfl ?_
                exact Steps.refl _
              obtain ⟨cq158, kq158, q158a, q158b, q158c⟩ := isOf hZ e155 E96
              obtain ⟨v158, T158, L158, X158, hQ158, st158⟩ := own_callV X155 hx (y := (⟨"com/example/arcspan/arcspan/io/ForwardHeads", "firstHead", "()J"⟩ : MethodName)) hown (mvT hZ (hw _ (List.mem_of_getElem? (i := 40) rfl))) (mvT hZ (hw _ (List.mem_of_getElem? (i := 41) rfl))) (mvT hZ (hw _ (List.mem_of_getElem? (i := 43) rfl))) (mvT hZ (hw _ (List.mem_of_getElem? (i := 42) rfl))) (by decide) (backOf (W := 0) (rm7 l Z a0 hw [] b ha la f2 en g1 T96.heap n0 (Nat.le_trans (Nat.le_trans Zm K93.1) K96.1) Ph96 Pl96 Pf96 Pe96 MH2 (by omega) (by omega)) hZ (hw _ (List.mem_of_getElem? (i := 44) rfl)) (hw _ (List.mem_of_getElem? (i := 2) rfl)) (by decide) (by decide)) q158a q158c (g := (mkF m 259 #[.val (.long q1), .second, .val (.long q2), .second, .val (.long q3), .second, .val (.long w1), .second, .val (.long w2), .second, .val (.int kk), .val (.int ni), .val (.ref b), .val (.ref kh), .val (.ref kl), .val (.int en), .val (.long mx), .second, .val (.int (2 : Int32))] [(.ref b)])) rfl (by rw [hml]; rfl) (argsL := []) (rest := []) (lenOf pd_5 rfl) rfl (by show 2 * 0 + _ ≤ _; exact Nat.le_of_eq rfl) (hb hby at_259) ⟨rfl, e155, (by decide : 5 + 0 ≤ _), (by decide : 42 + 0 ≤ _)⟩
              obtain ⟨hv158, N158q, e158⟩ := hQ158
              rw [hv158] at st158
              have N158 := Fr.app N155 N158q
              have S159 : Steps p.tables e below Ω (T158.setTop (mkF m 262 #[.val (.long q1), .second, .val (.long q2), .second, .val (.long q3), .second, .val (.long w1), .second, .val (.long w2), .second, .val (.int kk), .val (.int ni), .val (.ref b), .val (.ref kh), .val (.ref kl), .val (.int en), .val (.long mx), .second, .val (.int (2 : Int32))] [(.long (g1 f2.toNatClampNeg))])) := S157.trans st158
              rw [(by rw [hnt]; exact (c5 (by omega)).1 : (g1 f2.toNatClampNeg) = k2)] at S159
              have S160 : Steps p.tables e below Ω (T158.setTop (mkF m 266 #[.val (.long q1), .second, .val (.long q2), .second, .val (.long q3), .second, .val (.long w1), .second, .val (.long w2), .second, .val (.int kk), .val (.int ni), .val (.ref b), .val (.ref kh), .val (.ref kl), .val (.int en), .val (.long mx), .second, .val (.int (2 : Int32))] [(.int (2 : Int32)), (.ref kh), (.long k2)])) := by
                refine S159.trans ?_
                refine XS.aload X158.here hx rfl (hb hby at_262) rfl rfl ?_
                show Steps p.tables e below (T158.setTop (mkF m 264 #[.val (.long q1), .second, .val (.long q2), .second, .val (.long q3), .second, .val (.long w1), .second, .val (.long w2), .second, .val (.int kk), .val (.int ni), .val (.ref b), .val (.ref kh), .val (.ref kl), .val (.int en), .val (.long mx), .second, .val (.int (2 : Int32))] [(.ref kh), (.long k2)])) _
                refine XS.iload X158.here hx rfl (hb hby at_264) rfl ?_
                exact Steps.refl _
              have S161 : Steps p.tables e below Ω (T158.setTop (mkF m 267 #[.val (.long q1), .second, .val (.long q2), .second, .val (.long q3), .second, .val (.long w1), .second, .val (.long w2), .second, .val (.int kk), .val (.int ni), .val (.ref b), .val (.ref kh), .val (.ref kl), .val (.int en), .val (.long mx), .second, .val (.int (2 : Int32))] [(.long k2), (.long k2)])) := S160.trans (own_ldJ X158 hx hZ e158 MK2 (j := (2 : Int32)) (x := k2) (by decide) rfl (g := (mkF m 266 #[.val (.long q1), .second, .val (.long q2), .second, .val (.long q3), .second, .val (.long w1), .second, .val (.long w2), .second, .val (.int kk), .val (.int ni), .val (.ref b), .val (.ref kh), .val (.ref kl), .val (.int en), .val (.long mx), .second, .val (.int (2 : Int32))] [(.int (2 : Int32)), (.ref kh), (.long k2)])) rfl rfl (hb hby at_266) _ (Steps.refl _))
              have S162 : Steps p.tables e below Ω (T158.setTop (mkF m 268 #[.val (.long q1), .second, .val (.long q2), .second, .val (.long q3), .second, .val (.long w1), .second, .val (.long w2), .second, .val (.int kk), .val (.int ni), .val (.ref b), .val (.ref kh), .val (.ref kl), .val (.int en), .val (.long mx), .second, .val (.int (2 : Int32))] [(.int (lcmpW k2 k2))])) := by
                refine S161.trans ?_
                refine XS.lcmp X158.here hx rfl (hb hby at_267) rfl ?_
                exact Steps.refl _
              have S163 : Steps p.tables e below Ω (T158.setTop (mkF m 273 #[.val (.long q1), .second, .val (.long q2), .second, .val (.long q3), .second, .val (.long w1), .second, .val (.long w2), .second, .val (.int kk), .val (.int ni), .val (.ref b), .val (.ref kh), .val (.ref kl), .val (.int en), .val (.long mx), .second, .val (.int (2 : Int32))] [(.ref b)])) := by
                refine S162.trans ?_
                refine XS.ifNo X158.here hx rfl (hb hby at_268) rfl (XT.ll_ne_f rfl) ?_
                show Steps p.tables e below (T158.setTop (mkF m 271 #[.val (.long q1), .second, .val (.long q2), .second, .val (.long q3), .second, .val (.long w1), .second, .val (.long w2), .second, .val (.int kk), .val (.int ni), .val (.ref b), .val (.ref kh), .val (.ref kl), .val (.int en), .val (.long mx), .second, .val (.int (2 : Int32))] [])) _
                refine XS.aload X158.here hx rfl (hb hby at_271) rfl rfl ?_
                exact Steps.refl _
              obtain ⟨cq164, kq164, q164a, q164b, q164c⟩ := isOf hZ e158 E96
              obtain ⟨v164, T164, L164, X164, hQ164, st164⟩ := own_callV X158 hx (y := (⟨"com/example/arcspan/arcspan/io/ForwardHeads", "firstLine", "()J"⟩ : MethodName)) hown (mvT hZ (hw _ (List.mem_of_getElem? (i := 45) rfl))) (mvT hZ (hw _ (List.mem_of_getElem? (i := 46) rfl))) (mvT hZ (hw _ (List.mem_of_getElem? (i := 48) rfl))) (mvT hZ (hw _ (List.mem_of_getElem? (i := 47) rfl))) (by decide) (backOf (W := 0) (rm8 l Z a0 hw [] b ha la f2 en g2 T96.heap n0 (Nat.le_trans (Nat.le_trans Zm K93.1) K96.1) Ph96 Pl96 Pf96 Pe96 ML2 (by omega) (by omega)) hZ (hw _ (List.mem_of_getElem? (i := 49) rfl)) (hw _ (List.mem_of_getElem? (i := 2) rfl)) (by decide) (by decide)) q164a q164c (g := (mkF m 273 #[.val (.long q1), .second, .val (.long q2), .second, .val (.long q3), .second, .val (.long w1), .second, .val (.long w2), .second, .val (.int kk), .val (.int ni), .val (.ref b), .val (.ref kh), .val (.ref kl), .val (.int en), .val (.long mx), .second, .val (.int (2 : Int32))] [(.ref b)])) rfl (by rw [hml]; rfl) (argsL := []) (rest := []) (lenOf pd_5 rfl) rfl (by show 2 * 0 + _ ≤ _; exact Nat.le_of_eq rfl) (hb hby at_273) ⟨rfl, e158, (by decide : 5 + 0 ≤ _), (by decide : 42 + 0 ≤ _)⟩
              obtain ⟨hv164, N164q, e164⟩ := hQ164
              rw [hv164] at st164
              have N164 := Fr.app N158 N164q
              have S165 : Steps p.tables e below Ω (T164.setTop (mkF m 276 #[.val (.long q1), .second, .val (.long q2), .second, .val (.long q3), .second, .val (.long w1), .second, .val (.long w2), .second, .val (.int kk), .val (.int ni), .val (.ref b), .val (.ref kh), .val (.ref kl), .val (.int en), .val (.long mx), .second, .val (.int (2 : Int32))] [(.long (g2 f2.toNatClampNeg))])) := S163.trans st164
              rw [(by rw [hnt]; exact (c5 (by omega)).2.1 : (g2 f2.toNatClampNeg) = l2)] at S165
              have S166 : Steps p.tables e below Ω (T164.setTop (mkF m 280 #[.val (.long q1), .second, .val (.long q2), .second, .val (.long q3), .second, .val (.long w1), .second, .val (.long w2), .second, .val (.int kk), .val (.int ni), .val (.ref b), .val (.ref kh), .val (.ref kl), .val (.int en), .val (.long mx), .second, .val (.int (2 : Int32))] [(.int (2 : Int32)), (.ref kl), (.long l2)])) := by
                refine S165.trans ?_
                refine XS.aload X164.here hx rfl (hb hby at_276) rfl rfl ?_
                show Steps p.tables e below (T164.setTop (mkF m 278 #[.val (.long q1), .second, .val (.long q2), .second, .val (.long q3), .second, .val (.long w1), .second, .val (.long w2), .second, .val (.int kk), .val (.int ni), .val (.ref b), .val (.ref kh), .val (.ref kl), .val (.int en), .val (.long mx), .second, .val (.int (2 : Int32))] [(.ref kl), (.long l2)])) _
                refine XS.iload X164.here hx rfl (hb hby at_278) rfl ?_
                exact Steps.refl _
              have S167 : Steps p.tables e below Ω (T164.setTop (mkF m 281 #[.val (.long q1), .second, .val (.long q2), .second, .val (.long q3), .second, .val (.long w1), .second, .val (.long w2), .second, .val (.int kk), .val (.int ni), .val (.ref b), .val (.ref kh), .val (.ref kl), .val (.int en), .val (.long mx), .second, .val (.int (2 : Int32))] [(.long l2), (.long l2)])) := S166.trans (own_ldJ X164 hx hZ e164 MV2 (j := (2 : Int32)) (x := l2) (by decide) rfl (g := (mkF m 280 #[.val (.long q1), .second, .val (.long q2), .second, .val (.long q3), .second, .val (.long w1), .second, .val (.long w2), .second, .val (.int kk), .val (.int ni), .val (.ref b), .val (.ref kh), .val (.ref kl), .val (.int en), .val (.long mx), .second, .val (.int (2 : Int32))] [(.int (2 : Int32)), (.ref kl), (.long l2)])) rfl rfl (hb hby at_280) _ (Steps.refl _))
              have S168 : Steps p.tables e below Ω (T164.setTop (mkF m 282 #[.val (.long q1), .second, .val (.long q2), .second, .val (.long q3), .second, .val (.long w1), .second, .val (.long w2), .second, .val (.int kk), .val (.int ni), .val (.ref b), .val (.ref kh), .val (.ref kl), .val (.int en), .val (.long mx), .second, .val (.int (2 : Int32))] [(.int (lcmpW l2 l2))])) := by
                refine S167.trans ?_
                refine XS.lcmp X164.here hx rfl (hb hby at_281) rfl ?_
                exact Steps.refl _
              have S169 : Steps p.tables e below Ω (T164.setTop (mkF m 290 #[.val (.long q1), .second, .val (.long q2), .second, .val (.long q3), .second, .val (.long w1), .second, .val (.long w2), .second, .val (.int kk), .val (.int ni), .val (.ref b), .val (.ref kh), .val (.ref kl), .val (.int en), .val (.long mx), .second, .val (.int (2 : Int32))] [(.int (1 : Int32))])) := by
                refine S168.trans ?_
                refine XS.ifNo X164.here hx rfl (hb hby at_282) rfl (XT.ll_ne_f rfl) ?_
                show Steps p.tables e below (T164.setTop (mkF m 285 #[.val (.long q1), .second, .val (.long q2), .second, .val (.long q3), .second, .val (.long w1), .second, .val (.long w2), .second, .val (.int kk), .val (.int ni), .val (.ref b), .val (.ref kh), .val (.ref kl), .val (.int en), .val (.long mx), .second, .val (.int (2 : Int32))] [])) _
                refine XS.iconst X164.here hx rfl (hb hby at_285) ?_
                show Steps p.tables e below (T164.setTop (mkF m 286 #[.val (.long q1), .second, .val (.long q2), .second, .val (.long q3), .second, .val (.long w1), .second, .val (.long w2), .second, .val (.int kk), .val (.int ni), .val (.ref b), .val (.ref kh), .val (.ref kl), .val (.int en), .val (.long mx), .second, .val (.int (2 : Int32))] [(.int (1 : Int32))])) _
                refine XS.goto X164.here hx rfl (pc0 := 286) (pc' := 290) rfl (hb hby at_286) (by decide) (by decide) ?_
                exact Steps.refl _
              obtain ⟨fs, hr, hrun, hended, hW, hsame⟩ := X164.leave (v := some (.int (1 : Int32))) (fun h => by rw [Bd.returns] at h; cases h)
              have hfin : Steps p.tables e below Ω (T164.setFrames fs) := by
                refine S169.trans ?_
                exact own_retZ X164 hx Bd.returns (by decide) (hb hby at_290) hr
              rw [hΩ] at hfin
              refine ⟨_, _, hfin, hrun, hended, _, _, rfl, ?_, ⟨_, rfl⟩, hW, hsame.mono (by decide) (by decide)⟩
              show Q0 Z q1 q2 q3 w1 w2 kk h0 n0 _ T164.heap _
              rw [e164]
              exact ⟨rfl, N164⟩
            · have qs6 : ¬ mx.toInt < k2.toInt := fun q => s6 (Int64.lt_iff_toInt_lt.mpr q)
              have S170 : Steps p.tables e below Ω (T99.setTop (mkF m 245 #[.val (.long q1), .second, .val (.long q2), .second, .val (.long q3), .second, .val (.long w1), .second, .val (.long w2), .second, .val (.int kk), .val (.int ni), .val (.ref b), .val (.ref kh), .val (.ref kl), .val (.int en), .val (.long mx), .second, .val (.int (-1 : Int32))] [(.ref b)])) := by
                refine S153.trans ?_
                refine XS.ifYes X99.here hx rfl (pc0 := 232) (pc' := 238) rfl (hb hby at_232) rfl (XT.ll_le_t s6) (by decide) (by decide) ?_
                show Steps p.tables e below (T99.setTop (mkF m 238 #[.val (.long q1), .second, .val (.long q2), .second, .val (.long q3), .second, .val (.long w1), .second, .val (.long w2), .second, .val (.int kk), .val (.int ni), .val (.ref b), .val (.ref kh), .val (.ref kl), .val (.int en), .val (.long mx), .second, .val (.int (-1 : Int32))] [])) _
                refine XS.iload X99.here hx rfl (hb hby at_238) rfl ?_
                show Steps p.tables e below (T99.setTop (mkF m 240 #[.val (.long q1), .second, .val (.long q2), .second, .val (.long q3), .second, .val (.long w1), .second, .val (.long w2), .second, .val (.int kk), .val (.int ni), .val (.ref b), .val (.ref kh), .val (.ref kl), .val (.int en), .val (.long mx), .second, .val (.int (-1 : Int32))] [(.int (-1 : Int32))])) _
                refine XS.ifNo X99.here hx rfl (hb hby at_240) rfl (XT.i0_ge_f (by decide)) ?_
                show Steps p.tables e below (T99.setTop (mkF m 243 #[.val (.long q1), .second, .val (.long q2), .second, .val (.long q3), .second, .val (.long w1), .second, .val (.long w2), .second, .val (.int kk), .val (.int ni), .val (.ref b), .val (.ref kh), .val (.ref kl), .val (.int en), .val (.long mx), .second, .val (.int (-1 : Int32))] [])) _
                refine XS.aload X99.here hx rfl (hb hby at_243) rfl rfl ?_
                exact Steps.refl _
              have hk0 := gk0 (by omega)
              have hk1 := gk1 (by omega)
              have hk2 := gk2 (by omega)
              have hfe : f2 = en := own_i3 (own_e g1 f2.toInt en.toInt mx.toInt (by omega) u2 P2 (fun i hi => by have hc : i = 0 ∨ i = 1 ∨ i = 2 := (by omega); rcases hc with rfl | rfl | rfl <;> omega))
              obtain ⟨cq171, kq171, q171a, q171b, q171c⟩ := isOf hZ e99 E96
              obtain ⟨v171, T171, L171, X171, hQ171, st171⟩ := own_callV X99 hx (y := (⟨"com/example/arcspan/arcspan/io/ForwardHeads", "isEmpty", "()Z"⟩ : MethodName)) hown (mvT hZ (hw _ (List.mem_of_getElem? (i := 34) rfl))) (mvT hZ (hw _ (List.mem_of_getElem? (i := 35) rfl))) (mvT hZ (hw _ (List.mem_of_getElem? (i := 37) rfl))) (mvT hZ (hw _ (List.mem_of_getElem? (i := 36) rfl))) (by decide) (backOf (W := 0) (rm6 l Z a0 hw [] b ha la f2 en T96.heap n0 (Nat.le_trans (Nat.le_trans Zm K93.1) K96.1) Ph96 Pl96 Pf96 Pe96) hZ (hw _ (List.mem_of_getElem? (i := 38) rfl)) (hw _ (List.mem_of_getElem? (i := 2) rfl)) (by decide) (by decide)) q171a q171c (g := (mkF m 245 #[.val (.long q1), .second, .val (.long q2), .second, .val (.long q3), .second, .val (.long w1), .second, .val (.long w2), .second, .val (.int kk), .val (.int ni), .val (.ref b), .val (.ref kh), .val (.ref kl), .val (.int en), .val (.long mx), .second, .val (.int (-1 : Int32))] [(.ref b)])) rfl (by rw [hml]; rfl) (argsL := []) (rest := []) (lenOf pd_4 rfl) rfl (by show 2 * 0 + _ ≤ _; exact Nat.le_of_eq rfl) (hb hby at_245) ⟨rfl, e99, (by decide : 5 + 0 ≤ _), (by decide : 42 + 0 ≤ _)⟩
              obtain ⟨hv171, N171q, e171⟩ := hQ171
              rw [hv171] at st171
              have N171 := Fr.app N99 N171q
              have S172 : Steps p.tables e below Ω (T171.setTop (mkF m 248 #[.val (.long q1), .second, .val (.long q2), .second, .val (.long q3), .second, .val (.long w1), .second, .val (.long w2), .second, .val (.int kk), .val (.int ni), .val (.ref b), .val (.ref kh), .val (.ref kl), .val (.int en), .val (.long mx), .second, .val (.int (-1 : Int32))] [(.int (own_emp f2 en))])) := S170.trans st171
              rw [(by rw [own_emp, if_pos hfe] : (own_emp f2 en) = (1 : Int32))] at S172
              obtain ⟨fs, hr, hrun, hended, hW, hsame⟩ := X171.leave (v := some (.int (1 : Int32))) (fun h => by rw [Bd.returns] at h; cases h)
              have hfin : Steps p.tables e below Ω (T171.setFrames fs) := by
                refine S172.trans ?_
                exact own_retZ X171 hx Bd.returns (by decide) (hb hby at_248) hr
              rw [hΩ] at hfin
              refine ⟨_, _, hfin, hrun, hended, _, _, rfl, ?_, ⟨_, rfl⟩, hW, hsame.mono (by decide) (by decide)⟩
              show Q0 Z q1 q2 q3 w1 w2 kk h0 n0 _ T171.heap _
              rw [e171]
              exact ⟨rfl, N171⟩
set_option maxRecDepth 65536 in
set_option maxHeartbeats 40000000 in
theorem comes_1 {Post : Tables → Env → Array Value → State → Outcome → State → Prop} (hpost : ∀ tb e args s v u, (limb_1_1.after args s (.returned v) u = true ∧ limb_1_2.after args s (.returned v) u = true ∧ True) → FrameEnd s (.returned v) u (Jvm.fieldLocs frame_1_writes args s ++ Jvm.arrayLocs frame_1_arrays args s ++ Jvm.staticLocs frame_1_statics s) 24 192 → Post tb e args s (.returned v) u) :
    ArmFor flags0 classFile x code maxLocals ret World_1 tables_1 room_1 Calls_1 rest_1 Pre_1 Post := by
  intro l hfl _ _ p e ha hc hk s m args below hf hA hF happ hP
  obtain ⟨hcalls, hrest, hpre⟩ := hP
  obtain ⟨-, -, -, hnamed, -, -, -, hat⟩ := (Spec.applies_iff hf).mp happ
  obtain ⟨hg, hn⟩ := and_e (Cond.before_iff.mp (show (Jvm.Cond.and given_1 narrow_1).before args s = true from hpre))
  obtain ⟨gc, g0⟩ := and_e hg
  obtain ⟨k0, g1⟩ := and_e g0
  obtain ⟨k1, g2⟩ := and_e g1
  obtain ⟨k2, g3⟩ := and_e g2
  obtain ⟨k3, g4⟩ := and_e g3
  obtain ⟨k4, g5⟩ := and_e g4
  obtain ⟨w0, w1, w2, w3, w4, w5, rfl⟩ : ∃ w0 w1 w2 w3 w4 w5 : Value, args = #[w0, w1, w2, w3, w4, w5] := by
    have hs : args.size = 6 := by simpa [Cond.value, given_1] using gc
    obtain ⟨L⟩ := args
    match L, hs with
    | [w0, w1, w2, w3, w4, w5], _ => exact ⟨w0, w1, w2, w3, w4, w5, rfl⟩
  have hw := fun d (hd : d ∈ tables_1) => atoms_spec (ws := Jvm.Cond.code x code maxLocals ret :: tables_1) hat d (List.mem_cons_of_mem _ hd)
  have hfit : Fit s := fun {y c} hc i hi => by
    obtain ⟨ha, rfl⟩ := Array.getElem?_eq_some_iff.mp hc
    have q := List.all_eq_true.mp ((Array.all_eq_true_iff_forall_mem.mp hF) _ (Array.getElem_mem ha)) i (List.mem_range.mpr hi)
    simpa [Array.getElem?_eq_getElem hi] using q
  obtain ⟨i0, ei0⟩ := isL_v k0
  obtain rfl : w0 = (.long i0) := Option.some.inj ei0
  obtain ⟨i1, ei1⟩ := isL_v k1
  obtain rfl : w1 = (.long i1) := Option.some.inj ei1
  obtain ⟨i2, ei2⟩ := isL_v k2
  obtain rfl : w2 = (.long i2) := Option.some.inj ei2
  obtain ⟨i3, ei3⟩ := isL_v k3
  obtain rfl : w3 = (.long i3) := Option.some.inj ei3
  obtain ⟨i4, ei4⟩ := isL_v k4
  obtain rfl : w4 = (.long i4) := Option.some.inj ei4
  obtain ⟨i5, ei5⟩ := is_v g5
  obtain rfl : w5 = (.int i5) := Option.some.inj ei5
  obtain ⟨n, o, h1, h2, h3, _, L, rfl, ⟨rfl, N⟩, hq⟩ := rm0 l s _ hw tables_1 i0 i1 i2 i3 i4 i5  s.heap s.heap.size (Nat.le_refl _)  p e ha hc hk s m _ below hf ((Spec.applies_iff_loose hf).mp happ).1 ⟨rfl, State.Warmed39.refl s, rfl⟩ trivial
  refine ⟨n, _, h1, h2, h3, hpost _ _ _ _ _ _ ⟨Cond.after_iff.mpr rfl, Cond.after_iff.mpr (eq_i res_at (Term.int_eval (1)) rfl), trivial⟩ ⟨hq.1, hq.2.1, (hq.2.2.sift fun y hy => Or.inr (N y hy)).mono (by decide) (by decide)⟩⟩
theorem main_1_1 : Claimed_1_1 := comes_1 fun _ _ _ _ _ _ h hF => ⟨h.1, hF⟩
theorem main_1_2 : Claimed_1_2 := comes_1 fun _ _ _ _ _ _ h hF => ⟨h.2.1, hF⟩
end Jvm.Pilot.@@N@@
namespace Jvm.Pilot.@@N@@
open Jvm Jvm.ClassFile Sem Op Lib Jvm.Free Jvm.Stand Jvm.Pilot.@@N@@.Jvm.D
/-! MADE BY PROGRAM (witnessworld.py) out of the Statement's table words and the real class files: 12 classes; the members and pool entries that the words name. The judged class is class 1, her method 1. -/
namespace start1
open Jvm.ClassFile
def u (s : String) : CpInfo := .utf8 (stringToUtf16 s)
/-- a pool by its gaps: so many unusable entries, then the entry; so many at the end -/
def gap : Nat → List CpInfo → List CpInfo
  | 0, r => r
  | n + 1, r => .unusable :: gap n r
def poolList (es : List (Nat × CpInfo)) (last : Nat) : List CpInfo := es.foldr (fun e r => gap e.1 (e.2 :: r)) (gap last [])
def pool (es : List (Nat × CpInfo)) (last : Nat) : Array CpInfo := ⟨poolList es last⟩
def fileOf (pool : Array CpInfo) (this : Nat) (attrs : Array Attribute := #[]) (ms : Array MethodInfo := #[]) (fl : Nat := 33) (sup : Nat := 0) (ifs : Array Nat := #[]) (fds : Array FieldInfo := #[]) : ClassFile where
  minorVersion := 0
  majorVersion := 65
  constantPool := pool
  accessFlags := fl
  thisClass := this
  superClass := sup
  interfaces := ifs
  fields := fds
  methods := ms
  attributes := attrs
def plain (name : String) (sup : Option ClassId) : Class where
  name := name
  kind := .ordinary
  loader := none
  accessFlags := 33
  super := sup
  interfaces := #[]
  cf := none
  fields := #[]
  methods := #[]
  instanceTypes := #[]
  staticTypes := #[]
  resolved := #[]
  callSites := []
  init := .initialized
  statics := none
  mirror := none

def pool0 : Array CpInfo := pool [(5, u "<init>"), (0, u "()V"), (1, .class_ 10), (1, u "java/lang/Object")] 113

def k0c0 : Code := { maxStack := 0, maxLocals := 1, code := object_method_1_code, exceptionTable := #[], attributes := #[] }
def k0m0 : Method := { name := "<init>", desc := "()V", sig := { parameters := [], returnType := none }, accessFlags := 1, code := some k0c0 }
/-- java/lang/Object -/
def k0 : Class := { plain "java/lang/Object" none with
  accessFlags := 33
  interfaces := #[]
  cf := some (fileOf pool0 8 #[] #[{ accessFlags := 1, nameIndex := 5, descriptorIndex := 6, attributes := #[] }] 33 0 #[] #[])
  fields := #[]
  methods := #[k0m0]
  instanceTypes := #[]
  staticTypes := #[]
  resolved := Array.replicate 124 none
  statics := none }

def pool1 : Array CpInfo := pool [(2, .class_ 4), (0, .nameAndType 5 6), (0, u "java/lang/Object"), (0, u "<init>"), (0, u "()V"), (0, .class_ 8), (0, u "com/example/arcspan/arcspan/io/ForwardHeads"), (0, .methodref 7 3), (0, .long 11), (1, .methodref 7 13), (0, .nameAndType 14 15), (0, u "add"), (0, u "(JJ)V"), (0, .long 22), (1, .long 33), (1, .methodref 7 21), (0, .nameAndType 22 23), (0, u "reached"), (0, u "(J)V"), (0, .methodref 25 26), (0, .class_ 27), (0, .nameAndType 28 29), (0, u "java/lang/Math"), (0, u "max"), (0, u "(JJ)J"), (0, .methodref 7 31), (0, .nameAndType 32 33), (0, u "isEmpty"), (0, u "()Z"), (0, .methodref 7 35), (0, .nameAndType 36 37), (0, u "firstHead"), (0, u "()J"), (0, .methodref 7 39), (0, .nameAndType 40 37), (0, u "firstLine"), (0, .class_ 42), (0, u "com/example/arcspan/arcspan/io/ForwardHeadsReachedPinLaw"), (2, u "law"), (0, u "(JJJJJI)Z")] 5

def k1m0 : Method := { name := "<init>", desc := "()V", sig := { parameters := [], returnType := none }, accessFlags := 1, code := none }
def k1c1 : Code := { maxStack := 5, maxLocals := 19, code := code, exceptionTable := #[], attributes := #[] }
def k1m1 : Method := { name := "law", desc := "(JJJJJI)Z", sig := { parameters := [.long, .long, .long, .long, .long, .int], returnType := some .boolean }, accessFlags := 9, code := some k1c1 }
/-- com/example/arcspan/arcspan/io/ForwardHeadsReachedPinLaw -/
def k1 : Class := { plain "com/example/arcspan/arcspan/io/ForwardHeadsReachedPinLaw" (some 0) with
  accessFlags := 49
  interfaces := #[]
  cf := some (fileOf pool1 41 #[] #[{ accessFlags := 1, nameIndex := 5, descriptorIndex := 6, attributes := #[] }, { accessFlags := 9, nameIndex := 45, descriptorIndex := 46, attributes := #[] }] 49 2 #[] #[])
  fields := #[]
  methods := #[k1m0, k1m1]
  instanceTypes := #[]
  staticTypes := #[]
  resolved := Array.replicate 52 none
  statics := none }

def pool2 : Array CpInfo := pool [(1, .methodref 2 3), (0, .class_ 4), (0, .nameAndType 5 6), (0, u "java/lang/Object"), (0, u "<init>"), (0, u "()V"), (0, .class_ 8), (0, u "com/example/arcspan/arcspan/io/ForwardHeads"), (0, .fieldref 7 10), (0, .nameAndType 11 12), (0, u "heads"), (0, u "[J"), (0, .fieldref 7 14), (0, .nameAndType 15 12), (0, u "lines"), (0, .fieldref 7 17), (0, .nameAndType 18 19), (0, u "first"), (0, u "I"), (0, .fieldref 7 21), (0, .nameAndType 22 19), (0, u "end"), (9, u "ROOM"), (4, u "add"), (0, u "(JJ)V"), (1, u "reached"), (0, u "(J)V"), (0, u "isEmpty"), (0, u "()Z"), (0, u "firstHead"), (0, u "()J"), (0, u "firstLine")] 3

def k2c0 : Code := { maxStack := 2, maxLocals := 1, code := prog_24_method_1_code, exceptionTable := #[], attributes := #[] }
def k2m0 : Method := { name := "<init>", desc := "()V", sig := { parameters := [], returnType := none }, accessFlags := 0, code := some k2c0 }
def k2c1 : Code := { maxStack := 4, maxLocals := 5, code := prog_24_method_2_code, exceptionTable := #[], attributes := #[] }
def k2m1 : Method := { name := "add", desc := "(JJ)V", sig := { parameters := [.long, .long], returnType := none }, accessFlags := 0, code := some k2c1 }
def k2c2 : Code := { maxStack := 4, maxLocals := 3, code := prog_24_method_3_code, exceptionTable := #[], attributes := #[] }
def k2m2 : Method := { name := "reached", desc := "(J)V", sig := { parameters := [.long], returnType := none }, accessFlags := 0, code := some k2c2 }
def k2c3 : Code := { maxStack := 2, maxLocals := 1, code := prog_24_method_4_code, exceptionTable := #[], attributes := #[] }
def k2m3 : Method := { name := "isEmpty", desc := "()Z", sig := { parameters := [], returnType := some .boolean }, accessFlags := 0, code := some k2c3 }
def k2c4 : Code := { maxStack := 2, maxLocals := 1, code := prog_24_method_5_code, exceptionTable := #[], attributes := #[] }
def k2m4 : Method := { name := "firstHead", desc := "()J", sig := { parameters := [], returnType := some .long }, accessFlags := 0, code := some k2c4 }
def k2c5 : Code := { maxStack := 2, maxLocals := 1, code := prog_24_method_6_code, exceptionTable := #[], attributes := #[] }
def k2m5 : Method := { name := "firstLine", desc := "()J", sig := { parameters := [], returnType := some .long }, accessFlags := 0, code := some k2c5 }
/-- com/example/arcspan/arcspan/io/ForwardHeads -/
def k2 : Class := { plain "com/example/arcspan/arcspan/io/ForwardHeads" (some 0) with
  accessFlags := 48
  interfaces := #[]
  cf := some (fileOf pool2 7 #[] #[{ accessFlags := 0, nameIndex := 5, descriptorIndex := 6, attributes := #[] }, { accessFlags := 0, nameIndex := 37, descriptorIndex := 38, attributes := #[] }, { accessFlags := 0, nameIndex := 40, descriptorIndex := 41, attributes := #[] }, { accessFlags := 0, nameIndex := 42, descriptorIndex := 43, attributes := #[] }, { accessFlags := 0, nameIndex := 44, descriptorIndex := 45, attributes := #[] }, { accessFlags := 0, nameIndex := 46, descriptorIndex := 45, attributes := #[] }] 48 2 #[] #[{ accessFlags := 26, nameIndex := 32, descriptorIndex := 19, attributes := #[] }, { accessFlags := 2, nameIndex := 11, descriptorIndex := 12, attributes := #[] }, { accessFlags := 2, nameIndex := 15, descriptorIndex := 12, attributes := #[] }, { accessFlags := 2, nameIndex := 18, descriptorIndex := 19, attributes := #[] }, { accessFlags := 2, nameIndex := 22, descriptorIndex := 19, attributes := #[] }])
  fields := #[{ name := "ROOM", type := .int, accessFlags := 26, slot := 0, constantValue := 0 }, { name := "heads", type := (.array .long), accessFlags := 2, slot := 0, constantValue := 0 }, { name := "lines", type := (.array .long), accessFlags := 2, slot := 1, constantValue := 0 }, { name := "first", type := .int, accessFlags := 2, slot := 2, constantValue := 0 }, { name := "end", type := .int, accessFlags := 2, slot := 3, constantValue := 0 }]
  methods := #[k2m0, k2m1, k2m2, k2m3, k2m4, k2m5]
  instanceTypes := #[(.array .long), (.array .long), .int, .int]
  staticTypes := #[.int]
  resolved := Array.replicate 50 none
  statics := none }

def pool3 : Array CpInfo := pool [(1, .class_ 2), (0, u "java/lang/Math"), (1, .class_ 6), (1, u "java/lang/Object"), (0, u "<init>"), (0, u "()V"), (89, .class_ 100), (1, u "java/lang/Math$RandomNumberGeneratorHolder"), (20, u "(JJ)J"), (50, u "negativeZeroFloatBits"), (0, u "J"), (2, u "negativeZeroDoubleBits"), (21, u "max"), (46, u "$assertionsDisabled"), (0, u "Z"), (91, u "twoToTheDoubleScaleDown"), (0, u "D"), (4, u "twoToTheDoubleScaleUp"), (9, u "E"), (3, u "PI"), (2, u "TAU"), (2, u "DEGREES_TO_RADIANS"), (0, u "RADIANS_TO_DEGREES")] 94

def k3m0 : Method := { name := "<init>", desc := "()V", sig := { parameters := [], returnType := none }, accessFlags := 2, code := none }
def k3c1 : Code := { maxStack := 4, maxLocals := 4, code := jdk_29_method_66_code, exceptionTable := #[], attributes := #[] }
def k3m1 : Method := { name := "max", desc := "(JJ)J", sig := { parameters := [.long, .long], returnType := some .long }, accessFlags := 9, code := some k3c1 }
/-- java/lang/Math -/
def k3 : Class := { plain "java/lang/Math" (some 0) with
  accessFlags := 49
  interfaces := #[]
  cf := some (fileOf pool3 1 #[.nestMembers #[98]] #[{ accessFlags := 2, nameIndex := 7, descriptorIndex := 8, attributes := #[] }, { accessFlags := 9, nameIndex := 198, descriptorIndex := 121, attributes := #[] }] 49 4 #[] #[{ accessFlags := 25, nameIndex := 354, descriptorIndex := 339, attributes := #[] }, { accessFlags := 25, nameIndex := 358, descriptorIndex := 339, attributes := #[] }, { accessFlags := 25, nameIndex := 361, descriptorIndex := 339, attributes := #[] }, { accessFlags := 26, nameIndex := 364, descriptorIndex := 339, attributes := #[] }, { accessFlags := 26, nameIndex := 365, descriptorIndex := 339, attributes := #[] }, { accessFlags := 26, nameIndex := 172, descriptorIndex := 173, attributes := #[] }, { accessFlags := 26, nameIndex := 176, descriptorIndex := 173, attributes := #[] }, { accessFlags := 8, nameIndex := 344, descriptorIndex := 339, attributes := #[] }, { accessFlags := 8, nameIndex := 338, descriptorIndex := 339, attributes := #[] }, { accessFlags := 4120, nameIndex := 245, descriptorIndex := 246, attributes := #[] }])
  fields := #[{ name := "E", type := .double, accessFlags := 25, slot := 0, constantValue := 0 }, { name := "PI", type := .double, accessFlags := 25, slot := 1, constantValue := 0 }, { name := "TAU", type := .double, accessFlags := 25, slot := 2, constantValue := 0 }, { name := "DEGREES_TO_RADIANS", type := .double, accessFlags := 26, slot := 3, constantValue := 0 }, { name := "RADIANS_TO_DEGREES", type := .double, accessFlags := 26, slot := 4, constantValue := 0 }, { name := "negativeZeroFloatBits", type := .long, accessFlags := 26, slot := 5, constantValue := 0 }, { name := "negativeZeroDoubleBits", type := .long, accessFlags := 26, slot := 6, constantValue := 0 }, { name := "twoToTheDoubleScaleUp", type := .double, accessFlags := 8, slot := 7, constantValue := 0 }, { name := "twoToTheDoubleScaleDown", type := .double, accessFlags := 8, slot := 8, constantValue := 0 }, { name := "$assertionsDisabled", type := .boolean, accessFlags := 4120, slot := 9, constantValue := 0 }]
  methods := #[k3m0, k3m1]
  instanceTypes := #[]
  staticTypes := #[.double, .double, .double, .double, .double, .long, .long, .double, .double, .boolean]
  resolved := Array.replicate 460 none
  statics := none }

def pool4 : Array CpInfo := pool [(1, u "java/lang/Cloneable"), (0, .class_ 1), (0, u "java/lang/Object"), (0, .class_ 3)] 3

/-- java/lang/Cloneable -/
def k4 : Class := { plain "java/lang/Cloneable" (some 0) with
  accessFlags := 1537
  interfaces := #[]
  cf := some (fileOf pool4 2 #[] #[] 1537 4 #[] #[])
  fields := #[]
  methods := #[]
  instanceTypes := #[]
  staticTypes := #[]
  resolved := Array.replicate 8 none
  statics := none }

def pool5 : Array CpInfo := pool [(1, u "java/io/Serializable"), (0, .class_ 1), (0, u "java/lang/Object"), (0, .class_ 3)] 3

/-- java/io/Serializable -/
def k5 : Class := { plain "java/io/Serializable" (some 0) with
  accessFlags := 1537
  interfaces := #[]
  cf := some (fileOf pool5 2 #[] #[] 1537 4 #[] #[])
  fields := #[]
  methods := #[]
  instanceTypes := #[]
  staticTypes := #[]
  resolved := Array.replicate 8 none
  statics := none }

/-- the primitive byte -/
def k6 : Class := { plain "byte" none with kind := .primitive 'B', accessFlags := 0x411 }
/-- [B -/
def k7 : Class := { plain "[B" (some 0) with kind := .array 6 .byte, interfaces := #[4, 5], accessFlags := 1041 }

/-- the primitive int -/
def k8 : Class := { plain "int" none with kind := .primitive 'I', accessFlags := 0x411 }
/-- [I -/
def k9 : Class := { plain "[I" (some 0) with kind := .array 8 .int, interfaces := #[4, 5], accessFlags := 1041 }

/-- the primitive long -/
def k10 : Class := { plain "long" none with kind := .primitive 'J', accessFlags := 0x411 }
/-- [J -/
def k11 : Class := { plain "[J" (some 0) with kind := .array 10 .long, interfaces := #[4, 5], accessFlags := 1041 }

def heap : Heap := #[]
def classes : Array Class := #[k0, k1, k2, k3, k4, k5, k6, k7, k8, k9, k10, k11]
def interned : List (Array UInt16 × Addr) := []
def slotsUsed : Nat := 0
def theMethod : MethodId := ⟨1, 1⟩
def args0 : Array Value := #[.long 5, .long 300, .long 7, .long 1, .long 5, .int 3]
def aboutOver (below : List Frame) : State where
  vm := { classes := classes, interned := interned.toArray }
  heap := heap
  slotsUsed := slotsUsed
  threads := #[{ frames := .invoking theMethod args0 :: below }]
def below0 : List Frame := [.native { method := ⟨0, 0⟩, args := #[] }]
def about1 : State := aboutOver below0
def p0 : Program := .bare "" "" ""
def e0 : Env := launch0.env 0 0 0
theorem w_frames : about1.frames = Frame.invoking theMethod args0 :: below0 := rfl
set_option maxRecDepth 65536 in
theorem w_args : argsFit about1.vm theMethod args0 = true := by decide +kernel
set_option maxRecDepth 65536 in
theorem w_heap : heapFits about1 = true := by decide +kernel
set_option maxRecDepth 65536 in
theorem w_runnable : about1.curStatus? = some .runnable := by decide +kernel
set_option maxRecDepth 65536 in
theorem w_alone : about1.alone = true := by decide +kernel
set_option maxRecDepth 65536 in
theorem w_named : about1.methodNamed? x = some theMethod := by decide +kernel
set_option maxRecDepth 65536 in
theorem w_hears : about1.hears theMethod below0 = true := by decide +kernel
set_option maxRecDepth 65536 in
theorem w_ripe : about1.ripe theMethod args0 below0 = true := by decide +kernel
theorem w_running : about1.status = .running := rfl
set_option maxRecDepth 65536 in
theorem w_room : about1.hasRoom e0.platform room_1 = true :=
  launch0.hasRoom_least _ room_1 (by decide +kernel) (by decide +kernel) (by decide +kernel) (by decide +kernel) (by decide +kernel) (by decide +kernel)
theorem allAtoms_all (ts : List Jvm.Cond) (a : Array Jvm.Value) (st : Jvm.State) : (allAtoms ts).before a st = ts.all (fun c => c.before a st) := by
  induction ts with
  | nil => rfl
  | cons c t ih =>
    show (Jvm.Cond.and c (allAtoms t)).before a st = _
    rw [Jvm.Cond.before_and, ih, List.all_cons]
def words1 : List Jvm.Cond := Jvm.Cond.code x code maxLocals ret :: tables_1
/-- a 'code' word, met by the world's own term for the bytes: nothing is compared byte by byte -/
theorem code_word {y : MethodName} {bytes : ByteArray} {mx : Nat} {rt : Option FieldType} {a : Array Value} {s : State} {m : MethodId} {meth : Method} {c : Code} (h1 : s.methodNamed? y = some m) (h2 : s.vm.method? m = some meth) (h3 : meth.code = some c) (h4 : c.code = bytes)
    (h5 : (c.maxLocals == mx && c.exceptionTable.isEmpty && decide (c.maxStack ≤ mostOperands) && decide (meth.sig.returnType = rt) && !meth.locks && decide (parseMethodDescriptor y.desc = some meth.sig)) = true) : (Jvm.Cond.code y bytes mx rt).before a s = true := by
  simp only [Bool.and_eq_true, beq_iff_eq, Bool.not_eq_true', decide_eq_true_eq] at h5
  obtain ⟨⟨⟨⟨⟨g1, g2⟩, g3⟩, g4⟩, g5⟩, g6⟩ := h5
  simp [Cond.before, Cond.holds, Cond.value, h1, h2, h3, h4, g1, g2, g3, g4, g5, g6]
def isCode : Jvm.Cond → Bool
  | .code _ _ _ _ => true
  | _ => false
theorem all_split {L : List Jvm.Cond} {P : Jvm.Cond → Bool} (h1 : L.all (fun c => isCode c || P c) = true) (h2 : ∀ c ∈ L.filter isCode, P c = true) : L.all P = true := by
  refine List.all_eq_true.mpr fun c hc => ?_
  have h := List.all_eq_true.mp h1 c hc
  rcases Bool.eq_false_or_eq_true (isCode c) with hi | hi
  · exact h2 c (List.mem_filter.mpr ⟨hc, hi⟩)
  · simpa [hi] using h
set_option maxRecDepth 65536 in
theorem w_c0 : (Jvm.Cond.code x code maxLocals ret).before args0 about1 = true := code_word (m := ⟨1, 1⟩) (meth := k1m1) (c := k1c1) (by decide +kernel) rfl rfl rfl (by decide +kernel)
set_option maxRecDepth 65536 in
theorem w_c1 : (Jvm.Cond.code ({ cls := "com/example/arcspan/arcspan/io/ForwardHeads", name := "<init>", desc := "()V" } : Jvm.MethodName) prog_24_method_1_code (1 : Nat) (Option.none : Option Jvm.ClassFile.FieldType)).before args0 about1 = true := code_word (m := ⟨2, 0⟩) (meth := k2m0) (c := k2c0) (by decide +kernel) rfl rfl rfl (by decide +kernel)
set_option maxRecDepth 65536 in
theorem w_c2 : (Jvm.Cond.code ({ cls := "java/lang/Object", name := "<init>", desc := "()V" } : Jvm.MethodName) object_method_1_code (1 : Nat) (Option.none : Option Jvm.ClassFile.FieldType)).before args0 about1 = true := code_word (m := ⟨0, 0⟩) (meth := k0m0) (c := k0c0) (by decide +kernel) rfl rfl rfl (by decide +kernel)
set_option maxRecDepth 65536 in
theorem w_c3 : (Jvm.Cond.code ({ cls := "com/example/arcspan/arcspan/io/ForwardHeads", name := "add", desc := "(JJ)V" } : Jvm.MethodName) prog_24_method_2_code (5 : Nat) (Option.none : Option Jvm.ClassFile.FieldType)).before args0 about1 = true := code_word (m := ⟨2, 1⟩) (meth := k2m1) (c := k2c1) (by decide +kernel) rfl rfl rfl (by decide +kernel)
set_option maxRecDepth 65536 in
theorem w_c4 : (Jvm.Cond.code ({ cls := "com/example/arcspan/arcspan/io/ForwardHeads", name := "reached", desc := "(J)V" } : Jvm.MethodName) prog_24_method_3_code (3 : Nat) (Option.none : Option Jvm.ClassFile.FieldType)).before args0 about1 = true := code_word (m := ⟨2, 2⟩) (meth := k2m2) (c := k2c2) (by decide +kernel) rfl rfl rfl (by decide +kernel)
set_option maxRecDepth 65536 in
theorem w_c5 : (Jvm.Cond.code ({ cls := "java/lang/Math", name := "max", desc := "(JJ)J" } : Jvm.MethodName) jdk_29_method_66_code (4 : Nat) (Option.some Jvm.ClassFile.FieldType.long)).before args0 about1 = true := code_word (m := ⟨3, 1⟩) (meth := k3m1) (c := k3c1) (by decide +kernel) rfl rfl rfl (by decide +kernel)
set_option maxRecDepth 65536 in
theorem w_c6 : (Jvm.Cond.code ({ cls := "com/example/arcspan/arcspan/io/ForwardHeads", name := "isEmpty", desc := "()Z" } : Jvm.MethodName) prog_24_method_4_code (1 : Nat) (Option.some Jvm.ClassFile.FieldType.boolean)).before args0 about1 = true := code_word (m := ⟨2, 3⟩) (meth := k2m3) (c := k2c3) (by decide +kernel) rfl rfl rfl (by decide +kernel)
set_option maxRecDepth 65536 in
theorem w_c7 : (Jvm.Cond.code ({ cls := "com/example/arcspan/arcspan/io/ForwardHeads", name := "firstHead", desc := "()J" } : Jvm.MethodName) prog_24_method_5_code (1 : Nat) (Option.some Jvm.ClassFile.FieldType.long)).before args0 about1 = true := code_word (m := ⟨2, 4⟩) (meth := k2m4) (c := k2c4) (by decide +kernel) rfl rfl rfl (by decide +kernel)
set_option maxRecDepth 65536 in
theorem w_c8 : (Jvm.Cond.code ({ cls := "com/example/arcspan/arcspan/io/ForwardHeads", name := "firstLine", desc := "()J" } : Jvm.MethodName) prog_24_method_6_code (1 : Nat) (Option.some Jvm.ClassFile.FieldType.long)).before args0 about1 = true := code_word (m := ⟨2, 5⟩) (meth := k2m5) (c := k2c5) (by decide +kernel) rfl rfl rfl (by decide +kernel)
def codes1 : List Jvm.Cond := [Jvm.Cond.code x code maxLocals ret, Jvm.Cond.code ({ cls := "com/example/arcspan/arcspan/io/ForwardHeads", name := "<init>", desc := "()V" } : Jvm.MethodName) prog_24_method_1_code (1 : Nat) (Option.none : Option Jvm.ClassFile.FieldType), Jvm.Cond.code ({ cls := "java/lang/Object", name := "<init>", desc := "()V" } : Jvm.MethodName) object_method_1_code (1 : Nat) (Option.none : Option Jvm.ClassFile.FieldType), Jvm.Cond.code ({ cls := "com/example/arcspan/arcspan/io/ForwardHeads", name := "add", desc := "(JJ)V" } : Jvm.MethodName) prog_24_method_2_code (5 : Nat) (Option.none : Option Jvm.ClassFile.FieldType), Jvm.Cond.code ({ cls := "com/example/arcspan/arcspan/io/ForwardHeads", name := "reached", desc := "(J)V" } : Jvm.MethodName) prog_24_method_3_code (3 : Nat) (Option.none : Option Jvm.ClassFile.FieldType), Jvm.Cond.code ({ cls := "java/lang/Math", name := "max", desc := "(JJ)J" } : Jvm.MethodName) jdk_29_method_66_code (4 : Nat) (Option.some Jvm.ClassFile.FieldType.long), Jvm.Cond.code ({ cls := "com/example/arcspan/arcspan/io/ForwardHeads", name := "isEmpty", desc := "()Z" } : Jvm.MethodName) prog_24_method_4_code (1 : Nat) (Option.some Jvm.ClassFile.FieldType.boolean), Jvm.Cond.code ({ cls := "com/example/arcspan/arcspan/io/ForwardHeads", name := "firstHead", desc := "()J" } : Jvm.MethodName) prog_24_method_5_code (1 : Nat) (Option.some Jvm.ClassFile.FieldType.long), Jvm.Cond.code ({ cls := "com/example/arcspan/arcspan/io/ForwardHeads", name := "firstLine", desc := "()J" } : Jvm.MethodName) prog_24_method_6_code (1 : Nat) (Option.some Jvm.ClassFile.FieldType.long)]
set_option maxRecDepth 65536 in
theorem codes_eq : words1.filter isCode = codes1 := rfl
theorem w_codes : ∀ c ∈ words1.filter isCode, c.before args0 about1 = true := by
  rw [codes_eq]
  intro c hc
  simp only [codes1, List.mem_cons, List.not_mem_nil, or_false] at hc
  rcases hc with rfl | rfl | rfl | rfl | rfl | rfl | rfl | rfl | rfl
  · exact w_c0
  · exact w_c1
  · exact w_c2
  · exact w_c3
  · exact w_c4
  · exact w_c5
  · exact w_c6
  · exact w_c7
  · exact w_c8
set_option maxRecDepth 65536 in
theorem w_t1 : (words1.take 24).all (fun c => isCode c || c.before args0 about1) = true := by decide +kernel
set_option maxRecDepth 65536 in
theorem w_t2 : ((words1.drop 24).take 24).all (fun c => isCode c || c.before args0 about1) = true := by decide +kernel
set_option maxRecDepth 65536 in
theorem w_t3 : ((words1.drop 24).drop 24).all (fun c => isCode c || c.before args0 about1) = true := by decide +kernel
theorem w_tables : (allAtoms (Jvm.Cond.code x code maxLocals ret :: tables_1)).before args0 about1 = true := by
  rw [allAtoms_all]
  show words1.all (fun c => c.before args0 about1) = true
  refine all_split ?_ w_codes
  rw [← List.take_append_drop 24 words1, List.all_append, w_t1, ← List.take_append_drop 24 (words1.drop 24), List.all_append, w_t2, w_t3]
  rfl
set_option maxRecDepth 65536 in
theorem w_case : (Jvm.Cond.and given_1 narrow_1).before args0 about1 = true := by decide +kernel
theorem w_applies : (headSpec (Jvm.Cond.code x code maxLocals ret :: tables_1) room_1).applies x e0.platform about1 = true :=
  (Spec.applies_iff w_frames).mpr ⟨w_running, w_runnable, w_alone, w_named, w_hears, w_ripe, w_room, w_tables⟩
theorem atStart : AtStart classFile x code maxLocals ret World_1 tables_1 room_1 Calls_1 rest_1 Pre_1 launch0 p0 e0 about1 theMethod args0 below0 :=
  ⟨lists_1, trivial, launch0.admits_env _ _ _, launch0.least_env, fairChoices_fair.cas, fairChoices_fair.clock, w_frames, w_args, w_heap, w_applies, trivial, trivial, w_case⟩
end start1
theorem witness_1 : WitnessClaimed_1 := ⟨start1.p0, start1.e0, start1.about1, start1.theMethod, start1.args0, start1.below0, start1.atStart⟩
end Jvm.Pilot.@@N@@
