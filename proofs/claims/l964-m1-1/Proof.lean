import JvmDerived
import JvmDerived.Pilot.@@N@@Statement
import JvmDerived.Pilot.@@N@@Code
set_option linter.unusedVariables false
set_option linter.unusedSimpArgs false
namespace Jvm.RoadKit
open Sem ClassFile Op Lib Jvm.Stand Jvm.Free Jvm.LawKit
section New
variable {p : Program} {l : Launch} {e : Env} {R : Room} {s : State} {m : MethodId} {args : Array Value} {below : List Frame} {meth : Method} {c : Code} {T : State} {locs : List Loc} {cells slots : Nat}
theorem retI (X : Stand p l e R s m args below meth c T locs cells slots) (hx : p.tables.exec = Jvm.exec) {pc : Nat} {Ls : Array Slot} {z : Int32} {rest : List Value} (hret : meth.sig.returnType = some .int) (hd : decode c.code pc = .ok (.ireturn, 1)) {fs : List Frame}
    (hl : ∀ (f : JFrame) (acts : List Action), f.method = m → f.locked = none → f.entered = [] → (doReturn e (T.setTop f) acts (some (.int z))).1 = T.setFrames fs) : Steps p.tables e below (T.setTop (mkF m pc Ls (.int z :: rest))) (T.setFrames fs) := by
  have hm' : T.vm.method? m = some meth := X.method'
  have hn : narrow .int (.int z) = .int z := rfl
  show Steps p.tables e below (T.setTop { method := m, pc := pc, locals := Ls, stack := _ :: rest, locked := none }) _
  jvm_step X.here [X.here.top, hx, hd, hm', hret, hn]
  first | (intro acts; rw [hl _ acts rfl rfl rfl]) | rw [hl _ _ rfl rfl rfl]
  exact Steps.refl _
theorem own_retZ (X : Stand p l e R s m args below meth c T locs cells slots) (hx : p.tables.exec = Jvm.exec) {pc : Nat} {Ls : Array Slot} {z : Int32} {rest : List Value} (hret : meth.sig.returnType = some .boolean) (hz : z &&& 1 = z) (hd : decode c.code pc = .ok (.ireturn, 1)) {fs : List Frame}
    (hl : ∀ (f : JFrame) (acts : List Action), f.method = m → f.locked = none → f.entered = [] → (doReturn e (T.setTop f) acts (some (.int z))).1 = T.setFrames fs) : Steps p.tables e below (T.setTop (mkF m pc Ls (.int z :: rest))) (T.setFrames fs) :=
  retN X hx (t := .boolean) hret (Or.inl rfl) hd (by have q : nar .boolean z = z := hz; rw [q]; exact hl)
theorem own_lrem {g : JFrame} {target : State} (X : Stand p l e R s m args below meth c T locs cells slots) (hx : p.tables.exec = Jvm.exec) (hg : g.method = m) {x y : Int64} {rest : List Value} (hd : decode c.code g.pc = .ok (.lrem, 1)) (hs : g.stack = .long y :: .long x :: rest) (hy : y ≠ 0)
    (hr : Steps p.tables e below (T.setTop { g with pc := g.pc + 1, stack := .long (x % y) :: rest }) target) : Steps p.tables e below (T.setTop g) target :=
  XS.lrem X.here hx hg hd hs hy (by rw [lrem_mod x y]; exact hr)
end New
end Jvm.RoadKit
namespace Jvm.Pilot.@@N@@
open Jvm Jvm.ClassFile Sem Op Lib Jvm.Free Jvm.Stand Jvm.LawKit Jvm.RoadKit Bundle Jvm.Pilot.@@N@@.Jvm.D
section Own
variable {p : Program} {l : Launch} {e : Env} {R : Room} {s : State} {m : MethodId} {args : Array Value} {below : List Frame} {meth : Method} {c : Code} {T : State} {locs : List Loc} {cells slots : Nat} {Z : State} {h h' : Heap} {a b : Addr} {ty : FieldType} {vs : List Value}
/-- the array at a, of elements of kind ty, holds just vs -/
def LA (Z : State) (h : Heap) (a : Addr) (ty : FieldType) (vs : List Value) : Prop := ∃ c : Cell, Arr Z h a c ty ∧ c.slots.toList = vs
theorem LA.lt (F : LA Z h a ty vs) : a < h.size := by obtain ⟨c, A, -⟩ := F; exact A.lt
theorem LA.ext (F : LA Z h a ty vs) (E : Ext h h') : LA Z h' a ty vs := by obtain ⟨c, A, r⟩ := F; exact ⟨c, A.ext E, r⟩
theorem LA.other {sl : Nat} {v : Value} (F : LA Z h b ty vs) (W : Wr h h' a sl v) (q : b ≠ a) : LA Z h' b ty vs := by obtain ⟨c, A, r⟩ := F; exact ⟨c, A.other W q, r⟩
theorem LA.keep {ws : List Addr} (F : LA Z h a ty vs) (K : Keep h h' ws) (q : a ∉ ws) : LA Z h' a ty vs := by obtain ⟨c, A, r⟩ := F; exact ⟨c, ⟨K.2.1 a c A.1 q, A.2⟩, r⟩
theorem LA.new {k : ClassId} {z : Int32} (A : Arr Z h a (newA k ty z) ty) (n : Nat) (q : z.toNatClampNeg = n) : LA Z h a ty (List.replicate n (defaultValue ty)) := ⟨_, A, by subst q; simp [newA]⟩
theorem own_stI (X : Stand p l e R s m args below meth c T locs cells slots) (hx : p.tables.exec = Jvm.exec) (hZ : Z.Warmed39 s.vm) (eT : T.heap = h) (A : LA Z h a .int vs) {j x : Int32} {i : Nat} (hj : j.toNatClampNeg = i) (hi : ¬ j < 0 ∧ i < vs.length) {g : JFrame} (hg : g.method = m) {rest : List Value} (hs : g.stack = .int x :: .int j :: .ref a :: rest) (hd : decode c.code g.pc = .ok (.iastore, 1)) :
    ∃ T' h', Stand p l e R s m args below meth c T' (locs ++ [⟨a, j.toNatClampNeg⟩]) cells slots ∧ T'.heap = h' ∧ Wr h h' a j.toNatClampNeg (.int x) ∧ LA Z h' a .int (vs.set i (.int x)) ∧ ∀ target, Steps p.tables e below (T'.setTop { g with pc := g.pc + 1, stack := rest }) target → Steps p.tables e below (T.setTop g) target := by
  obtain ⟨cl, A, rfl⟩ := A
  subst hj
  have hb : ¬ (j < 0 ∨ cl.slots.size ≤ j.toNatClampNeg) := fun q => q.elim hi.1 fun r => by have := hi.2; rw [Array.length_toList] at this; omega
  obtain ⟨T', h', X', e', W, st⟩ := stI X hx hZ eT A hb hg hs hd
  exact ⟨T', h', X', e', W, ⟨_, A.same W, by simp [Cell.setSlot]⟩, st⟩
theorem own_stJ (X : Stand p l e R s m args below meth c T locs cells slots) (hx : p.tables.exec = Jvm.exec) (hZ : Z.Warmed39 s.vm) (eT : T.heap = h) (A : LA Z h a .long vs) {j : Int32} {x : Int64} {i : Nat} (hj : j.toNatClampNeg = i) (hi : ¬ j < 0 ∧ i < vs.length) {g : JFrame} (hg : g.method = m) {rest : List Value} (hs : g.stack = .long x :: .int j :: .ref a :: rest) (hd : decode c.code g.pc = .ok (.lastore, 1)) :
    ∃ T' h', Stand p l e R s m args below meth c T' (locs ++ [⟨a, j.toNatClampNeg⟩]) cells slots ∧ T'.heap = h' ∧ Wr h h' a j.toNatClampNeg (.long x) ∧ LA Z h' a .long (vs.set i (.long x)) ∧ ∀ target, Steps p.tables e below (T'.setTop { g with pc := g.pc + 1, stack := rest }) target → Steps p.tables e below (T.setTop g) target := by
  obtain ⟨cl, A, rfl⟩ := A
  subst hj
  have hb : ¬ (j < 0 ∨ cl.slots.size ≤ j.toNatClampNeg) := fun q => q.elim hi.1 fun r => by have := hi.2; rw [Array.length_toList] at this; omega
  obtain ⟨T', h', X', e', W, st⟩ := stJ X hx hZ eT A hb hg hs hd
  exact ⟨T', h', X', e', W, ⟨_, A.same W, by simp [Cell.setSlot]⟩, st⟩
theorem own_at {cl : Cell} {j : Int32} {v : Value} (hn : ¬ j < 0) (hat : cl.slots.toList[j.toNatClampNeg]? = some v) : ¬ (j < 0 ∨ cl.slots.size ≤ j.toNatClampNeg) ∧ cl.slots[j.toNatClampNeg]? = some v := by
  have q : cl.slots[j.toNatClampNeg]? = some v := by rw [← Array.getElem?_toList]; exact hat
  exact ⟨fun r => r.elim hn fun z => absurd (Array.getElem?_eq_some_iff.mp q).1 (Nat.not_lt.mpr z), q⟩
theorem own_ldI (X : Stand p l e R s m args below meth c T locs cells slots) (hx : p.tables.exec = Jvm.exec) (hZ : Z.Warmed39 s.vm) (eT : T.heap = h) (A : LA Z h a .int vs) {j x : Int32} (hn : ¬ j < 0) (hat : vs[j.toNatClampNeg]? = some (.int x)) {g : JFrame} (hg : g.method = m) {rest : List Value} (hs : g.stack = .int j :: .ref a :: rest) (hd : decode c.code g.pc = .ok (.iaload, 1)) (target : State)
    (hr : Steps p.tables e below (T.setTop { g with pc := g.pc + 1, stack := .int x :: rest }) target) : Steps p.tables e below (T.setTop g) target := by
  obtain ⟨cl, A, rfl⟩ := A
  exact X.iaload hx (by rw [eT]; exact A.1) (State.isArrayOf_alike hZ.alike A.2.1) A.2.2 (own_at hn hat).1 (own_at hn hat).2 hg hs hd target hr
theorem own_ldJ (X : Stand p l e R s m args below meth c T locs cells slots) (hx : p.tables.exec = Jvm.exec) (hZ : Z.Warmed39 s.vm) (eT : T.heap = h) (A : LA Z h a .long vs) {j : Int32} {x : Int64} (hn : ¬ j < 0) (hat : vs[j.toNatClampNeg]? = some (.long x)) {g : JFrame} (hg : g.method = m) {rest : List Value} (hs : g.stack = .int j :: .ref a :: rest) (hd : decode c.code g.pc = .ok (.laload, 1)) (target : State)
    (hr : Steps p.tables e below (T.setTop { g with pc := g.pc + 1, stack := .long x :: rest }) target) : Steps p.tables e below (T.setTop g) target := by
  obtain ⟨cl, A, rfl⟩ := A
  exact X.laload hx (by rw [eT]; exact A.1) (State.isArrayOf_alike hZ.alike A.2.1) A.2.2 (own_at hn hat).1 (own_at hn hat).2 hg hs hd target hr
theorem own_len (X : Stand p l e R s m args below meth c T locs cells slots) (hx : p.tables.exec = Jvm.exec) (hZ : Z.Warmed39 s.vm) (eT : T.heap = h) (A : LA Z h a ty vs) {n : Int32} (hn : vs.length.toInt32 = n) {g : JFrame} (hg : g.method = m) {rest : List Value} (hs : g.stack = .ref a :: rest) (hd : decode c.code g.pc = .ok (.arraylength, 1)) (target : State)
    (hr : Steps p.tables e below (T.setTop { g with pc := g.pc + 1, stack := .int n :: rest }) target) : Steps p.tables e below (T.setTop g) target := by
  obtain ⟨cl, A, rfl⟩ := A
  refine X.arraylength hx (by rw [eT]; exact A.1) (State.isArrayOf_alike hZ.alike A.2.1) hg hs hd target ?_
  have q : cl.slots.size.toInt32 = n := by rw [← hn, Array.length_toList]
  rw [q]; exact hr
theorem own_clone {a0 : Array Value} (X : Stand p l e R s m args below meth c T locs cells slots) (hx : p.tables.exec = Jvm.exec) (hZ : Z.Warmed39 s.vm) {own ad : String} {index : Nat} (hown : s.vm.findClass own = some m.cls)
    (w1 : (Cond.methodLink own index ⟨ad, "clone", "()Ljava/lang/Object;"⟩).before a0 Z = true) (w2 : (Cond.sameMethod ad "java/lang/Object" "clone" "()Ljava/lang/Object;").before a0 Z = true) (w3 : (Cond.native ⟨"java/lang/Object", "clone", "()Ljava/lang/Object;"⟩).before a0 Z = true)
    (w4 : (Cond.instanceMethod ⟨"java/lang/Object", "clone", "()Ljava/lang/Object;"⟩).before a0 Z = true) (w5 : (Cond.selects ad ⟨ad, "clone", "()Ljava/lang/Object;"⟩ ⟨"java/lang/Object", "clone", "()Ljava/lang/Object;"⟩).before a0 Z = true) (w6 : (Cond.castable ad "java/lang/Cloneable").before a0 Z = true)
    (eT : T.heap = h) (A : LA Z h a ty vs) (E : Exa Z h a ad) (F : ∀ v ∈ vs, fits ty v = true) {g : JFrame} (hg : g.method = m) (hsize : g.locals.size = c.maxLocals) {rest : List Value} (hs : g.stack = .ref a :: rest) (hd : decode c.code g.pc = .ok (.invokevirtual index, 3))
    (hf : 1 ≤ R.frames) {W cap : Nat} (hW : 2 * g.monitorRoom + (rest.map fun v => v.category).sum ≤ W) (hl : W + 14 ≤ R.locals) (hcap : vs.length ≤ cap) (hc : cells + 1 ≤ R.cells) (hsl : slots + cap ≤ R.slots) :
    ∃ T' h', Stand p l e R s m args below meth c T' locs (cells + 1) (slots + cap) ∧ T'.heap = h' ∧ Ext h h' ∧ LA Z h' h.size ty vs ∧ Exa Z h' h.size ad ∧
      ∀ target, Steps p.tables e below (T'.setTop { g with pc := g.pc + 3, stack := .ref h.size :: rest }) target → Steps p.tables e below (T.setTop g) target := by
  obtain ⟨cl, A, rfl⟩ := A
  have FC : FitC Z cl := fitC_of A fun i hi v hv => F v (Array.mem_toList_iff.mpr (Array.mem_of_getElem? hv))
  obtain ⟨T', h', X', e', ex, A', E', st⟩ := cloneA X hx hZ hown w1 w2 w3 w4 w5 w6 eT A E FC hg hsize hs hd hf hW hl (by rw [Array.length_toList] at hcap; exact hcap) hc hsl
  exact ⟨T', h', X', e', ex, ⟨cloneOf cl, A', rfl⟩, E', st⟩
theorem own_fitsJ (xs : List Int64) : ∀ v ∈ xs.map Value.long, fits .long v = true := fun v hv => by
  obtain ⟨x, -, rfl⟩ := List.mem_map.mp hv
  rfl
theorem own_readJ {xs pr rest : List Int64} {x : Int64} {k : Nat} (e : xs = pr ++ x :: rest) (hk : k = pr.length) : (xs.map Value.long)[k]? = some (.long x) := by
  subst e hk
  simp
end Own
section OwnCalls
variable {p : Program} {l : Launch} {e : Env} {R : Room} {s : State} {m : MethodId} {args : Array Value} {below : List Frame} {meth : Method} {c : Code} {T : State} {locs : List Loc} {cells slots : Nat}
abbrev OPre (R : Room) (as' : Array Value) (h : Heap) (rm : Room) : Pt → Array Value → Prop := fun A a => a = as' ∧ A.U.heap = h ∧ A.cells + rm.cells ≤ R.cells ∧ A.slots + rm.slots ≤ R.slots
abbrev OPost (Q : Option Value → Heap → List Loc → Prop) (rm : Room) : Pt → Array Value → Option Value → Pt → Prop := fun A _ v B => ∃ L, Q v B.U.heap L ∧ B.locs = A.locs ++ L ∧ B.cells = A.cells + rm.cells ∧ B.slots = A.slots + rm.slots
theorem own_callS (X : Stand p l e R s m args below meth c T locs cells slots) (hx : p.tables.exec = Jvm.exec) {own : String} {index : Nat} {y : MethodName} {bytes : ByteArray} {maxL : Nat} {ret : Option FieldType}
    (hown : s.vm.findClass own = some m.cls) (hlink : (Cond.methodLink own index y).before args s = true) (hstat : (Cond.static y).before args s = true) (hinit : (Cond.initialized y.cls).before args s = true)
    (hcode : (Cond.code y bytes maxL ret).before args s = true) (hy : y.cls ≠ "java/lang/invoke/MethodHandle" ∧ y.cls ≠ "java/lang/invoke/VarHandle")
    {W : Nat} {as' : Array Value} {h : Heap} {rm : Room} {Q : Option Value → Heap → List Loc → Prop} (hK : Back l R p e below s args y 3 W (OPre R as' h rm) (OPost Q rm))
    {g : JFrame} (hg : g.method = m) (hsize : g.locals.size = c.maxLocals) {argsL rest : List Value} (hlen : ∀ sig, parseMethodDescriptor y.desc = some sig → argsL.length = sig.parameters.length)
    (hstack : g.stack = argsL.reverse ++ rest) (hW : 2 * g.monitorRoom + (rest.map fun v => v.category).sum ≤ W) (hdg : decode c.code g.pc = .ok (.invokestatic index, 3))
    (hpre : argsL.toArray = as' ∧ T.heap = h ∧ cells + rm.cells ≤ R.cells ∧ slots + rm.slots ≤ R.slots) :
    ∃ (v : Option Value) (T' : State) (L : List Loc), Stand p l e R s m args below meth c T' (locs ++ L) (cells + rm.cells) (slots + rm.slots) ∧ Q v T'.heap L ∧ Steps p.tables e below (T.setTop g) (T'.setTop { g with pc := g.pc + 3, stack := v.toList ++ rest }) := by
  obtain ⟨v, vm, ⟨T', L', k', n'⟩, -, X', ⟨Lc, hQ, e1, e2, e3⟩, st⟩ := Jvm.LawKit.callS X hx hown hlink hstat hinit hcode hy hK hg hsize hlen hstack hW hdg (fun _ _ => hpre)
  dsimp only [Pt.U, Pt.locs, Pt.cells, Pt.slots] at X' e1 e2 e3 st hQ
  subst e1 e2 e3
  exact ⟨v, T', Lc, X', hQ, st _ (Steps.refl _)⟩
theorem own_callN (X : Stand p l e R s m args below meth c T locs cells slots) (hx : p.tables.exec = Jvm.exec) {own : String} {index : Nat} {y : MethodName} (hy1 : y.name = "<init>")
    (hown : s.vm.findClass own = some m.cls) (hlink : (Cond.methodLink own index y).before args s = true) (hinst : (Cond.instanceMethod y).before args s = true) {bytes : ByteArray} {maxL : Nat} (hcode : (Cond.code y bytes maxL none).before args s = true)
    (hy : y.cls ≠ "java/lang/invoke/MethodHandle" ∧ y.cls ≠ "java/lang/invoke/VarHandle")
    {W : Nat} {as' : Array Value} {h : Heap} {rm : Room} {Q : Option Value → Heap → List Loc → Prop} (hK : Back l R p e below s args y 3 W (OPre R as' h rm) (OPost Q rm))
    {g : JFrame} (hg : g.method = m) (hsize : g.locals.size = c.maxLocals) {a : Addr} {argsL rest : List Value} (hlen : ∀ sig, parseMethodDescriptor y.desc = some sig → argsL.length = sig.parameters.length)
    (hstack : g.stack = argsL.reverse ++ .ref a :: rest) (hW : 2 * g.monitorRoom + (rest.map fun v => v.category).sum ≤ W) (hdg : decode c.code g.pc = .ok (.invokespecial index, 3))
    (hpre : (Value.ref a :: argsL).toArray = as' ∧ T.heap = h ∧ cells + rm.cells ≤ R.cells ∧ slots + rm.slots ≤ R.slots) :
    ∃ (v : Option Value) (T' : State) (L : List Loc), Stand p l e R s m args below meth c T' (locs ++ L) (cells + rm.cells) (slots + rm.slots) ∧ Q v T'.heap L ∧ Steps p.tables e below (T.setTop g) (T'.setTop { g with pc := g.pc + 3, stack := v.toList ++ rest }) := by
  obtain ⟨v, vm, ⟨T', L', k', n'⟩, -, X', ⟨Lc, hQ, e1, e2, e3⟩, st⟩ := X.specialBack hx hy1 hown hlink hinst hcode hy hK hg hsize (Steps.refl _) hlen hstack hW hdg (fun _ _ => hpre)
  dsimp only [Pt.U, Pt.locs, Pt.cells, Pt.slots] at X' e1 e2 e3 st hQ
  subst e1 e2 e3
  exact ⟨v, T', Lc, X', hQ, st⟩
theorem own_callV (X : Stand p l e R s m args below meth c T locs cells slots) (hx : p.tables.exec = Jvm.exec) {own C : String} {index : Nat} {y : MethodName}
    (hown : s.vm.findClass own = some m.cls) (hlink : (Cond.methodLink own index y).before args s = true) (hdecl : (Cond.declares y).before args s = true) (hsel : (Cond.selects C y y).before args s = true) (hinst : (Cond.instanceMethod y).before args s = true)
    (hy : y.cls ≠ "java/lang/invoke/MethodHandle" ∧ y.cls ≠ "java/lang/invoke/VarHandle")
    {W : Nat} {as' : Array Value} {h : Heap} {rm : Room} {Q : Option Value → Heap → List Loc → Prop} (hK : Back l R p e below s args y 3 W (OPre R as' h rm) (OPost Q rm))
    {b : Addr} {cB : ClassId} (hcB : s.vm.findClass C = some cB) (hrecv : IsOf cB T b)
    {g : JFrame} (hg : g.method = m) (hsize : g.locals.size = c.maxLocals) {argsL rest : List Value} (hlen : ∀ sig, parseMethodDescriptor y.desc = some sig → argsL.length = sig.parameters.length)
    (hstack : g.stack = argsL.reverse ++ .ref b :: rest) (hW : 2 * g.monitorRoom + (rest.map fun v => v.category).sum ≤ W) (hdg : decode c.code g.pc = .ok (.invokevirtual index, 3))
    (hpre : (Value.ref b :: argsL).toArray = as' ∧ T.heap = h ∧ cells + rm.cells ≤ R.cells ∧ slots + rm.slots ≤ R.slots) :
    ∃ (v : Option Value) (T' : State) (L : List Loc), Stand p l e R s m args below meth c T' (locs ++ L) (cells + rm.cells) (slots + rm.slots) ∧ Q v T'.heap L ∧ Steps p.tables e below (T.setTop g) (T'.setTop { g with pc := g.pc + 3, stack := v.toList ++ rest }) := by
  obtain ⟨v, vm, ⟨T', L', k', n'⟩, -, X', ⟨Lc, hQ, e1, e2, e3⟩, st⟩ := X.virtualBack hx hown hlink hdecl (notFace_of_selects (args := args) hsel) hsel hinst hy hK hcB hrecv hg hsize (Steps.refl _) hlen hstack hW hdg (fun _ _ => hpre)
  dsimp only [Pt.U, Pt.locs, Pt.cells, Pt.slots] at X' e1 e2 e3 st hQ
  subst e1 e2 e3
  exact ⟨v, T', Lc, X', hQ, st⟩
end OwnCalls
theorem own_idx {j : Int32} {n : Nat} (h0 : 0 ≤ j.toInt) (h1 : j.toInt < n) : ¬ j < 0 ∧ j.toNatClampNeg < n := by
  have q : ¬ j < 0 := fun q => by have := Int32.lt_iff_toInt_lt.mp q; have z : (0 : Int32).toInt = 0 := (by decide); omega
  have r := nat_of q
  exact ⟨q, by omega⟩
theorem own_get {vs : List Value} (L : List Int32) (e : vs = L.map Value.int) {k : Nat} (hk : k < L.length) : ∃ x, vs[k]? = some (.int x) := by
  subst e
  exact ⟨L[k], by simp [hk]⟩

def own_ns (c : Int32) : Int32 := if ((58 ≤ c.toInt ∧ c.toInt ≤ 58) ∨ (65 ≤ c.toInt ∧ c.toInt ≤ 90) ∨ (95 ≤ c.toInt ∧ c.toInt ≤ 95) ∨ (97 ≤ c.toInt ∧ c.toInt ≤ 122) ∨ (192 ≤ c.toInt ∧ c.toInt ≤ 214) ∨ (216 ≤ c.toInt ∧ c.toInt ≤ 246) ∨ (248 ≤ c.toInt ∧ c.toInt ≤ 767) ∨ (880 ≤ c.toInt ∧ c.toInt ≤ 893) ∨ (895 ≤ c.toInt ∧ c.toInt ≤ 8191) ∨ (8204 ≤ c.toInt ∧ c.toInt ≤ 8205) ∨ (8304 ≤ c.toInt ∧ c.toInt ≤ 8591) ∨ (11264 ≤ c.toInt ∧ c.toInt ≤ 12271) ∨ (12289 ≤ c.toInt ∧ c.toInt ≤ 55295) ∨ (63744 ≤ c.toInt ∧ c.toInt ≤ 64975) ∨ (65008 ≤ c.toInt ∧ c.toInt ≤ 65533) ∨ (65536 ≤ c.toInt ∧ c.toInt ≤ 983039)) then 1 else 0
def own_par (s : Int32) : Int32 := (if (s &&& (1 : Int32)) = (1 : Int32) then (1 : Int32) else (0 : Int32))
theorem own_inj {s t : Int32} {k : Int} (h : s.toInt = k) (e : t.toInt = k) : s = t := Int32.toInt_inj.mp (h.trans e.symm)
theorem own_key (s lo : Int32) (h0 : 0 ≤ s.toInt) (h1 : s.toInt < 33) (hlo : ([(.int (-2147483648 : Int32)), (.int (58 : Int32)), (.int (59 : Int32)), (.int (65 : Int32)), (.int (91 : Int32)), (.int (95 : Int32)), (.int (96 : Int32)), (.int (97 : Int32)), (.int (123 : Int32)), (.int (192 : Int32)), (.int (215 : Int32)), (.int (216 : Int32)), (.int (247 : Int32)), (.int (248 : Int32)), (.int (768 : Int32)), (.int (880 : Int32)), (.int (894 : Int32)), (.int (895 : Int32)), (.int (8192 : Int32)), (.int (8204 : Int32)), (.int (8206 : Int32)), (.int (8304 : Int32)), (.int (8592 : Int32)), (.int (11264 : Int32)), (.int (12272 : Int32)), (.int (12289 : Int32)), (.int (55296 : Int32)), (.int (63744 : Int32)), (.int (64976 : Int32)), (.int (65008 : Int32)), (.int (65534 : Int32)), (.int (65536 : Int32)), (.int (983040 : Int32))] : List Value)[s.toNatClampNeg]? = some (.int lo)) :
    (¬ s = (32 : Int32) → ∃ hi : Int32, ([(.int (-2147483648 : Int32)), (.int (58 : Int32)), (.int (59 : Int32)), (.int (65 : Int32)), (.int (91 : Int32)), (.int (95 : Int32)), (.int (96 : Int32)), (.int (97 : Int32)), (.int (123 : Int32)), (.int (192 : Int32)), (.int (215 : Int32)), (.int (216 : Int32)), (.int (247 : Int32)), (.int (248 : Int32)), (.int (768 : Int32)), (.int (880 : Int32)), (.int (894 : Int32)), (.int (895 : Int32)), (.int (8192 : Int32)), (.int (8204 : Int32)), (.int (8206 : Int32)), (.int (8304 : Int32)), (.int (8592 : Int32)), (.int (11264 : Int32)), (.int (12272 : Int32)), (.int (12289 : Int32)), (.int (55296 : Int32)), (.int (63744 : Int32)), (.int (64976 : Int32)), (.int (65008 : Int32)), (.int (65534 : Int32)), (.int (65536 : Int32)), (.int (983040 : Int32))] : List Value)[(s + (1 : Int32)).toNatClampNeg]? = some (.int hi) ∧ lo.toInt ≤ hi.toInt - 1 ∧ -2147483648 ≤ hi.toInt - 1 ∧ ¬ (s + (1 : Int32)) < 0 ∧ ∀ x : Int32, lo.toInt ≤ x.toInt → x.toInt ≤ hi.toInt - 1 → own_ns x = own_par s) ∧ (s = (32 : Int32) → lo.toInt ≤ 2147483647 ∧ ∀ x : Int32, lo.toInt ≤ x.toInt → own_ns x = own_par s) := by
  have hc : s.toInt = 0 ∨ s.toInt = 1 ∨ s.toInt = 2 ∨ s.toInt = 3 ∨ s.toInt = 4 ∨ s.toInt = 5 ∨ s.toInt = 6 ∨ s.toInt = 7 ∨ s.toInt = 8 ∨ s.toInt = 9 ∨ s.toInt = 10 ∨ s.toInt = 11 ∨ s.toInt = 12 ∨ s.toInt = 13 ∨ s.toInt = 14 ∨ s.toInt = 15 ∨ s.toInt = 16 ∨ s.toInt = 17 ∨ s.toInt = 18 ∨ s.toInt = 19 ∨ s.toInt = 20 ∨ s.toInt = 21 ∨ s.toInt = 22 ∨ s.toInt = 23 ∨ s.toInt = 24 ∨ s.toInt = 25 ∨ s.toInt = 26 ∨ s.toInt = 27 ∨ s.toInt = 28 ∨ s.toInt = 29 ∨ s.toInt = 30 ∨ s.toInt = 31 ∨ s.toInt = 32 := by omega
  rcases hc with h | h | h | h | h | h | h | h | h | h | h | h | h | h | h | h | h | h | h | h | h | h | h | h | h | h | h | h | h | h | h | h | h
  · obtain rfl := own_inj h (by decide : (0 : Int32).toInt = 0)
    cases (show some (Value.int (-2147483648 : Int32)) = some (Value.int lo) from hlo)
    have hp : own_par (0 : Int32) = 0 := by decide
    refine ⟨fun _ => ⟨(58 : Int32), rfl, by decide, by decide, by decide, fun x a b => ?_⟩, fun q => absurd q (by decide)⟩
    have a' : (-2147483648 : Int) ≤ x.toInt := a
    have b' : x.toInt ≤ 58 - 1 := b
    rw [hp, own_ns, if_neg (by omega)]
  · obtain rfl := own_inj h (by decide : (1 : Int32).toInt = 1)
    cases (show some (Value.int (58 : Int32)) = some (Value.int lo) from hlo)
    have hp : own_par (1 : Int32) = 1 := by decide
    refine ⟨fun _ => ⟨(59 : Int32), rfl, by decide, by decide, by decide, fun x a b => ?_⟩, fun q => absurd q (by decide)⟩
    have a' : (58 : Int) ≤ x.toInt := a
    have b' : x.toInt ≤ 59 - 1 := b
    rw [hp, own_ns, if_pos (by omega)]
  · obtain rfl := own_inj h (by decide : (2 : Int32).toInt = 2)
    cases (show some (Value.int (59 : Int32)) = some (Value.int lo) from hlo)
    have hp : own_par (2 : Int32) = 0 := by decide
    refine ⟨fun _ => ⟨(65 : Int32), rfl, by decide, by decide, by decide, fun x a b => ?_⟩, fun q => absurd q (by decide)⟩
    have a' : (59 : Int) ≤ x.toInt := a
    have b' : x.toInt ≤ 65 - 1 := b
    rw [hp, own_ns, if_neg (by omega)]
  · obtain rfl := own_inj h (by decide : (3 : Int32).toInt = 3)
    cases (show some (Value.int (65 : Int32)) = some (Value.int lo) from hlo)
    have hp : own_par (3 : Int32) = 1 := by decide
    refine ⟨fun _ => ⟨(91 : Int32), rfl, by decide, by decide, by decide, fun x a b => ?_⟩, fun q => absurd q (by decide)⟩
    have a' : (65 : Int) ≤ x.toInt := a
    have b' : x.toInt ≤ 91 - 1 := b
    rw [hp, own_ns, if_pos (by omega)]
  · obtain rfl := own_inj h (by decide : (4 : Int32).toInt = 4)
    cases (show some (Value.int (91 : Int32)) = some (Value.int lo) from hlo)
    have hp : own_par (4 : Int32) = 0 := by decide
    refine ⟨fun _ => ⟨(95 : Int32), rfl, by decide, by decide, by decide, fun x a b => ?_⟩, fun q => absurd q (by decide)⟩
    have a' : (91 : Int) ≤ x.toInt := a
    have b' : x.toInt ≤ 95 - 1 := b
    rw [hp, own_ns, if_neg (by omega)]
  · obtain rfl := own_inj h (by decide : (5 : Int32).toInt = 5)
    cases (show some (Value.int (95 : Int32)) = some (Value.int lo) from hlo)
    have hp : own_par (5 : Int32) = 1 := by decide
    refine ⟨fun _ => ⟨(96 : Int32), rfl, by decide, by decide, by decide, fun x a b => ?_⟩, fun q => absurd q (by decide)⟩
    have a' : (95 : Int) ≤ x.toInt := a
    have b' : x.toInt ≤ 96 - 1 := b
    rw [hp, own_ns, if_pos (by omega)]
  · obtain rfl := own_inj h (by decide : (6 : Int32).toInt = 6)
    cases (show some (Value.int (96 : Int32)) = some (Value.int lo) from hlo)
    have hp : own_par (6 : Int32) = 0 := by decide
    refine ⟨fun _ => ⟨(97 : Int32), rfl, by decide, by decide, by decide, fun x a b => ?_⟩, fun q => absurd q (by decide)⟩
    have a' : (96 : Int) ≤ x.toInt := a
    have b' : x.toInt ≤ 97 - 1 := b
    rw [hp, own_ns, if_neg (by omega)]
  · obtain rfl := own_inj h (by decide : (7 : Int32).toInt = 7)
    cases (show some (Value.int (97 : Int32)) = some (Value.int lo) from hlo)
    have hp : own_par (7 : Int32) = 1 := by decide
    refine ⟨fun _ => ⟨(123 : Int32), rfl, by decide, by decide, by decide, fun x a b => ?_⟩, fun q => absurd q (by decide)⟩
    have a' : (97 : Int) ≤ x.toInt := a
    have b' : x.toInt ≤ 123 - 1 := b
    rw [hp, own_ns, if_pos (by omega)]
  · obtain rfl := own_inj h (by decide : (8 : Int32).toInt = 8)
    cases (show some (Value.int (123 : Int32)) = some (Value.int lo) from hlo)
    have hp : own_par (8 : Int32) = 0 := by decide
    refine ⟨fun _ => ⟨(192 : Int32), rfl, by decide, by decide, by decide, fun x a b => ?_⟩, fun q => absurd q (by decide)⟩
    have a' : (123 : Int) ≤ x.toInt := a
    have b' : x.toInt ≤ 192 - 1 := b
    rw [hp, own_ns, if_neg (by omega)]
  · obtain rfl := own_inj h (by decide : (9 : Int32).toInt = 9)
    cases (show some (Value.int (192 : Int32)) = some (Value.int lo) from hlo)
    have hp : own_par (9 : Int32) = 1 := by decide
    refine ⟨fun _ => ⟨(215 : Int32), rfl, by decide, by decide, by decide, fun x a b => ?_⟩, fun q => absurd q (by decide)⟩
    have a' : (192 : Int) ≤ x.toInt := a
    have b' : x.toInt ≤ 215 - 1 := b
    rw [hp, own_ns, if_pos (by omega)]
  · obtain rfl := own_inj h (by decide : (10 : Int32).toInt = 10)
    cases (show some (Value.int (215 : Int32)) = some (Value.int lo) from hlo)
    have hp : own_par (10 : Int32) = 0 := by decide
    refine ⟨fun _ => ⟨(216 : Int32), rfl, by decide, by decide, by decide, fun x a b => ?_⟩, fun q => absurd q (by decide)⟩
    have a' : (215 : Int) ≤ x.toInt := a
    have b' : x.toInt ≤ 216 - 1 := b
    rw [hp, own_ns, if_neg (by omega)]
  · obtain rfl := own_inj h (by decide : (11 : Int32).toInt = 11)
    cases (show some (Value.int (216 : Int32)) = some (Value.int lo) from hlo)
    have hp : own_par (11 : Int32) = 1 := by decide
    refine ⟨fun _ => ⟨(247 : Int32), rfl, by decide, by decide, by decide, fun x a b => ?_⟩, fun q => absurd q (by decide)⟩
    have a' : (216 : Int) ≤ x.toInt := a
    have b' : x.toInt ≤ 247 - 1 := b
    rw [hp, own_ns, if_pos (by omega)]
  · obtain rfl := own_inj h (by decide : (12 : Int32).toInt = 12)
    cases (show some (Value.int (247 : Int32)) = some (Value.int lo) from hlo)
    have hp : own_par (12 : Int32) = 0 := by decide
    refine ⟨fun _ => ⟨(248 : Int32), rfl, by decide, by decide, by decide, fun x a b => ?_⟩, fun q => absurd q (by decide)⟩
    have a' : (247 : Int) ≤ x.toInt := a
    have b' : x.toInt ≤ 248 - 1 := b
    rw [hp, own_ns, if_neg (by omega)]
  · obtain rfl := own_inj h (by decide : (13 : Int32).toInt = 13)
    cases (show some (Value.int (248 : Int32)) = some (Value.int lo) from hlo)
    have hp : own_par (13 : Int32) = 1 := by decide
    refine ⟨fun _ => ⟨(768 : Int32), rfl, by decide, by decide, by decide, fun x a b => ?_⟩, fun q => absurd q (by decide)⟩
    have a' : (248 : Int) ≤ x.toInt := a
    have b' : x.toInt ≤ 768 - 1 := b
    rw [hp, own_ns, if_pos (by omega)]
  · obtain rfl := own_inj h (by decide : (14 : Int32).toInt = 14)
    cases (show some (Value.int (768 : Int32)) = some (Value.int lo) from hlo)
    have hp : own_par (14 : Int32) = 0 := by decide
    refine ⟨fun _ => ⟨(880 : Int32), rfl, by decide, by decide, by decide, fun x a b => ?_⟩, fun q => absurd q (by decide)⟩
    have a' : (768 : Int) ≤ x.toInt := a
    have b' : x.toInt ≤ 880 - 1 := b
    rw [hp, own_ns, if_neg (by omega)]
  · obtain rfl := own_inj h (by decide : (15 : Int32).toInt = 15)
    cases (show some (Value.int (880 : Int32)) = some (Value.int lo) from hlo)
    have hp : own_par (15 : Int32) = 1 := by decide
    refine ⟨fun _ => ⟨(894 : Int32), rfl, by decide, by decide, by decide, fun x a b => ?_⟩, fun q => absurd q (by decide)⟩
    have a' : (880 : Int) ≤ x.toInt := a
    have b' : x.toInt ≤ 894 - 1 := b
    rw [hp, own_ns, if_pos (by omega)]
  · obtain rfl := own_inj h (by decide : (16 : Int32).toInt = 16)
    cases (show some (Value.int (894 : Int32)) = some (Value.int lo) from hlo)
    have hp : own_par (16 : Int32) = 0 := by decide
    refine ⟨fun _ => ⟨(895 : Int32), rfl, by decide, by decide, by decide, fun x a b => ?_⟩, fun q => absurd q (by decide)⟩
    have a' : (894 : Int) ≤ x.toInt := a
    have b' : x.toInt ≤ 895 - 1 := b
    rw [hp, own_ns, if_neg (by omega)]
  · obtain rfl := own_inj h (by decide : (17 : Int32).toInt = 17)
    cases (show some (Value.int (895 : Int32)) = some (Value.int lo) from hlo)
    have hp : own_par (17 : Int32) = 1 := by decide
    refine ⟨fun _ => ⟨(8192 : Int32), rfl, by decide, by decide, by decide, fun x a b => ?_⟩, fun q => absurd q (by decide)⟩
    have a' : (895 : Int) ≤ x.toInt := a
    have b' : x.toInt ≤ 8192 - 1 := b
    rw [hp, own_ns, if_pos (by omega)]
  · obtain rfl := own_inj h (by decide : (18 : Int32).toInt = 18)
    cases (show some (Value.int (8192 : Int32)) = some (Value.int lo) from hlo)
    have hp : own_par (18 : Int32) = 0 := by decide
    refine ⟨fun _ => ⟨(8204 : Int32), rfl, by decide, by decide, by decide, fun x a b => ?_⟩, fun q => absurd q (by decide)⟩
    have a' : (8192 : Int) ≤ x.toInt := a
    have b' : x.toInt ≤ 8204 - 1 := b
    rw [hp, own_ns, if_neg (by omega)]
  · obtain rfl := own_inj h (by decide : (19 : Int32).toInt = 19)
    cases (show some (Value.int (8204 : Int32)) = some (Value.int lo) from hlo)
    have hp : own_par (19 : Int32) = 1 := by decide
    refine ⟨fun _ => ⟨(8206 : Int32), rfl, by decide, by decide, by decide, fun x a b => ?_⟩, fun q => absurd q (by decide)⟩
    have a' : (8204 : Int) ≤ x.toInt := a
    have b' : x.toInt ≤ 8206 - 1 := b
    rw [hp, own_ns, if_pos (by omega)]
  · obtain rfl := own_inj h (by decide : (20 : Int32).toInt = 20)
    cases (show some (Value.int (8206 : Int32)) = some (Value.int lo) from hlo)
    have hp : own_par (20 : Int32) = 0 := by decide
    refine ⟨fun _ => ⟨(8304 : Int32), rfl, by decide, by decide, by decide, fun x a b => ?_⟩, fun q => absurd q (by decide)⟩
    have a' : (8206 : Int) ≤ x.toInt := a
    have b' : x.toInt ≤ 8304 - 1 := b
    rw [hp, own_ns, if_neg (by omega)]
  · obtain rfl := own_inj h (by decide : (21 : Int32).toInt = 21)
    cases (show some (Value.int (8304 : Int32)) = some (Value.int lo) from hlo)
    have hp : own_par (21 : Int32) = 1 := by decide
    refine ⟨fun _ => ⟨(8592 : Int32), rfl, by decide, by decide, by decide, fun x a b => ?_⟩, fun q => absurd q (by decide)⟩
    have a' : (8304 : Int) ≤ x.toInt := a
    have b' : x.toInt ≤ 8592 - 1 := b
    rw [hp, own_ns, if_pos (by omega)]
  · obtain rfl := own_inj h (by decide : (22 : Int32).toInt = 22)
    cases (show some (Value.int (8592 : Int32)) = some (Value.int lo) from hlo)
    have hp : own_par (22 : Int32) = 0 := by decide
    refine ⟨fun _ => ⟨(11264 : Int32), rfl, by decide, by decide, by decide, fun x a b => ?_⟩, fun q => absurd q (by decide)⟩
    have a' : (8592 : Int) ≤ x.toInt := a
    have b' : x.toInt ≤ 11264 - 1 := b
    rw [hp, own_ns, if_neg (by omega)]
  · obtain rfl := own_inj h (by decide : (23 : Int32).toInt = 23)
    cases (show some (Value.int (11264 : Int32)) = some (Value.int lo) from hlo)
    have hp : own_par (23 : Int32) = 1 := by decide
    refine ⟨fun _ => ⟨(12272 : Int32), rfl, by decide, by decide, by decide, fun x a b => ?_⟩, fun q => absurd q (by decide)⟩
    have a' : (11264 : Int) ≤ x.toInt := a
    have b' : x.toInt ≤ 12272 - 1 := b
    rw [hp, own_ns, if_pos (by omega)]
  · obtain rfl := own_inj h (by decide : (24 : Int32).toInt = 24)
    cases (show some (Value.int (12272 : Int32)) = some (Value.int lo) from hlo)
    have hp : own_par (24 : Int32) = 0 := by decide
    refine ⟨fun _ => ⟨(12289 : Int32), rfl, by decide, by decide, by decide, fun x a b => ?_⟩, fun q => absurd q (by decide)⟩
    have a' : (12272 : Int) ≤ x.toInt := a
    have b' : x.toInt ≤ 12289 - 1 := b
    rw [hp, own_ns, if_neg (by omega)]
  · obtain rfl := own_inj h (by decide : (25 : Int32).toInt = 25)
    cases (show some (Value.int (12289 : Int32)) = some (Value.int lo) from hlo)
    have hp : own_par (25 : Int32) = 1 := by decide
    refine ⟨fun _ => ⟨(55296 : Int32), rfl, by decide, by decide, by decide, fun x a b => ?_⟩, fun q => absurd q (by decide)⟩
    have a' : (12289 : Int) ≤ x.toInt := a
    have b' : x.toInt ≤ 55296 - 1 := b
    rw [hp, own_ns, if_pos (by omega)]
  · obtain rfl := own_inj h (by decide : (26 : Int32).toInt = 26)
    cases (show some (Value.int (55296 : Int32)) = some (Value.int lo) from hlo)
    have hp : own_par (26 : Int32) = 0 := by decide
    refine ⟨fun _ => ⟨(63744 : Int32), rfl, by decide, by decide, by decide, fun x a b => ?_⟩, fun q => absurd q (by decide)⟩
    have a' : (55296 : Int) ≤ x.toInt := a
    have b' : x.toInt ≤ 63744 - 1 := b
    rw [hp, own_ns, if_neg (by omega)]
  · obtain rfl := own_inj h (by decide : (27 : Int32).toInt = 27)
    cases (show some (Value.int (63744 : Int32)) = some (Value.int lo) from hlo)
    have hp : own_par (27 : Int32) = 1 := by decide
    refine ⟨fun _ => ⟨(64976 : Int32), rfl, by decide, by decide, by decide, fun x a b => ?_⟩, fun q => absurd q (by decide)⟩
    have a' : (63744 : Int) ≤ x.toInt := a
    have b' : x.toInt ≤ 64976 - 1 := b
    rw [hp, own_ns, if_pos (by omega)]
  · obtain rfl := own_inj h (by decide : (28 : Int32).toInt = 28)
    cases (show some (Value.int (64976 : Int32)) = some (Value.int lo) from hlo)
    have hp : own_par (28 : Int32) = 0 := by decide
    refine ⟨fun _ => ⟨(65008 : Int32), rfl, by decide, by decide, by decide, fun x a b => ?_⟩, fun q => absurd q (by decide)⟩
    have a' : (64976 : Int) ≤ x.toInt := a
    have b' : x.toInt ≤ 65008 - 1 := b
    rw [hp, own_ns, if_neg (by omega)]
  · obtain rfl := own_inj h (by decide : (29 : Int32).toInt = 29)
    cases (show some (Value.int (65008 : Int32)) = some (Value.int lo) from hlo)
    have hp : own_par (29 : Int32) = 1 := by decide
    refine ⟨fun _ => ⟨(65534 : Int32), rfl, by decide, by decide, by decide, fun x a b => ?_⟩, fun q => absurd q (by decide)⟩
    have a' : (65008 : Int) ≤ x.toInt := a
    have b' : x.toInt ≤ 65534 - 1 := b
    rw [hp, own_ns, if_pos (by omega)]
  · obtain rfl := own_inj h (by decide : (30 : Int32).toInt = 30)
    cases (show some (Value.int (65534 : Int32)) = some (Value.int lo) from hlo)
    have hp : own_par (30 : Int32) = 0 := by decide
    refine ⟨fun _ => ⟨(65536 : Int32), rfl, by decide, by decide, by decide, fun x a b => ?_⟩, fun q => absurd q (by decide)⟩
    have a' : (65534 : Int) ≤ x.toInt := a
    have b' : x.toInt ≤ 65536 - 1 := b
    rw [hp, own_ns, if_neg (by omega)]
  · obtain rfl := own_inj h (by decide : (31 : Int32).toInt = 31)
    cases (show some (Value.int (65536 : Int32)) = some (Value.int lo) from hlo)
    have hp : own_par (31 : Int32) = 1 := by decide
    refine ⟨fun _ => ⟨(983040 : Int32), rfl, by decide, by decide, by decide, fun x a b => ?_⟩, fun q => absurd q (by decide)⟩
    have a' : (65536 : Int) ≤ x.toInt := a
    have b' : x.toInt ≤ 983040 - 1 := b
    rw [hp, own_ns, if_pos (by omega)]
  · obtain rfl := own_inj h (by decide : (32 : Int32).toInt = 32)
    cases (show some (Value.int (983040 : Int32)) = some (Value.int lo) from hlo)
    have hp : own_par (32 : Int32) = 0 := by decide
    refine ⟨fun q => absurd rfl q, fun _ => ⟨by decide, fun x a => ?_⟩⟩
    have a' : (983040 : Int) ≤ x.toInt := a
    rw [hp, own_ns, if_neg (by omega)]
theorem own_tm (x d : Int) (hd : 0 < d) : -d < x.tmod d ∧ x.tmod d < d ∧ (0 ≤ x → 0 ≤ x.tmod d) := by
  refine ⟨?_, Int.tmod_lt_of_pos _ hd, fun h => Int.tmod_nonneg _ h⟩
  have h := Int.tmod_lt_of_pos (-x) hd
  rw [Int.neg_tmod] at h; omega
theorem own_ln (lo hi : Int32) (h : lo.toInt ≤ hi.toInt) : ((hi.toInt64 - lo.toInt64) + (1 : Int64)).toInt = hi.toInt - lo.toInt + 1 := by
  have a := rng32 lo
  have b := rng32 hi
  have e1 := c_i2l lo
  have e2 := c_i2l hi
  have c1 := c_lsub hi.toInt64 lo.toInt64
  have c2 := c_ladd (hi.toInt64 - lo.toInt64) (1 : Int64)
  have o : (1 : Int64).toInt = 1 := by decide
  have r1 := rng64 (hi.toInt64 - lo.toInt64)
  have r2 := rng64 ((hi.toInt64 - lo.toInt64) + (1 : Int64))
  omega
theorem own_mid (lo hi off : Int32) (h : lo.toInt ≤ hi.toInt) : ((hi.toInt64 - lo.toInt64) + (1 : Int64)) ≠ 0 ∧ lo.toInt ≤ ((lo.toInt64 + (((off.toInt64 % ((hi.toInt64 - lo.toInt64) + (1 : Int64))) + ((hi.toInt64 - lo.toInt64) + (1 : Int64))) % ((hi.toInt64 - lo.toInt64) + (1 : Int64)))).toInt32).toInt ∧ ((lo.toInt64 + (((off.toInt64 % ((hi.toInt64 - lo.toInt64) + (1 : Int64))) + ((hi.toInt64 - lo.toInt64) + (1 : Int64))) % ((hi.toInt64 - lo.toInt64) + (1 : Int64)))).toInt32).toInt ≤ hi.toInt := by
  have hl := own_ln lo hi h
  have a := rng32 lo
  have b := rng32 hi
  have e1 := c_i2l lo
  generalize ((hi.toInt64 - lo.toInt64) + (1 : Int64)) = d at *
  have hd : 0 < d.toInt := by omega
  have ho := rng32 off
  have hne : d ≠ 0 := fun q => by rw [q] at hd; exact absurd hd (by decide)
  have m1 : (off.toInt64 % d).toInt = off.toInt64.toInt.tmod d.toInt := Int64.toInt_mod ..
  have t1 := own_tm off.toInt64.toInt d.toInt hd
  have c1 := c_ladd (off.toInt64 % d) d
  have r1 := rng64 (off.toInt64 % d + d)
  generalize off.toInt64 % d = u at *
  have m2 : ((u + d) % d).toInt = (u + d).toInt.tmod d.toInt := Int64.toInt_mod ..
  have t2 := own_tm (u + d).toInt d.toInt hd
  have p2 : 0 ≤ (u + d).toInt := by omega
  have p3 := t2.2.2 p2
  generalize (u + d) % d = r at *
  have c2 := c_ladd lo.toInt64 r
  have r2 := rng64 (lo.toInt64 + r)
  have c3 := c_l2i (lo.toInt64 + r)
  have r3 := rng32 (lo.toInt64 + r).toInt32
  exact ⟨hne, by omega, by omega⟩
theorem own_hi (h : Int32) (q : -2147483648 ≤ h.toInt - 1) : (h - (1 : Int32)).toInt = h.toInt - 1 := by
  have a := rng32 h
  have b := c_isub h (1 : Int32)
  have o : (1 : Int32).toInt = 1 := by decide
  have c := rng32 (h - (1 : Int32))
  omega
theorem d1_0 : decode prog_82_method_3_code 0 = .ok (.iload_n 0, 1) := by decide +kernel
theorem d1_1 : decode prog_82_method_3_code 1 = .ok (.bipush 58, 2) := by decide +kernel
theorem d1_3 : decode prog_82_method_3_code 3 = .ok (.if_icmp .eq 194, 3) := by decide +kernel
theorem d1_197 : decode prog_82_method_3_code 197 = .ok (.iconst 1, 1) := by decide +kernel
theorem d1_198 : decode prog_82_method_3_code 198 = .ok (.goto 4, 3) := by decide +kernel
theorem d1_202 : decode prog_82_method_3_code 202 = .ok (.ireturn, 1) := by decide +kernel
theorem d1_6 : decode prog_82_method_3_code 6 = .ok (.iload_n 0, 1) := by decide +kernel
theorem d1_7 : decode prog_82_method_3_code 7 = .ok (.bipush 65, 2) := by decide +kernel
theorem d1_9 : decode prog_82_method_3_code 9 = .ok (.if_icmp .lt 9, 3) := by decide +kernel
theorem d1_12 : decode prog_82_method_3_code 12 = .ok (.iload_n 0, 1) := by decide +kernel
theorem d1_13 : decode prog_82_method_3_code 13 = .ok (.bipush 90, 2) := by decide +kernel
theorem d1_15 : decode prog_82_method_3_code 15 = .ok (.if_icmp .le 182, 3) := by decide +kernel
theorem d1_18 : decode prog_82_method_3_code 18 = .ok (.iload_n 0, 1) := by decide +kernel
theorem d1_19 : decode prog_82_method_3_code 19 = .ok (.bipush 95, 2) := by decide +kernel
theorem d1_21 : decode prog_82_method_3_code 21 = .ok (.if_icmp .eq 176, 3) := by decide +kernel
theorem d1_24 : decode prog_82_method_3_code 24 = .ok (.iload_n 0, 1) := by decide +kernel
theorem d1_25 : decode prog_82_method_3_code 25 = .ok (.bipush 97, 2) := by decide +kernel
theorem d1_27 : decode prog_82_method_3_code 27 = .ok (.if_icmp .lt 9, 3) := by decide +kernel
theorem d1_30 : decode prog_82_method_3_code 30 = .ok (.iload_n 0, 1) := by decide +kernel
theorem d1_31 : decode prog_82_method_3_code 31 = .ok (.bipush 122, 2) := by decide +kernel
theorem d1_33 : decode prog_82_method_3_code 33 = .ok (.if_icmp .le 164, 3) := by decide +kernel
theorem d1_36 : decode prog_82_method_3_code 36 = .ok (.iload_n 0, 1) := by decide +kernel
theorem d1_37 : decode prog_82_method_3_code 37 = .ok (.sipush 192, 3) := by decide +kernel
theorem d1_40 : decode prog_82_method_3_code 40 = .ok (.if_icmp .lt 10, 3) := by decide +kernel
theorem d1_43 : decode prog_82_method_3_code 43 = .ok (.iload_n 0, 1) := by decide +kernel
theorem d1_44 : decode prog_82_method_3_code 44 = .ok (.sipush 214, 3) := by decide +kernel
theorem d1_47 : decode prog_82_method_3_code 47 = .ok (.if_icmp .le 150, 3) := by decide +kernel
theorem d1_50 : decode prog_82_method_3_code 50 = .ok (.iload_n 0, 1) := by decide +kernel
theorem d1_51 : decode prog_82_method_3_code 51 = .ok (.sipush 216, 3) := by decide +kernel
theorem d1_54 : decode prog_82_method_3_code 54 = .ok (.if_icmp .lt 10, 3) := by decide +kernel
theorem d1_57 : decode prog_82_method_3_code 57 = .ok (.iload_n 0, 1) := by decide +kernel
theorem d1_58 : decode prog_82_method_3_code 58 = .ok (.sipush 246, 3) := by decide +kernel
theorem d1_61 : decode prog_82_method_3_code 61 = .ok (.if_icmp .le 136, 3) := by decide +kernel
theorem d1_64 : decode prog_82_method_3_code 64 = .ok (.iload_n 0, 1) := by decide +kernel
theorem d1_65 : decode prog_82_method_3_code 65 = .ok (.sipush 248, 3) := by decide +kernel
theorem d1_68 : decode prog_82_method_3_code 68 = .ok (.if_icmp .lt 10, 3) := by decide +kernel
theorem d1_71 : decode prog_82_method_3_code 71 = .ok (.iload_n 0, 1) := by decide +kernel
theorem d1_72 : decode prog_82_method_3_code 72 = .ok (.sipush 767, 3) := by decide +kernel
theorem d1_75 : decode prog_82_method_3_code 75 = .ok (.if_icmp .le 122, 3) := by decide +kernel
theorem d1_78 : decode prog_82_method_3_code 78 = .ok (.iload_n 0, 1) := by decide +kernel
theorem d1_79 : decode prog_82_method_3_code 79 = .ok (.sipush 880, 3) := by decide +kernel
theorem d1_82 : decode prog_82_method_3_code 82 = .ok (.if_icmp .lt 10, 3) := by decide +kernel
theorem d1_85 : decode prog_82_method_3_code 85 = .ok (.iload_n 0, 1) := by decide +kernel
theorem d1_86 : decode prog_82_method_3_code 86 = .ok (.sipush 893, 3) := by decide +kernel
theorem d1_89 : decode prog_82_method_3_code 89 = .ok (.if_icmp .le 108, 3) := by decide +kernel
theorem d1_92 : decode prog_82_method_3_code 92 = .ok (.iload_n 0, 1) := by decide +kernel
theorem d1_93 : decode prog_82_method_3_code 93 = .ok (.sipush 895, 3) := by decide +kernel
theorem d1_96 : decode prog_82_method_3_code 96 = .ok (.if_icmp .lt 10, 3) := by decide +kernel
theorem d1_99 : decode prog_82_method_3_code 99 = .ok (.iload_n 0, 1) := by decide +kernel
theorem d1_100 : decode prog_82_method_3_code 100 = .ok (.sipush 8191, 3) := by decide +kernel
theorem d1_103 : decode prog_82_method_3_code 103 = .ok (.if_icmp .le 94, 3) := by decide +kernel
theorem d1_106 : decode prog_82_method_3_code 106 = .ok (.iload_n 0, 1) := by decide +kernel
theorem d1_107 : decode prog_82_method_3_code 107 = .ok (.sipush 8204, 3) := by decide +kernel
theorem d1_110 : decode prog_82_method_3_code 110 = .ok (.if_icmp .lt 10, 3) := by decide +kernel
theorem d1_113 : decode prog_82_method_3_code 113 = .ok (.iload_n 0, 1) := by decide +kernel
theorem d1_114 : decode prog_82_method_3_code 114 = .ok (.sipush 8205, 3) := by decide +kernel
theorem d1_117 : decode prog_82_method_3_code 117 = .ok (.if_icmp .le 80, 3) := by decide +kernel
theorem d1_120 : decode prog_82_method_3_code 120 = .ok (.iload_n 0, 1) := by decide +kernel
theorem d1_121 : decode prog_82_method_3_code 121 = .ok (.sipush 8304, 3) := by decide +kernel
theorem d1_124 : decode prog_82_method_3_code 124 = .ok (.if_icmp .lt 10, 3) := by decide +kernel
theorem d1_127 : decode prog_82_method_3_code 127 = .ok (.iload_n 0, 1) := by decide +kernel
theorem d1_128 : decode prog_82_method_3_code 128 = .ok (.sipush 8591, 3) := by decide +kernel
theorem d1_131 : decode prog_82_method_3_code 131 = .ok (.if_icmp .le 66, 3) := by decide +kernel
theorem d1_134 : decode prog_82_method_3_code 134 = .ok (.iload_n 0, 1) := by decide +kernel
theorem d1_135 : decode prog_82_method_3_code 135 = .ok (.sipush 11264, 3) := by decide +kernel
theorem d1_138 : decode prog_82_method_3_code 138 = .ok (.if_icmp .lt 10, 3) := by decide +kernel
theorem d1_141 : decode prog_82_method_3_code 141 = .ok (.iload_n 0, 1) := by decide +kernel
theorem d1_142 : decode prog_82_method_3_code 142 = .ok (.sipush 12271, 3) := by decide +kernel
theorem d1_145 : decode prog_82_method_3_code 145 = .ok (.if_icmp .le 52, 3) := by decide +kernel
theorem d1_148 : decode prog_82_method_3_code 148 = .ok (.iload_n 0, 1) := by decide +kernel
theorem d1_149 : decode prog_82_method_3_code 149 = .ok (.sipush 12289, 3) := by decide +kernel
theorem d1_152 : decode prog_82_method_3_code 152 = .ok (.if_icmp .lt 9, 3) := by decide +kernel
theorem d1_155 : decode prog_82_method_3_code 155 = .ok (.iload_n 0, 1) := by decide +kernel
theorem d1_156 : decode prog_82_method_3_code 156 = .ok (.ldc 7, 2) := by decide +kernel
theorem d1_158 : decode prog_82_method_3_code 158 = .ok (.if_icmp .le 39, 3) := by decide +kernel
theorem d1_161 : decode prog_82_method_3_code 161 = .ok (.iload_n 0, 1) := by decide +kernel
theorem d1_162 : decode prog_82_method_3_code 162 = .ok (.ldc 12, 2) := by decide +kernel
theorem d1_164 : decode prog_82_method_3_code 164 = .ok (.if_icmp .lt 9, 3) := by decide +kernel
theorem d1_167 : decode prog_82_method_3_code 167 = .ok (.iload_n 0, 1) := by decide +kernel
theorem d1_168 : decode prog_82_method_3_code 168 = .ok (.ldc 13, 2) := by decide +kernel
theorem d1_170 : decode prog_82_method_3_code 170 = .ok (.if_icmp .le 27, 3) := by decide +kernel
theorem d1_173 : decode prog_82_method_3_code 173 = .ok (.iload_n 0, 1) := by decide +kernel
theorem d1_174 : decode prog_82_method_3_code 174 = .ok (.ldc 14, 2) := by decide +kernel
theorem d1_176 : decode prog_82_method_3_code 176 = .ok (.if_icmp .lt 9, 3) := by decide +kernel
theorem d1_179 : decode prog_82_method_3_code 179 = .ok (.iload_n 0, 1) := by decide +kernel
theorem d1_180 : decode prog_82_method_3_code 180 = .ok (.ldc 9, 2) := by decide +kernel
theorem d1_182 : decode prog_82_method_3_code 182 = .ok (.if_icmp .le 15, 3) := by decide +kernel
theorem d1_185 : decode prog_82_method_3_code 185 = .ok (.iload_n 0, 1) := by decide +kernel
theorem d1_186 : decode prog_82_method_3_code 186 = .ok (.ldc 10, 2) := by decide +kernel
theorem d1_188 : decode prog_82_method_3_code 188 = .ok (.if_icmp .lt 13, 3) := by decide +kernel
theorem d1_191 : decode prog_82_method_3_code 191 = .ok (.iload_n 0, 1) := by decide +kernel
theorem d1_192 : decode prog_82_method_3_code 192 = .ok (.ldc 15, 2) := by decide +kernel
theorem d1_194 : decode prog_82_method_3_code 194 = .ok (.if_icmp .gt 7, 3) := by decide +kernel
theorem d1_201 : decode prog_82_method_3_code 201 = .ok (.iconst 0, 1) := by decide +kernel
theorem pn_0 : plainName "com/example/distill_trees/distilltrees/io/XmlChars" = true := by first | (simp [plainName, overriddenIn]; done) | decide +kernel
theorem ef_rm1 (m : MethodId) (x0 : Int32) : entryFrame m #[(.int x0)] 1 = mkF m 0 #[.val (.int x0)] [] := by first | (simp [entryFrame, mkF, argsToLocals, Value.category]; done) | rfl
def Q1 (Z : State) (c1 : Int32) (h0 : Heap) (n0 : Nat) (v : Option Value) (h : Heap) (L : List Loc) : Prop := v = some (.int (own_ns c1)) ∧ Fr n0 L ∧ h = h0
set_option maxRecDepth 65536 in
set_option maxHeartbeats 40000000 in
theorem rm1 (l : Launch) (Z : State) (a0 : Array Value) (hw : ∀ d ∈ tables_1, d.before a0 Z = true) (ws : List Jvm.Cond) (c1 : Int32) (h0 : Heap) (n0 : Nat) (Z0 : n0 ≤ h0.size) :
    MetFree l (⟨"com/example/distill_trees/distilltrees/io/XmlChars", "isNameStartChar", "(I)Z"⟩ : MethodName) (head1 (Jvm.Cond.code (⟨"com/example/distill_trees/distilltrees/io/XmlChars", "isNameStartChar", "(I)Z"⟩ : MethodName) prog_82_method_3_code 1 (some .boolean) :: ws) ({ frames := 0, cells := 0, slots := 0, locals := 0 } : Room)) (fun aa U => aa = #[(.int c1)] ∧ Z.Warmed39 U.vm ∧ U.heap = h0) (fun _ _ _ _ _ => True) (fun _ U o U' => ∃ v L, o = .returned v ∧ Q1 Z c1 h0 n0 v U'.heap L ∧ FrameEnd U o U' L ({ frames := 0, cells := 0, slots := 0, locals := 0 } : Room).cells ({ frames := 0, cells := 0, slots := 0, locals := 0 } : Room).slots) := by
  refine MetFree.of_bodySF (plainFor_of_name pn_0) hisR ?_
  intro p e s m args below meth c s₁ Bd hml0 hP hK
  obtain ⟨rfl, hZ, hh⟩ := hP
  have hx := Bd.exec
  have hby := Bd.bytes
  have hml : c.maxLocals = 1 := hml0
  have hown : s.vm.findClass "com/example/distill_trees/distilltrees/io/XmlChars" = some m.cls := findClass_of_methodNamed Bd.named
  have hnm := (name_of_methodNamed Bd.named Bd.method).1
  have X0 : Stand p l e ({ frames := 0, cells := 0, slots := 0, locals := 0 } : Room) s m #[(.int c1)] below meth c s₁ [] 0 0 := Stand.of_body Bd
  have e0 : s₁.heap = h0 := by rw [← hh, Bd.state]; rfl
  have N0 := Fr.nil n0
  obtain ⟨Ω, hΩ⟩ : ∃ z, z = s₁.setTop (entryFrame m #[(.int c1)] 1) := ⟨_, rfl⟩
  have S0 : Steps p.tables e below Ω (s₁.setTop (mkF m 0 #[.val (.int c1)] [])) := by rw [hΩ]; exact castTop (ef_rm1 m c1) (Steps.refl _)
  have D3 : (((58 ≤ c1.toInt ∧ c1.toInt ≤ 58)) ∧ Steps p.tables e below Ω (s₁.setTop (mkF m 197 #[.val (.int c1)] []))) ∨ ((¬ (58 ≤ c1.toInt ∧ c1.toInt ≤ 58)) ∧ Steps p.tables e below Ω (s₁.setTop (mkF m 6 #[.val (.int c1)] []))) := by
    by_cases cz1 : c1 = (58 : Int32)
    · have qcz1 : c1.toInt = 58 := congrArg Int32.toInt cz1
      refine Or.inl (⟨by omega, S0.trans ?_⟩)
      refine XS.iloadN X0.here hx rfl (hb hby d1_0) rfl ?_
      show Steps p.tables e below (s₁.setTop (mkF m 1 #[.val (.int c1)] [(.int c1)])) _
      refine XS.bipush X0.here hx rfl (hb hby d1_1) ?_
      show Steps p.tables e below (s₁.setTop (mkF m 3 #[.val (.int c1)] [(.int (58 : Int32)), (.int c1)])) _
      refine XS.icmpYes X0.here hx rfl (pc0 := 3) (pc' := 197) rfl (hb hby d1_3) rfl (XT.ii_eq_t cz1) (by decide) (by decide) ?_
      exact Steps.refl _
    · have qcz1 : ¬ c1.toInt = 58 := fun q => cz1 (Int32.toInt_inj.mp q)
      refine Or.inr (⟨by omega, S0.trans ?_⟩)
      refine XS.iloadN X0.here hx rfl (hb hby d1_0) rfl ?_
      show Steps p.tables e below (s₁.setTop (mkF m 1 #[.val (.int c1)] [(.int c1)])) _
      refine XS.bipush X0.here hx rfl (hb hby d1_1) ?_
      show Steps p.tables e below (s₁.setTop (mkF m 3 #[.val (.int c1)] [(.int (58 : Int32)), (.int c1)])) _
      refine XS.icmpNo X0.here hx rfl (hb hby d1_3) rfl (XT.ii_eq_f cz1) ?_
      exact Steps.refl _
  rcases D3 with ⟨hf2, S4⟩ | ⟨hf2, S4⟩
  · have S5 : Steps p.tables e below Ω (s₁.setTop (mkF m 202 #[.val (.int c1)] [(.int (1 : Int32))])) := by
      refine S4.trans ?_
      refine XS.iconst X0.here hx rfl (hb hby d1_197) ?_
      show Steps p.tables e below (s₁.setTop (mkF m 198 #[.val (.int c1)] [(.int (1 : Int32))])) _
      refine XS.goto X0.here hx rfl (pc0 := 198) (pc' := 202) rfl (hb hby d1_198) (by decide) (by decide) ?_
      exact Steps.refl _
    obtain ⟨fs, hr, hrun, hended, hW, hsame⟩ := X0.leave (v := some (.int (1 : Int32))) (fun h => by rw [Bd.returns] at h; cases h)
    have hfin : Steps p.tables e below Ω (s₁.setFrames fs) := by
      refine S5.trans ?_
      exact own_retZ X0 hx Bd.returns (by decide) (hb hby d1_202) hr
    rw [hΩ] at hfin
    refine ⟨_, _, hfin, hrun, hended, _, _, rfl, ?_, ⟨_, rfl⟩, hW, hsame.mono (by decide) (by decide)⟩
    show Q1 Z c1 h0 n0 _ s₁.heap _
    rw [e0]
    exact ⟨by rw [own_ns, if_pos (by omega)], N0, rfl⟩
  · have D9 : (((65 ≤ c1.toInt ∧ c1.toInt ≤ 90)) ∧ Steps p.tables e below Ω (s₁.setTop (mkF m 197 #[.val (.int c1)] []))) ∨ ((¬ (65 ≤ c1.toInt ∧ c1.toInt ≤ 90)) ∧ Steps p.tables e below Ω (s₁.setTop (mkF m 18 #[.val (.int c1)] []))) := by
      by_cases cz6 : c1 < (65 : Int32)
      · have qcz6 : c1.toInt < 65 := Int32.lt_iff_toInt_lt.mp cz6
        refine Or.inr (⟨by omega, S4.trans ?_⟩)
        refine XS.iloadN X0.here hx rfl (hb hby d1_6) rfl ?_
        show Steps p.tables e below (s₁.setTop (mkF m 7 #[.val (.int c1)] [(.int c1)])) _
        refine XS.bipush X0.here hx rfl (hb hby d1_7) ?_
        show Steps p.tables e below (s₁.setTop (mkF m 9 #[.val (.int c1)] [(.int (65 : Int32)), (.int c1)])) _
        refine XS.icmpYes X0.here hx rfl (pc0 := 9) (pc' := 18) rfl (hb hby d1_9) rfl (XT.ii_lt_t cz6) (by decide) (by decide) ?_
        exact Steps.refl _
      · have qcz6 : ¬ c1.toInt < 65 := fun q => cz6 (Int32.lt_iff_toInt_lt.mpr q)
        by_cases cz7 : (90 : Int32) < c1
        · have qcz7 : 90 < c1.toInt := Int32.lt_iff_toInt_lt.mp cz7
          refine Or.inr (⟨by omega, S4.trans ?_⟩)
          refine XS.iloadN X0.here hx rfl (hb hby d1_6) rfl ?_
          show Steps p.tables e below (s₁.setTop (mkF m 7 #[.val (.int c1)] [(.int c1)])) _
          refine XS.bipush X0.here hx rfl (hb hby d1_7) ?_
          show Steps p.tables e below (s₁.setTop (mkF m 9 #[.val (.int c1)] [(.int (65 : Int32)), (.int c1)])) _
          refine XS.icmpNo X0.here hx rfl (hb hby d1_9) rfl (XT.ii_lt_f cz6) ?_
          show Steps p.tables e below (s₁.setTop (mkF m 12 #[.val (.int c1)] [])) _
          refine XS.iloadN X0.here hx rfl (hb hby d1_12) rfl ?_
          show Steps p.tables e below (s₁.setTop (mkF m 13 #[.val (.int c1)] [(.int c1)])) _
          refine XS.bipush X0.here hx rfl (hb hby d1_13) ?_
          show Steps p.tables e below (s₁.setTop (mkF m 15 #[.val (.int c1)] [(.int (90 : Int32)), (.int c1)])) _
          refine XS.icmpNo X0.here hx rfl (hb hby d1_15) rfl (XT.ii_le_f cz7) ?_
          exact Steps.refl _
        · have qcz7 : ¬ 90 < c1.toInt := fun q => cz7 (Int32.lt_iff_toInt_lt.mpr q)
          refine Or.inl (⟨by omega, S4.trans ?_⟩)
          refine XS.iloadN X0.here hx rfl (hb hby d1_6) rfl ?_
          show Steps p.tables e below (s₁.setTop (mkF m 7 #[.val (.int c1)] [(.int c1)])) _
          refine XS.bipush X0.here hx rfl (hb hby d1_7) ?_
          show Steps p.tables e below (s₁.setTop (mkF m 9 #[.val (.int c1)] [(.int (65 : Int32)), (.int c1)])) _
          refine XS.icmpNo X0.here hx rfl (hb hby d1_9) rfl (XT.ii_lt_f cz6) ?_
          show Steps p.tables e below (s₁.setTop (mkF m 12 #[.val (.int c1)] [])) _
          refine XS.iloadN X0.here hx rfl (hb hby d1_12) rfl ?_
          show Steps p.tables e below (s₁.setTop (mkF m 13 #[.val (.int c1)] [(.int c1)])) _
          refine XS.bipush X0.here hx rfl (hb hby d1_13) ?_
          show Steps p.tables e below (s₁.setTop (mkF m 15 #[.val (.int c1)] [(.int (90 : Int32)), (.int c1)])) _
          refine XS.icmpYes X0.here hx rfl (pc0 := 15) (pc' := 197) rfl (hb hby d1_15) rfl (XT.ii_le_t cz7) (by decide) (by decide) ?_
          exact Steps.refl _
    rcases D9 with ⟨hf8, S10⟩ | ⟨hf8, S10⟩
    · have S11 : Steps p.tables e below Ω (s₁.setTop (mkF m 202 #[.val (.int c1)] [(.int (1 : Int32))])) := by
        refine S10.trans ?_
        refine XS.iconst X0.here hx rfl (hb hby d1_197) ?_
        show Steps p.tables e below (s₁.setTop (mkF m 198 #[.val (.int c1)] [(.int (1 : Int32))])) _
        refine XS.goto X0.here hx rfl (pc0 := 198) (pc' := 202) rfl (hb hby d1_198) (by decide) (by decide) ?_
        exact Steps.refl _
      obtain ⟨fs, hr, hrun, hended, hW, hsame⟩ := X0.leave (v := some (.int (1 : Int32))) (fun h => by rw [Bd.returns] at h; cases h)
      have hfin : Steps p.tables e below Ω (s₁.setFrames fs) := by
        refine S11.trans ?_
        exact own_retZ X0 hx Bd.returns (by decide) (hb hby d1_202) hr
      rw [hΩ] at hfin
      refine ⟨_, _, hfin, hrun, hended, _, _, rfl, ?_, ⟨_, rfl⟩, hW, hsame.mono (by decide) (by decide)⟩
      show Q1 Z c1 h0 n0 _ s₁.heap _
      rw [e0]
      exact ⟨by rw [own_ns, if_pos (by omega)], N0, rfl⟩
    · have D14 : (((95 ≤ c1.toInt ∧ c1.toInt ≤ 95)) ∧ Steps p.tables e below Ω (s₁.setTop (mkF m 197 #[.val (.int c1)] []))) ∨ ((¬ (95 ≤ c1.toInt ∧ c1.toInt ≤ 95)) ∧ Steps p.tables e below Ω (s₁.setTop (mkF m 24 #[.val (.int c1)] []))) := by
        by_cases cz12 : c1 = (95 : Int32)
        · have qcz12 : c1.toInt = 95 := congrArg Int32.toInt cz12
          refine Or.inl (⟨by omega, S10.trans ?_⟩)
          refine XS.iloadN X0.here hx rfl (hb hby d1_18) rfl ?_
          show Steps p.tables e below (s₁.setTop (mkF m 19 #[.val (.int c1)] [(.int c1)])) _
          refine XS.bipush X0.here hx rfl (hb hby d1_19) ?_
          show Steps p.tables e below (s₁.setTop (mkF m 21 #[.val (.int c1)] [(.int (95 : Int32)), (.int c1)])) _
          refine XS.icmpYes X0.here hx rfl (pc0 := 21) (pc' := 197) rfl (hb hby d1_21) rfl (XT.ii_eq_t cz12) (by decide) (by decide) ?_
          exact Steps.refl _
        · have qcz12 : ¬ c1.toInt = 95 := fun q => cz12 (Int32.toInt_inj.mp q)
          refine Or.inr (⟨by omega, S10.trans ?_⟩)
          refine XS.iloadN X0.here hx rfl (hb hby d1_18) rfl ?_
          show Steps p.tables e below (s₁.setTop (mkF m 19 #[.val (.int c1)] [(.int c1)])) _
          refine XS.bipush X0.here hx rfl (hb hby d1_19) ?_
          show Steps p.tables e below (s₁.setTop (mkF m 21 #[.val (.int c1)] [(.int (95 : Int32)), (.int c1)])) _
          refine XS.icmpNo X0.here hx rfl (hb hby d1_21) rfl (XT.ii_eq_f cz12) ?_
          exact Steps.refl _
      rcases D14 with ⟨hf13, S15⟩ | ⟨hf13, S15⟩
      · have S16 : Steps p.tables e below Ω (s₁.setTop (mkF m 202 #[.val (.int c1)] [(.int (1 : Int32))])) := by
          refine S15.trans ?_
          refine XS.iconst X0.here hx rfl (hb hby d1_197) ?_
          show Steps p.tables e below (s₁.setTop (mkF m 198 #[.val (.int c1)] [(.int (1 : Int32))])) _
          refine XS.goto X0.here hx rfl (pc0 := 198) (pc' := 202) rfl (hb hby d1_198) (by decide) (by decide) ?_
          exact Steps.refl _
        obtain ⟨fs, hr, hrun, hended, hW, hsame⟩ := X0.leave (v := some (.int (1 : Int32))) (fun h => by rw [Bd.returns] at h; cases h)
        have hfin : Steps p.tables e below Ω (s₁.setFrames fs) := by
          refine S16.trans ?_
          exact own_retZ X0 hx Bd.returns (by decide) (hb hby d1_202) hr
        rw [hΩ] at hfin
        refine ⟨_, _, hfin, hrun, hended, _, _, rfl, ?_, ⟨_, rfl⟩, hW, hsame.mono (by decide) (by decide)⟩
        show Q1 Z c1 h0 n0 _ s₁.heap _
        rw [e0]
        exact ⟨by rw [own_ns, if_pos (by omega)], N0, rfl⟩
      · have D20 : (((97 ≤ c1.toInt ∧ c1.toInt ≤ 122)) ∧ Steps p.tables e below Ω (s₁.setTop (mkF m 197 #[.val (.int c1)] []))) ∨ ((¬ (97 ≤ c1.toInt ∧ c1.toInt ≤ 122)) ∧ Steps p.tables e below Ω (s₁.setTop (mkF m 36 #[.val (.int c1)] []))) := by
          by_cases cz17 : c1 < (97 : Int32)
          · have qcz17 : c1.toInt < 97 := Int32.lt_iff_toInt_lt.mp cz17
            refine Or.inr (⟨by omega, S15.trans ?_⟩)
            refine XS.iloadN X0.here hx rfl (hb hby d1_24) rfl ?_
            show Steps p.tables e below (s₁.setTop (mkF m 25 #[.val (.int c1)] [(.int c1)])) _
            refine XS.bipush X0.here hx rfl (hb hby d1_25) ?_
            show Steps p.tables e below (s₁.setTop (mkF m 27 #[.val (.int c1)] [(.int (97 : Int32)), (.int c1)])) _
            refine XS.icmpYes X0.here hx rfl (pc0 := 27) (pc' := 36) rfl (hb hby d1_27) rfl (XT.ii_lt_t cz17) (by decide) (by decide) ?_
            exact Steps.refl _
          · have qcz17 : ¬ c1.toInt < 97 := fun q => cz17 (Int32.lt_iff_toInt_lt.mpr q)
            by_cases cz18 : (122 : Int32) < c1
            · have qcz18 : 122 < c1.toInt := Int32.lt_iff_toInt_lt.mp cz18
              refine Or.inr (⟨by omega, S15.trans ?_⟩)
              refine XS.iloadN X0.here hx rfl (hb hby d1_24) rfl ?_
              show Steps p.tables e below (s₁.setTop (mkF m 25 #[.val (.int c1)] [(.int c1)])) _
              refine XS.bipush X0.here hx rfl (hb hby d1_25) ?_
              show Steps p.tables e below (s₁.setTop (mkF m 27 #[.val (.int c1)] [(.int (97 : Int32)), (.int c1)])) _
              refine XS.icmpNo X0.here hx rfl (hb hby d1_27) rfl (XT.ii_lt_f cz17) ?_
              show Steps p.tables e below (s₁.setTop (mkF m 30 #[.val (.int c1)] [])) _
              refine XS.iloadN X0.here hx rfl (hb hby d1_30) rfl ?_
              show Steps p.tables e below (s₁.setTop (mkF m 31 #[.val (.int c1)] [(.int c1)])) _
              refine XS.bipush X0.here hx rfl (hb hby d1_31) ?_
              show Steps p.tables e below (s₁.setTop (mkF m 33 #[.val (.int c1)] [(.int (122 : Int32)), (.int c1)])) _
              refine XS.icmpNo X0.here hx rfl (hb hby d1_33) rfl (XT.ii_le_f cz18) ?_
              exact Steps.refl _
            · have qcz18 : ¬ 122 < c1.toInt := fun q => cz18 (Int32.lt_iff_toInt_lt.mpr q)
              refine Or.inl (⟨by omega, S15.trans ?_⟩)
              refine XS.iloadN X0.here hx rfl (hb hby d1_24) rfl ?_
              show Steps p.tables e below (s₁.setTop (mkF m 25 #[.val (.int c1)] [(.int c1)])) _
              refine XS.bipush X0.here hx rfl (hb hby d1_25) ?_
              show Steps p.tables e below (s₁.setTop (mkF m 27 #[.val (.int c1)] [(.int (97 : Int32)), (.int c1)])) _
              refine XS.icmpNo X0.here hx rfl (hb hby d1_27) rfl (XT.ii_lt_f cz17) ?_
              show Steps p.tables e below (s₁.setTop (mkF m 30 #[.val (.int c1)] [])) _
              refine XS.iloadN X0.here hx rfl (hb hby d1_30) rfl ?_
              show Steps p.tables e below (s₁.setTop (mkF m 31 #[.val (.int c1)] [(.int c1)])) _
              refine XS.bipush X0.here hx rfl (hb hby d1_31) ?_
              show Steps p.tables e below (s₁.setTop (mkF m 33 #[.val (.int c1)] [(.int (122 : Int32)), (.int c1)])) _
              refine XS.icmpYes X0.here hx rfl (pc0 := 33) (pc' := 197) rfl (hb hby d1_33) rfl (XT.ii_le_t cz18) (by decide) (by decide) ?_
              exact Steps.refl _
        rcases D20 with ⟨hf19, S21⟩ | ⟨hf19, S21⟩
        · have S22 : Steps p.tables e below Ω (s₁.setTop (mkF m 202 #[.val (.int c1)] [(.int (1 : Int32))])) := by
            refine S21.trans ?_
            refine XS.iconst X0.here hx rfl (hb hby d1_197) ?_
            show Steps p.tables e below (s₁.setTop (mkF m 198 #[.val (.int c1)] [(.int (1 : Int32))])) _
            refine XS.goto X0.here hx rfl (pc0 := 198) (pc' := 202) rfl (hb hby d1_198) (by decide) (by decide) ?_
            exact Steps.refl _
          obtain ⟨fs, hr, hrun, hended, hW, hsame⟩ := X0.leave (v := some (.int (1 : Int32))) (fun h => by rw [Bd.returns] at h; cases h)
          have hfin : Steps p.tables e below Ω (s₁.setFrames fs) := by
            refine S22.trans ?_
            exact own_retZ X0 hx Bd.returns (by decide) (hb hby d1_202) hr
          rw [hΩ] at hfin
          refine ⟨_, _, hfin, hrun, hended, _, _, rfl, ?_, ⟨_, rfl⟩, hW, hsame.mono (by decide) (by decide)⟩
          show Q1 Z c1 h0 n0 _ s₁.heap _
          rw [e0]
          exact ⟨by rw [own_ns, if_pos (by omega)], N0, rfl⟩
        · have D26 : (((192 ≤ c1.toInt ∧ c1.toInt ≤ 214)) ∧ Steps p.tables e below Ω (s₁.setTop (mkF m 197 #[.val (.int c1)] []))) ∨ ((¬ (192 ≤ c1.toInt ∧ c1.toInt ≤ 214)) ∧ Steps p.tables e below Ω (s₁.setTop (mkF m 50 #[.val (.int c1)] []))) := by
            by_cases cz23 : c1 < (192 : Int32)
            · have qcz23 : c1.toInt < 192 := Int32.lt_iff_toInt_lt.mp cz23
              refine Or.inr (⟨by omega, S21.trans ?_⟩)
              refine XS.iloadN X0.here hx rfl (hb hby d1_36) rfl ?_
              show Steps p.tables e below (s₁.setTop (mkF m 37 #[.val (.int c1)] [(.int c1)])) _
              refine XS.sipush X0.here hx rfl (hb hby d1_37) ?_
              show Steps p.tables e below (s₁.setTop (mkF m 40 #[.val (.int c1)] [(.int (192 : Int32)), (.int c1)])) _
              refine XS.icmpYes X0.here hx rfl (pc0 := 40) (pc' := 50) rfl (hb hby d1_40) rfl (XT.ii_lt_t cz23) (by decide) (by decide) ?_
              exact Steps.refl _
            · have qcz23 : ¬ c1.toInt < 192 := fun q => cz23 (Int32.lt_iff_toInt_lt.mpr q)
              by_cases cz24 : (214 : Int32) < c1
              · have qcz24 : 214 < c1.toInt := Int32.lt_iff_toInt_lt.mp cz24
                refine Or.inr (⟨by omega, S21.trans ?_⟩)
                refine XS.iloadN X0.here hx rfl (hb hby d1_36) rfl ?_
                show Steps p.tables e below (s₁.setTop (mkF m 37 #[.val (.int c1)] [(.int c1)])) _
                refine XS.sipush X0.here hx rfl (hb hby d1_37) ?_
                show Steps p.tables e below (s₁.setTop (mkF m 40 #[.val (.int c1)] [(.int (192 : Int32)), (.int c1)])) _
                refine XS.icmpNo X0.here hx rfl (hb hby d1_40) rfl (XT.ii_lt_f cz23) ?_
                show Steps p.tables e below (s₁.setTop (mkF m 43 #[.val (.int c1)] [])) _
                refine XS.iloadN X0.here hx rfl (hb hby d1_43) rfl ?_
                show Steps p.tables e below (s₁.setTop (mkF m 44 #[.val (.int c1)] [(.int c1)])) _
                refine XS.sipush X0.here hx rfl (hb hby d1_44) ?_
                show Steps p.tables e below (s₁.setTop (mkF m 47 #[.val (.int c1)] [(.int (214 : Int32)), (.int c1)])) _
                refine XS.icmpNo X0.here hx rfl (hb hby d1_47) rfl (XT.ii_le_f cz24) ?_
                exact Steps.refl _
              · have qcz24 : ¬ 214 < c1.toInt := fun q => cz24 (Int32.lt_iff_toInt_lt.mpr q)
                refine Or.inl (⟨by omega, S21.trans ?_⟩)
                refine XS.iloadN X0.here hx rfl (hb hby d1_36) rfl ?_
                show Steps p.tables e below (s₁.setTop (mkF m 37 #[.val (.int c1)] [(.int c1)])) _
                refine XS.sipush X0.here hx rfl (hb hby d1_37) ?_
                show Steps p.tables e below (s₁.setTop (mkF m 40 #[.val (.int c1)] [(.int (192 : Int32)), (.int c1)])) _
                refine XS.icmpNo X0.here hx rfl (hb hby d1_40) rfl (XT.ii_lt_f cz23) ?_
                show Steps p.tables e below (s₁.setTop (mkF m 43 #[.val (.int c1)] [])) _
                refine XS.iloadN X0.here hx rfl (hb hby d1_43) rfl ?_
                show Steps p.tables e below (s₁.setTop (mkF m 44 #[.val (.int c1)] [(.int c1)])) _
                refine XS.sipush X0.here hx rfl (hb hby d1_44) ?_
                show Steps p.tables e below (s₁.setTop (mkF m 47 #[.val (.int c1)] [(.int (214 : Int32)), (.int c1)])) _
                refine XS.icmpYes X0.here hx rfl (pc0 := 47) (pc' := 197) rfl (hb hby d1_47) rfl (XT.ii_le_t cz24) (by decide) (by decide) ?_
                exact Steps.refl _
          rcases D26 with ⟨hf25, S27⟩ | ⟨hf25, S27⟩
          · have S28 : Steps p.tables e below Ω (s₁.setTop (mkF m 202 #[.val (.int c1)] [(.int (1 : Int32))])) := by
              refine S27.trans ?_
              refine XS.iconst X0.here hx rfl (hb hby d1_197) ?_
              show Steps p.tables e below (s₁.setTop (mkF m 198 #[.val (.int c1)] [(.int (1 : Int32))])) _
              refine XS.goto X0.here hx rfl (pc0 := 198) (pc' := 202) rfl (hb hby d1_198) (by decide) (by decide) ?_
              exact Steps.refl _
            obtain ⟨fs, hr, hrun, hended, hW, hsame⟩ := X0.leave (v := some (.int (1 : Int32))) (fun h => by rw [Bd.returns] at h; cases h)
            have hfin : Steps p.tables e below Ω (s₁.setFrames fs) := by
              refine S28.trans ?_
              exact own_retZ X0 hx Bd.returns (by decide) (hb hby d1_202) hr
            rw [hΩ] at hfin
            refine ⟨_, _, hfin, hrun, hended, _, _, rfl, ?_, ⟨_, rfl⟩, hW, hsame.mono (by decide) (by decide)⟩
            show Q1 Z c1 h0 n0 _ s₁.heap _
            rw [e0]
            exact ⟨by rw [own_ns, if_pos (by omega)], N0, rfl⟩
          · have D32 : (((216 ≤ c1.toInt ∧ c1.toInt ≤ 246)) ∧ Steps p.tables e below Ω (s₁.setTop (mkF m 197 #[.val (.int c1)] []))) ∨ ((¬ (216 ≤ c1.toInt ∧ c1.toInt ≤ 246)) ∧ Steps p.tables e below Ω (s₁.setTop (mkF m 64 #[.val (.int c1)] []))) := by
              by_cases cz29 : c1 < (216 : Int32)
              · have qcz29 : c1.toInt < 216 := Int32.lt_iff_toInt_lt.mp cz29
                refine Or.inr (⟨by omega, S27.trans ?_⟩)
                refine XS.iloadN X0.here hx rfl (hb hby d1_50) rfl ?_
                show Steps p.tables e below (s₁.setTop (mkF m 51 #[.val (.int c1)] [(.int c1)])) _
                refine XS.sipush X0.here hx rfl (hb hby d1_51) ?_
                show Steps p.tables e below (s₁.setTop (mkF m 54 #[.val (.int c1)] [(.int (216 : Int32)), (.int c1)])) _
                refine XS.icmpYes X0.here hx rfl (pc0 := 54) (pc' := 64) rfl (hb hby d1_54) rfl (XT.ii_lt_t cz29) (by decide) (by decide) ?_
                exact Steps.refl _
              · have qcz29 : ¬ c1.toInt < 216 := fun q => cz29 (Int32.lt_iff_toInt_lt.mpr q)
                by_cases cz30 : (246 : Int32) < c1
                · have qcz30 : 246 < c1.toInt := Int32.lt_iff_toInt_lt.mp cz30
                  refine Or.inr (⟨by omega, S27.trans ?_⟩)
                  refine XS.iloadN X0.here hx rfl (hb hby d1_50) rfl ?_
                  show Steps p.tables e below (s₁.setTop (mkF m 51 #[.val (.int c1)] [(.int c1)])) _
                  refine XS.sipush X0.here hx rfl (hb hby d1_51) ?_
                  show Steps p.tables e below (s₁.setTop (mkF m 54 #[.val (.int c1)] [(.int (216 : Int32)), (.int c1)])) _
                  refine XS.icmpNo X0.here hx rfl (hb hby d1_54) rfl (XT.ii_lt_f cz29) ?_
                  show Steps p.tables e below (s₁.setTop (mkF m 57 #[.val (.int c1)] [])) _
                  refine XS.iloadN X0.here hx rfl (hb hby d1_57) rfl ?_
                  show Steps p.tables e below (s₁.setTop (mkF m 58 #[.val (.int c1)] [(.int c1)])) _
                  refine XS.sipush X0.here hx rfl (hb hby d1_58) ?_
                  show Steps p.tables e below (s₁.setTop (mkF m 61 #[.val (.int c1)] [(.int (246 : Int32)), (.int c1)])) _
                  refine XS.icmpNo X0.here hx rfl (hb hby d1_61) rfl (XT.ii_le_f cz30) ?_
                  exact Steps.refl _
                · have qcz30 : ¬ 246 < c1.toInt := fun q => cz30 (Int32.lt_iff_toInt_lt.mpr q)
                  refine Or.inl (⟨by omega, S27.trans ?_⟩)
                  refine XS.iloadN X0.here hx rfl (hb hby d1_50) rfl ?_
                  show Steps p.tables e below (s₁.setTop (mkF m 51 #[.val (.int c1)] [(.int c1)])) _
                  refine XS.sipush X0.here hx rfl (hb hby d1_51) ?_
                  show Steps p.tables e below (s₁.setTop (mkF m 54 #[.val (.int c1)] [(.int (216 : Int32)), (.int c1)])) _
                  refine XS.icmpNo X0.here hx rfl (hb hby d1_54) rfl (XT.ii_lt_f cz29) ?_
                  show Steps p.tables e below (s₁.setTop (mkF m 57 #[.val (.int c1)] [])) _
                  refine XS.iloadN X0.here hx rfl (hb hby d1_57) rfl ?_
                  show Steps p.tables e below (s₁.setTop (mkF m 58 #[.val (.int c1)] [(.int c1)])) _
                  refine XS.sipush X0.here hx rfl (hb hby d1_58) ?_
                  show Steps p.tables e below (s₁.setTop (mkF m 61 #[.val (.int c1)] [(.int (246 : Int32)), (.int c1)])) _
                  refine XS.icmpYes X0.here hx rfl (pc0 := 61) (pc' := 197) rfl (hb hby d1_61) rfl (XT.ii_le_t cz30) (by decide) (by decide) ?_
                  exact Steps.refl _
            rcases D32 with ⟨hf31, S33⟩ | ⟨hf31, S33⟩
            · have S34 : Steps p.tables e below Ω (s₁.setTop (mkF m 202 #[.val (.int c1)] [(.int (1 : Int32))])) := by
                refine S33.trans ?_
                refine XS.iconst X0.here hx rfl (hb hby d1_197) ?_
                show Steps p.tables e below (s₁.setTop (mkF m 198 #[.val (.int c1)] [(.int (1 : Int32))])) _
                refine XS.goto X0.here hx rfl (pc0 := 198) (pc' := 202) rfl (hb hby d1_198) (by decide) (by decide) ?_
                exact Steps.refl _
              obtain ⟨fs, hr, hrun, hended, hW, hsame⟩ := X0.leave (v := some (.int (1 : Int32))) (fun h => by rw [Bd.returns] at h; cases h)
              have hfin : Steps p.tables e below Ω (s₁.setFrames fs) := by
                refine S34.trans ?_
                exact own_retZ X0 hx Bd.returns (by decide) (hb hby d1_202) hr
              rw [hΩ] at hfin
              refine ⟨_, _, hfin, hrun, hended, _, _, rfl, ?_, ⟨_, rfl⟩, hW, hsame.mono (by decide) (by decide)⟩
              show Q1 Z c1 h0 n0 _ s₁.heap _
              rw [e0]
              exact ⟨by rw [own_ns, if_pos (by omega)], N0, rfl⟩
            · have D38 : (((248 ≤ c1.toInt ∧ c1.toInt ≤ 767)) ∧ Steps p.tables e below Ω (s₁.setTop (mkF m 197 #[.val (.int c1)] []))) ∨ ((¬ (248 ≤ c1.toInt ∧ c1.toInt ≤ 767)) ∧ Steps p.tables e below Ω (s₁.setTop (mkF m 78 #[.val (.int c1)] []))) := by
                by_cases cz35 : c1 < (248 : Int32)
                · have qcz35 : c1.toInt < 248 := Int32.lt_iff_toInt_lt.mp cz35
                  refine Or.inr (⟨by omega, S33.trans ?_⟩)
                  refine XS.iloadN X0.here hx rfl (hb hby d1_64) rfl ?_
                  show Steps p.tables e below (s₁.setTop (mkF m 65 #[.val (.int c1)] [(.int c1)])) _
                  refine XS.sipush X0.here hx rfl (hb hby d1_65) ?_
                  show Steps p.tables e below (s₁.setTop (mkF m 68 #[.val (.int c1)] [(.int (248 : Int32)), (.int c1)])) _
                  refine XS.icmpYes X0.here hx rfl (pc0 := 68) (pc' := 78) rfl (hb hby d1_68) rfl (XT.ii_lt_t cz35) (by decide) (by decide) ?_
                  exact Steps.refl _
                · have qcz35 : ¬ c1.toInt < 248 := fun q => cz35 (Int32.lt_iff_toInt_lt.mpr q)
                  by_cases cz36 : (767 : Int32) < c1
                  · have qcz36 : 767 < c1.toInt := Int32.lt_iff_toInt_lt.mp cz36
                    refine Or.inr (⟨by omega, S33.trans ?_⟩)
                    refine XS.iloadN X0.here hx rfl (hb hby d1_64) rfl ?_
                    show Steps p.tables e below (s₁.setTop (mkF m 65 #[.val (.int c1)] [(.int c1)])) _
                    refine XS.sipush X0.here hx rfl (hb hby d1_65) ?_
                    show Steps p.tables e below (s₁.setTop (mkF m 68 #[.val (.int c1)] [(.int (248 : Int32)), (.int c1)])) _
                    refine XS.icmpNo X0.here hx rfl (hb hby d1_68) rfl (XT.ii_lt_f cz35) ?_
                    show Steps p.tables e below (s₁.setTop (mkF m 71 #[.val (.int c1)] [])) _
                    refine XS.iloadN X0.here hx rfl (hb hby d1_71) rfl ?_
                    show Steps p.tables e below (s₁.setTop (mkF m 72 #[.val (.int c1)] [(.int c1)])) _
                    refine XS.sipush X0.here hx rfl (hb hby d1_72) ?_
                    show Steps p.tables e below (s₁.setTop (mkF m 75 #[.val (.int c1)] [(.int (767 : Int32)), (.int c1)])) _
                    refine XS.icmpNo X0.here hx rfl (hb hby d1_75) rfl (XT.ii_le_f cz36) ?_
                    exact Steps.refl _
                  · have qcz36 : ¬ 767 < c1.toInt := fun q => cz36 (Int32.lt_iff_toInt_lt.mpr q)
                    refine Or.inl (⟨by omega, S33.trans ?_⟩)
                    refine XS.iloadN X0.here hx rfl (hb hby d1_64) rfl ?_
                    show Steps p.tables e below (s₁.setTop (mkF m 65 #[.val (.int c1)] [(.int c1)])) _
                    refine XS.sipush X0.here hx rfl (hb hby d1_65) ?_
                    show Steps p.tables e below (s₁.setTop (mkF m 68 #[.val (.int c1)] [(.int (248 : Int32)), (.int c1)])) _
                    refine XS.icmpNo X0.here hx rfl (hb hby d1_68) rfl (XT.ii_lt_f cz35) ?_
                    show Steps p.tables e below (s₁.setTop (mkF m 71 #[.val (.int c1)] [])) _
                    refine XS.iloadN X0.here hx rfl (hb hby d1_71) rfl ?_
                    show Steps p.tables e below (s₁.setTop (mkF m 72 #[.val (.int c1)] [(.int c1)])) _
                    refine XS.sipush X0.here hx rfl (hb hby d1_72) ?_
                    show Steps p.tables e below (s₁.setTop (mkF m 75 #[.val (.int c1)] [(.int (767 : Int32)), (.int c1)])) _
                    refine XS.icmpYes X0.here hx rfl (pc0 := 75) (pc' := 197) rfl (hb hby d1_75) rfl (XT.ii_le_t cz36) (by decide) (by decide) ?_
                    exact Steps.refl _
              rcases D38 with ⟨hf37, S39⟩ | ⟨hf37, S39⟩
              · have S40 : Steps p.tables e below Ω (s₁.setTop (mkF m 202 #[.val (.int c1)] [(.int (1 : Int32))])) := by
                  refine S39.trans ?_
                  refine XS.iconst X0.here hx rfl (hb hby d1_197) ?_
                  show Steps p.tables e below (s₁.setTop (mkF m 198 #[.val (.int c1)] [(.int (1 : Int32))])) _
                  refine XS.goto X0.here hx rfl (pc0 := 198) (pc' := 202) rfl (hb hby d1_198) (by decide) (by decide) ?_
                  exact Steps.refl _
                obtain ⟨fs, hr, hrun, hended, hW, hsame⟩ := X0.leave (v := some (.int (1 : Int32))) (fun h => by rw [Bd.returns] at h; cases h)
                have hfin : Steps p.tables e below Ω (s₁.setFrames fs) := by
                  refine S40.trans ?_
                  exact own_retZ X0 hx Bd.returns (by decide) (hb hby d1_202) hr
                rw [hΩ] at hfin
                refine ⟨_, _, hfin, hrun, hended, _, _, rfl, ?_, ⟨_, rfl⟩, hW, hsame.mono (by decide) (by decide)⟩
                show Q1 Z c1 h0 n0 _ s₁.heap _
                rw [e0]
                exact ⟨by rw [own_ns, if_pos (by omega)], N0, rfl⟩
              · have D44 : (((880 ≤ c1.toInt ∧ c1.toInt ≤ 893)) ∧ Steps p.tables e below Ω (s₁.setTop (mkF m 197 #[.val (.int c1)] []))) ∨ ((¬ (880 ≤ c1.toInt ∧ c1.toInt ≤ 893)) ∧ Steps p.tables e below Ω (s₁.setTop (mkF m 92 #[.val (.int c1)] []))) := by
                  by_cases cz41 : c1 < (880 : Int32)
                  · have qcz41 : c1.toInt < 880 := Int32.lt_iff_toInt_lt.mp cz41
                    refine Or.inr (⟨by omega, S39.trans ?_⟩)
                    refine XS.iloadN X0.here hx rfl (hb hby d1_78) rfl ?_
                    show Steps p.tables e below (s₁.setTop (mkF m 79 #[.val (.int c1)] [(.int c1)])) _
                    refine XS.sipush X0.here hx rfl (hb hby d1_79) ?_
                    show Steps p.tables e below (s₁.setTop (mkF m 82 #[.val (.int c1)] [(.int (880 : Int32)), (.int c1)])) _
                    refine XS.icmpYes X0.here hx rfl (pc0 := 82) (pc' := 92) rfl (hb hby d1_82) rfl (XT.ii_lt_t cz41) (by decide) (by decide) ?_
                    exact Steps.refl _
                  · have qcz41 : ¬ c1.toInt < 880 := fun q => cz41 (Int32.lt_iff_toInt_lt.mpr q)
                    by_cases cz42 : (893 : Int32) < c1
                    · have qcz42 : 893 < c1.toInt := Int32.lt_iff_toInt_lt.mp cz42
                      refine Or.inr (⟨by omega, S39.trans ?_⟩)
                      refine XS.iloadN X0.here hx rfl (hb hby d1_78) rfl ?_
                      show Steps p.tables e below (s₁.setTop (mkF m 79 #[.val (.int c1)] [(.int c1)])) _
                      refine XS.sipush X0.here hx rfl (hb hby d1_79) ?_
                      show Steps p.tables e below (s₁.setTop (mkF m 82 #[.val (.int c1)] [(.int (880 : Int32)), (.int c1)])) _
                      refine XS.icmpNo X0.here hx rfl (hb hby d1_82) rfl (XT.ii_lt_f cz41) ?_
                      show Steps p.tables e below (s₁.setTop (mkF m 85 #[.val (.int c1)] [])) _
                      refine XS.iloadN X0.here hx rfl (hb hby d1_85) rfl ?_
                      show Steps p.tables e below (s₁.setTop (mkF m 86 #[.val (.int c1)] [(.int c1)])) _
                      refine XS.sipush X0.here hx rfl (hb hby d1_86) ?_
                      show Steps p.tables e below (s₁.setTop (mkF m 89 #[.val (.int c1)] [(.int (893 : Int32)), (.int c1)])) _
                      refine XS.icmpNo X0.here hx rfl (hb hby d1_89) rfl (XT.ii_le_f cz42) ?_
                      exact Steps.refl _
                    · have qcz42 : ¬ 893 < c1.toInt := fun q => cz42 (Int32.lt_iff_toInt_lt.mpr q)
                      refine Or.inl (⟨by omega, S39.trans ?_⟩)
                      refine XS.iloadN X0.here hx rfl (hb hby d1_78) rfl ?_
                      show Steps p.tables e below (s₁.setTop (mkF m 79 #[.val (.int c1)] [(.int c1)])) _
                      refine XS.sipush X0.here hx rfl (hb hby d1_79) ?_
                      show Steps p.tables e below (s₁.setTop (mkF m 82 #[.val (.int c1)] [(.int (880 : Int32)), (.int c1)])) _
                      refine XS.icmpNo X0.here hx rfl (hb hby d1_82) rfl (XT.ii_lt_f cz41) ?_
                      show Steps p.tables e below (s₁.setTop (mkF m 85 #[.val (.int c1)] [])) _
                      refine XS.iloadN X0.here hx rfl (hb hby d1_85) rfl ?_
                      show Steps p.tables e below (s₁.setTop (mkF m 86 #[.val (.int c1)] [(.int c1)])) _
                      refine XS.sipush X0.here hx rfl (hb hby d1_86) ?_
                      show Steps p.tables e below (s₁.setTop (mkF m 89 #[.val (.int c1)] [(.int (893 : Int32)), (.int c1)])) _
                      refine XS.icmpYes X0.here hx rfl (pc0 := 89) (pc' := 197) rfl (hb hby d1_89) rfl (XT.ii_le_t cz42) (by decide) (by decide) ?_
                      exact Steps.refl _
                rcases D44 with ⟨hf43, S45⟩ | ⟨hf43, S45⟩
                · have S46 : Steps p.tables e below Ω (s₁.setTop (mkF m 202 #[.val (.int c1)] [(.int (1 : Int32))])) := by
                    refine S45.trans ?_
                    refine XS.iconst X0.here hx rfl (hb hby d1_197) ?_
                    show Steps p.tables e below (s₁.setTop (mkF m 198 #[.val (.int c1)] [(.int (1 : Int32))])) _
                    refine XS.goto X0.here hx rfl (pc0 := 198) (pc' := 202) rfl (hb hby d1_198) (by decide) (by decide) ?_
                    exact Steps.refl _
                  obtain ⟨fs, hr, hrun, hended, hW, hsame⟩ := X0.leave (v := some (.int (1 : Int32))) (fun h => by rw [Bd.returns] at h; cases h)
                  have hfin : Steps p.tables e below Ω (s₁.setFrames fs) := by
                    refine S46.trans ?_
                    exact own_retZ X0 hx Bd.returns (by decide) (hb hby d1_202) hr
                  rw [hΩ] at hfin
                  refine ⟨_, _, hfin, hrun, hended, _, _, rfl, ?_, ⟨_, rfl⟩, hW, hsame.mono (by decide) (by decide)⟩
                  show Q1 Z c1 h0 n0 _ s₁.heap _
                  rw [e0]
                  exact ⟨by rw [own_ns, if_pos (by omega)], N0, rfl⟩
                · have D50 : (((895 ≤ c1.toInt ∧ c1.toInt ≤ 8191)) ∧ Steps p.tables e below Ω (s₁.setTop (mkF m 197 #[.val (.int c1)] []))) ∨ ((¬ (895 ≤ c1.toInt ∧ c1.toInt ≤ 8191)) ∧ Steps p.tables e below Ω (s₁.setTop (mkF m 106 #[.val (.int c1)] []))) := by
                    by_cases cz47 : c1 < (895 : Int32)
                    · have qcz47 : c1.toInt < 895 := Int32.lt_iff_toInt_lt.mp cz47
                      refine Or.inr (⟨by omega, S45.trans ?_⟩)
                      refine XS.iloadN X0.here hx rfl (hb hby d1_92) rfl ?_
                      show Steps p.tables e below (s₁.setTop (mkF m 93 #[.val (.int c1)] [(.int c1)])) _
                      refine XS.sipush X0.here hx rfl (hb hby d1_93) ?_
                      show Steps p.tables e below (s₁.setTop (mkF m 96 #[.val (.int c1)] [(.int (895 : Int32)), (.int c1)])) _
                      refine XS.icmpYes X0.here hx rfl (pc0 := 96) (pc' := 106) rfl (hb hby d1_96) rfl (XT.ii_lt_t cz47) (by decide) (by decide) ?_
                      exact Steps.refl _
                    · have qcz47 : ¬ c1.toInt < 895 := fun q => cz47 (Int32.lt_iff_toInt_lt.mpr q)
                      by_cases cz48 : (8191 : Int32) < c1
                      · have qcz48 : 8191 < c1.toInt := Int32.lt_iff_toInt_lt.mp cz48
                        refine Or.inr (⟨by omega, S45.trans ?_⟩)
                        refine XS.iloadN X0.here hx rfl (hb hby d1_92) rfl ?_
                        show Steps p.tables e below (s₁.setTop (mkF m 93 #[.val (.int c1)] [(.int c1)])) _
                        refine XS.sipush X0.here hx rfl (hb hby d1_93) ?_
                        show Steps p.tables e below (s₁.setTop (mkF m 96 #[.val (.int c1)] [(.int (895 : Int32)), (.int c1)])) _
                        refine XS.icmpNo X0.here hx rfl (hb hby d1_96) rfl (XT.ii_lt_f cz47) ?_
                        show Steps p.tables e below (s₁.setTop (mkF m 99 #[.val (.int c1)] [])) _
                        refine XS.iloadN X0.here hx rfl (hb hby d1_99) rfl ?_
                        show Steps p.tables e below (s₁.setTop (mkF m 100 #[.val (.int c1)] [(.int c1)])) _
                        refine XS.sipush X0.here hx rfl (hb hby d1_100) ?_
                        show Steps p.tables e below (s₁.setTop (mkF m 103 #[.val (.int c1)] [(.int (8191 : Int32)), (.int c1)])) _
                        refine XS.icmpNo X0.here hx rfl (hb hby d1_103) rfl (XT.ii_le_f cz48) ?_
                        exact Steps.refl _
                      · have qcz48 : ¬ 8191 < c1.toInt := fun q => cz48 (Int32.lt_iff_toInt_lt.mpr q)
                        refine Or.inl (⟨by omega, S45.trans ?_⟩)
                        refine XS.iloadN X0.here hx rfl (hb hby d1_92) rfl ?_
                        show Steps p.tables e below (s₁.setTop (mkF m 93 #[.val (.int c1)] [(.int c1)])) _
                        refine XS.sipush X0.here hx rfl (hb hby d1_93) ?_
                        show Steps p.tables e below (s₁.setTop (mkF m 96 #[.val (.int c1)] [(.int (895 : Int32)), (.int c1)])) _
                        refine XS.icmpNo X0.here hx rfl (hb hby d1_96) rfl (XT.ii_lt_f cz47) ?_
                        show Steps p.tables e below (s₁.setTop (mkF m 99 #[.val (.int c1)] [])) _
                        refine XS.iloadN X0.here hx rfl (hb hby d1_99) rfl ?_
                        show Steps p.tables e below (s₁.setTop (mkF m 100 #[.val (.int c1)] [(.int c1)])) _
                        refine XS.sipush X0.here hx rfl (hb hby d1_100) ?_
                        show Steps p.tables e below (s₁.setTop (mkF m 103 #[.val (.int c1)] [(.int (8191 : Int32)), (.int c1)])) _
                        refine XS.icmpYes X0.here hx rfl (pc0 := 103) (pc' := 197) rfl (hb hby d1_103) rfl (XT.ii_le_t cz48) (by decide) (by decide) ?_
                        exact Steps.refl _
                  rcases D50 with ⟨hf49, S51⟩ | ⟨hf49, S51⟩
                  · have S52 : Steps p.tables e below Ω (s₁.setTop (mkF m 202 #[.val (.int c1)] [(.int (1 : Int32))])) := by
                      refine S51.trans ?_
                      refine XS.iconst X0.here hx rfl (hb hby d1_197) ?_
                      show Steps p.tables e below (s₁.setTop (mkF m 198 #[.val (.int c1)] [(.int (1 : Int32))])) _
                      refine XS.goto X0.here hx rfl (pc0 := 198) (pc' := 202) rfl (hb hby d1_198) (by decide) (by decide) ?_
                      exact Steps.refl _
                    obtain ⟨fs, hr, hrun, hended, hW, hsame⟩ := X0.leave (v := some (.int (1 : Int32))) (fun h => by rw [Bd.returns] at h; cases h)
                    have hfin : Steps p.tables e below Ω (s₁.setFrames fs) := by
                      refine S52.trans ?_
                      exact own_retZ X0 hx Bd.returns (by decide) (hb hby d1_202) hr
                    rw [hΩ] at hfin
                    refine ⟨_, _, hfin, hrun, hended, _, _, rfl, ?_, ⟨_, rfl⟩, hW, hsame.mono (by decide) (by decide)⟩
                    show Q1 Z c1 h0 n0 _ s₁.heap _
                    rw [e0]
                    exact ⟨by rw [own_ns, if_pos (by omega)], N0, rfl⟩
                  · have D56 : (((8204 ≤ c1.toInt ∧ c1.toInt ≤ 8205)) ∧ Steps p.tables e below Ω (s₁.setTop (mkF m 197 #[.val (.int c1)] []))) ∨ ((¬ (8204 ≤ c1.toInt ∧ c1.toInt ≤ 8205)) ∧ Steps p.tables e below Ω (s₁.setTop (mkF m 120 #[.val (.int c1)] []))) := by
                      by_cases cz53 : c1 < (8204 : Int32)
                      · have qcz53 : c1.toInt < 8204 := Int32.lt_iff_toInt_lt.mp cz53
                        refine Or.inr (⟨by omega, S51.trans ?_⟩)
                        refine XS.iloadN X0.here hx rfl (hb hby d1_106) rfl ?_
                        show Steps p.tables e below (s₁.setTop (mkF m 107 #[.val (.int c1)] [(.int c1)])) _
                        refine XS.sipush X0.here hx rfl (hb hby d1_107) ?_
                        show Steps p.tables e below (s₁.setTop (mkF m 110 #[.val (.int c1)] [(.int (8204 : Int32)), (.int c1)])) _
                        refine XS.icmpYes X0.here hx rfl (pc0 := 110) (pc' := 120) rfl (hb hby d1_110) rfl (XT.ii_lt_t cz53) (by decide) (by decide) ?_
                        exact Steps.refl _
                      · have qcz53 : ¬ c1.toInt < 8204 := fun q => cz53 (Int32.lt_iff_toInt_lt.mpr q)
                        by_cases cz54 : (8205 : Int32) < c1
                        · have qcz54 : 8205 < c1.toInt := Int32.lt_iff_toInt_lt.mp cz54
                          refine Or.inr (⟨by omega, S51.trans ?_⟩)
                          refine XS.iloadN X0.here hx rfl (hb hby d1_106) rfl ?_
                          show Steps p.tables e below (s₁.setTop (mkF m 107 #[.val (.int c1)] [(.int c1)])) _
                          refine XS.sipush X0.here hx rfl (hb hby d1_107) ?_
                          show Steps p.tables e below (s₁.setTop (mkF m 110 #[.val (.int c1)] [(.int (8204 : Int32)), (.int c1)])) _
                          refine XS.icmpNo X0.here hx rfl (hb hby d1_110) rfl (XT.ii_lt_f cz53) ?_
                          show Steps p.tables e below (s₁.setTop (mkF m 113 #[.val (.int c1)] [])) _
                          refine XS.iloadN X0.here hx rfl (hb hby d1_113) rfl ?_
                          show Steps p.tables e below (s₁.setTop (mkF m 114 #[.val (.int c1)] [(.int c1)])) _
                          refine XS.sipush X0.here hx rfl (hb hby d1_114) ?_
                          show Steps p.tables e below (s₁.setTop (mkF m 117 #[.val (.int c1)] [(.int (8205 : Int32)), (.int c1)])) _
                          refine XS.icmpNo X0.here hx rfl (hb hby d1_117) rfl (XT.ii_le_f cz54) ?_
                          exact Steps.refl _
                        · have qcz54 : ¬ 8205 < c1.toInt := fun q => cz54 (Int32.lt_iff_toInt_lt.mpr q)
                          refine Or.inl (⟨by omega, S51.trans ?_⟩)
                          refine XS.iloadN X0.here hx rfl (hb hby d1_106) rfl ?_
                          show Steps p.tables e below (s₁.setTop (mkF m 107 #[.val (.int c1)] [(.int c1)])) _
                          refine XS.sipush X0.here hx rfl (hb hby d1_107) ?_
                          show Steps p.tables e below (s₁.setTop (mkF m 110 #[.val (.int c1)] [(.int (8204 : Int32)), (.int c1)])) _
                          refine XS.icmpNo X0.here hx rfl (hb hby d1_110) rfl (XT.ii_lt_f cz53) ?_
                          show Steps p.tables e below (s₁.setTop (mkF m 113 #[.val (.int c1)] [])) _
                          refine XS.iloadN X0.here hx rfl (hb hby d1_113) rfl ?_
                          show Steps p.tables e below (s₁.setTop (mkF m 114 #[.val (.int c1)] [(.int c1)])) _
                          refine XS.sipush X0.here hx rfl (hb hby d1_114) ?_
                          show Steps p.tables e below (s₁.setTop (mkF m 117 #[.val (.int c1)] [(.int (8205 : Int32)), (.int c1)])) _
                          refine XS.icmpYes X0.here hx rfl (pc0 := 117) (pc' := 197) rfl (hb hby d1_117) rfl (XT.ii_le_t cz54) (by decide) (by decide) ?_
                          exact Steps.refl _
                    rcases D56 with ⟨hf55, S57⟩ | ⟨hf55, S57⟩
                    · have S58 : Steps p.tables e below Ω (s₁.setTop (mkF m 202 #[.val (.int c1)] [(.int (1 : Int32))])) := by
                        refine S57.trans ?_
                        refine XS.iconst X0.here hx rfl (hb hby d1_197) ?_
                        show Steps p.tables e below (s₁.setTop (mkF m 198 #[.val (.int c1)] [(.int (1 : Int32))])) _
                        refine XS.goto X0.here hx rfl (pc0 := 198) (pc' := 202) rfl (hb hby d1_198) (by decide) (by decide) ?_
                        exact Steps.refl _
                      obtain ⟨fs, hr, hrun, hended, hW, hsame⟩ := X0.leave (v := some (.int (1 : Int32))) (fun h => by rw [Bd.returns] at h; cases h)
                      have hfin : Steps p.tables e below Ω (s₁.setFrames fs) := by
                        refine S58.trans ?_
                        exact own_retZ X0 hx Bd.returns (by decide) (hb hby d1_202) hr
                      rw [hΩ] at hfin
                      refine ⟨_, _, hfin, hrun, hended, _, _, rfl, ?_, ⟨_, rfl⟩, hW, hsame.mono (by decide) (by decide)⟩
                      show Q1 Z c1 h0 n0 _ s₁.heap _
                      rw [e0]
                      exact ⟨by rw [own_ns, if_pos (by omega)], N0, rfl⟩
                    · have D62 : (((8304 ≤ c1.toInt ∧ c1.toInt ≤ 8591)) ∧ Steps p.tables e below Ω (s₁.setTop (mkF m 197 #[.val (.int c1)] []))) ∨ ((¬ (8304 ≤ c1.toInt ∧ c1.toInt ≤ 8591)) ∧ Steps p.tables e below Ω (s₁.setTop (mkF m 134 #[.val (.int c1)] []))) := by
                        by_cases cz59 : c1 < (8304 : Int32)
                        · have qcz59 : c1.toInt < 8304 := Int32.lt_iff_toInt_lt.mp cz59
                          refine Or.inr (⟨by omega, S57.trans ?_⟩)
                          refine XS.iloadN X0.here hx rfl (hb hby d1_120) rfl ?_
                          show Steps p.tables e below (s₁.setTop (mkF m 121 #[.val (.int c1)] [(.int c1)])) _
                          refine XS.sipush X0.here hx rfl (hb hby d1_121) ?_
                          show Steps p.tables e below (s₁.setTop (mkF m 124 #[.val (.int c1)] [(.int (8304 : Int32)), (.int c1)])) _
                          refine XS.icmpYes X0.here hx rfl (pc0 := 124) (pc' := 134) rfl (hb hby d1_124) rfl (XT.ii_lt_t cz59) (by decide) (by decide) ?_
                          exact Steps.refl _
                        · have qcz59 : ¬ c1.toInt < 8304 := fun q => cz59 (Int32.lt_iff_toInt_lt.mpr q)
                          by_cases cz60 : (8591 : Int32) < c1
                          · have qcz60 : 8591 < c1.toInt := Int32.lt_iff_toInt_lt.mp cz60
                            refine Or.inr (⟨by omega, S57.trans ?_⟩)
                            refine XS.iloadN X0.here hx rfl (hb hby d1_120) rfl ?_
                            show Steps p.tables e below (s₁.setTop (mkF m 121 #[.val (.int c1)] [(.int c1)])) _
                            refine XS.sipush X0.here hx rfl (hb hby d1_121) ?_
                            show Steps p.tables e below (s₁.setTop (mkF m 124 #[.val (.int c1)] [(.int (8304 : Int32)), (.int c1)])) _
                            refine XS.icmpNo X0.here hx rfl (hb hby d1_124) rfl (XT.ii_lt_f cz59) ?_
                            show Steps p.tables e below (s₁.setTop (mkF m 127 #[.val (.int c1)] [])) _
                            refine XS.iloadN X0.here hx rfl (hb hby d1_127) rfl ?_
                            show Steps p.tables e below (s₁.setTop (mkF m 128 #[.val (.int c1)] [(.int c1)])) _
                            refine XS.sipush X0.here hx rfl (hb hby d1_128) ?_
                            show Steps p.tables e below (s₁.setTop (mkF m 131 #[.val (.int c1)] [(.int (8591 : Int32)), (.int c1)])) _
                            refine XS.icmpNo X0.here hx rfl (hb hby d1_131) rfl (XT.ii_le_f cz60) ?_
                            exact Steps.refl _
                          · have qcz60 : ¬ 8591 < c1.toInt := fun q => cz60 (Int32.lt_iff_toInt_lt.mpr q)
                            refine Or.inl (⟨by omega, S57.trans ?_⟩)
                            refine XS.iloadN X0.here hx rfl (hb hby d1_120) rfl ?_
                            show Steps p.tables e below (s₁.setTop (mkF m 121 #[.val (.int c1)] [(.int c1)])) _
                            refine XS.sipush X0.here hx rfl (hb hby d1_121) ?_
                            show Steps p.tables e below (s₁.setTop (mkF m 124 #[.val (.int c1)] [(.int (8304 : Int32)), (.int c1)])) _
                            refine XS.icmpNo X0.here hx rfl (hb hby d1_124) rfl (XT.ii_lt_f cz59) ?_
                            show Steps p.tables e below (s₁.setTop (mkF m 127 #[.val (.int c1)] [])) _
                            refine XS.iloadN X0.here hx rfl (hb hby d1_127) rfl ?_
                            show Steps p.tables e below (s₁.setTop (mkF m 128 #[.val (.int c1)] [(.int c1)])) _
                            refine XS.sipush X0.here hx rfl (hb hby d1_128) ?_
                            show Steps p.tables e below (s₁.setTop (mkF m 131 #[.val (.int c1)] [(.int (8591 : Int32)), (.int c1)])) _
                            refine XS.icmpYes X0.here hx rfl (pc0 := 131) (pc' := 197) rfl (hb hby d1_131) rfl (XT.ii_le_t cz60) (by decide) (by decide) ?_
                            exact Steps.refl _
                      rcases D62 with ⟨hf61, S63⟩ | ⟨hf61, S63⟩
                      · have S64 : Steps p.tables e below Ω (s₁.setTop (mkF m 202 #[.val (.int c1)] [(.int (1 : Int32))])) := by
                          refine S63.trans ?_
                          refine XS.iconst X0.here hx rfl (hb hby d1_197) ?_
                          show Steps p.tables e below (s₁.setTop (mkF m 198 #[.val (.int c1)] [(.int (1 : Int32))])) _
                          refine XS.goto X0.here hx rfl (pc0 := 198) (pc' := 202) rfl (hb hby d1_198) (by decide) (by decide) ?_
                          exact Steps.refl _
                        obtain ⟨fs, hr, hrun, hended, hW, hsame⟩ := X0.leave (v := some (.int (1 : Int32))) (fun h => by rw [Bd.returns] at h; cases h)
                        have hfin : Steps p.tables e below Ω (s₁.setFrames fs) := by
                          refine S64.trans ?_
                          exact own_retZ X0 hx Bd.returns (by decide) (hb hby d1_202) hr
                        rw [hΩ] at hfin
                        refine ⟨_, _, hfin, hrun, hended, _, _, rfl, ?_, ⟨_, rfl⟩, hW, hsame.mono (by decide) (by decide)⟩
                        show Q1 Z c1 h0 n0 _ s₁.heap _
                        rw [e0]
                        exact ⟨by rw [own_ns, if_pos (by omega)], N0, rfl⟩
                      · have D68 : (((11264 ≤ c1.toInt ∧ c1.toInt ≤ 12271)) ∧ Steps p.tables e below Ω (s₁.setTop (mkF m 197 #[.val (.int c1)] []))) ∨ ((¬ (11264 ≤ c1.toInt ∧ c1.toInt ≤ 12271)) ∧ Steps p.tables e below Ω (s₁.setTop (mkF m 148 #[.val (.int c1)] []))) := by
                          by_cases cz65 : c1 < (11264 : Int32)
                          · have qcz65 : c1.toInt < 11264 := Int32.lt_iff_toInt_lt.mp cz65
                            refine Or.inr (⟨by omega, S63.trans ?_⟩)
                            refine XS.iloadN X0.here hx rfl (hb hby d1_134) rfl ?_
                            show Steps p.tables e below (s₁.setTop (mkF m 135 #[.val (.int c1)] [(.int c1)])) _
                            refine XS.sipush X0.here hx rfl (hb hby d1_135) ?_
                            show Steps p.tables e below (s₁.setTop (mkF m 138 #[.val (.int c1)] [(.int (11264 : Int32)), (.int c1)])) _
                            refine XS.icmpYes X0.here hx rfl (pc0 := 138) (pc' := 148) rfl (hb hby d1_138) rfl (XT.ii_lt_t cz65) (by decide) (by decide) ?_
                            exact Steps.refl _
                          · have qcz65 : ¬ c1.toInt < 11264 := fun q => cz65 (Int32.lt_iff_toInt_lt.mpr q)
                            by_cases cz66 : (12271 : Int32) < c1
                            · have qcz66 : 12271 < c1.toInt := Int32.lt_iff_toInt_lt.mp cz66
                              refine Or.inr (⟨by omega, S63.trans ?_⟩)
                              refine XS.iloadN X0.here hx rfl (hb hby d1_134) rfl ?_
                              show Steps p.tables e below (s₁.setTop (mkF m 135 #[.val (.int c1)] [(.int c1)])) _
                              refine XS.sipush X0.here hx rfl (hb hby d1_135) ?_
                              show Steps p.tables e below (s₁.setTop (mkF m 138 #[.val (.int c1)] [(.int (11264 : Int32)), (.int c1)])) _
                              refine XS.icmpNo X0.here hx rfl (hb hby d1_138) rfl (XT.ii_lt_f cz65) ?_
                              show Steps p.tables e below (s₁.setTop (mkF m 141 #[.val (.int c1)] [])) _
                              refine XS.iloadN X0.here hx rfl (hb hby d1_141) rfl ?_
                              show Steps p.tables e below (s₁.setTop (mkF m 142 #[.val (.int c1)] [(.int c1)])) _
                              refine XS.sipush X0.here hx rfl (hb hby d1_142) ?_
                              show Steps p.tables e below (s₁.setTop (mkF m 145 #[.val (.int c1)] [(.int (12271 : Int32)), (.int c1)])) _
                              refine XS.icmpNo X0.here hx rfl (hb hby d1_145) rfl (XT.ii_le_f cz66) ?_
                              exact Steps.refl _
                            · have qcz66 : ¬ 12271 < c1.toInt := fun q => cz66 (Int32.lt_iff_toInt_lt.mpr q)
                              refine Or.inl (⟨by omega, S63.trans ?_⟩)
                              refine XS.iloadN X0.here hx rfl (hb hby d1_134) rfl ?_
                              show Steps p.tables e below (s₁.setTop (mkF m 135 #[.val (.int c1)] [(.int c1)])) _
                              refine XS.sipush X0.here hx rfl (hb hby d1_135) ?_
                              show Steps p.tables e below (s₁.setTop (mkF m 138 #[.val (.int c1)] [(.int (11264 : Int32)), (.int c1)])) _
                              refine XS.icmpNo X0.here hx rfl (hb hby d1_138) rfl (XT.ii_lt_f cz65) ?_
                              show Steps p.tables e below (s₁.setTop (mkF m 141 #[.val (.int c1)] [])) _
                              refine XS.iloadN X0.here hx rfl (hb hby d1_141) rfl ?_
                              show Steps p.tables e below (s₁.setTop (mkF m 142 #[.val (.int c1)] [(.int c1)])) _
                              refine XS.sipush X0.here hx rfl (hb hby d1_142) ?_
                              show Steps p.tables e below (s₁.setTop (mkF m 145 #[.val (.int c1)] [(.int (12271 : Int32)), (.int c1)])) _
                              refine XS.icmpYes X0.here hx rfl (pc0 := 145) (pc' := 197) rfl (hb hby d1_145) rfl (XT.ii_le_t cz66) (by decide) (by decide) ?_
                              exact Steps.refl _
                        rcases D68 with ⟨hf67, S69⟩ | ⟨hf67, S69⟩
                        · have S70 : Steps p.tables e below Ω (s₁.setTop (mkF m 202 #[.val (.int c1)] [(.int (1 : Int32))])) := by
                            refine S69.trans ?_
                            refine XS.iconst X0.here hx rfl (hb hby d1_197) ?_
                            show Steps p.tables e below (s₁.setTop (mkF m 198 #[.val (.int c1)] [(.int (1 : Int32))])) _
                            refine XS.goto X0.here hx rfl (pc0 := 198) (pc' := 202) rfl (hb hby d1_198) (by decide) (by decide) ?_
                            exact Steps.refl _
                          obtain ⟨fs, hr, hrun, hended, hW, hsame⟩ := X0.leave (v := some (.int (1 : Int32))) (fun h => by rw [Bd.returns] at h; cases h)
                          have hfin : Steps p.tables e below Ω (s₁.setFrames fs) := by
                            refine S70.trans ?_
                            exact own_retZ X0 hx Bd.returns (by decide) (hb hby d1_202) hr
                          rw [hΩ] at hfin
                          refine ⟨_, _, hfin, hrun, hended, _, _, rfl, ?_, ⟨_, rfl⟩, hW, hsame.mono (by decide) (by decide)⟩
                          show Q1 Z c1 h0 n0 _ s₁.heap _
                          rw [e0]
                          exact ⟨by rw [own_ns, if_pos (by omega)], N0, rfl⟩
                        · have D74 : (((12289 ≤ c1.toInt ∧ c1.toInt ≤ 55295)) ∧ Steps p.tables e below Ω (s₁.setTop (mkF m 197 #[.val (.int c1)] []))) ∨ ((¬ (12289 ≤ c1.toInt ∧ c1.toInt ≤ 55295)) ∧ Steps p.tables e below Ω (s₁.setTop (mkF m 161 #[.val (.int c1)] []))) := by
                            by_cases cz71 : c1 < (12289 : Int32)
                            · have qcz71 : c1.toInt < 12289 := Int32.lt_iff_toInt_lt.mp cz71
                              refine Or.inr (⟨by omega, S69.trans ?_⟩)
                              refine XS.iloadN X0.here hx rfl (hb hby d1_148) rfl ?_
                              show Steps p.tables e below (s₁.setTop (mkF m 149 #[.val (.int c1)] [(.int c1)])) _
                              refine XS.sipush X0.here hx rfl (hb hby d1_149) ?_
                              show Steps p.tables e below (s₁.setTop (mkF m 152 #[.val (.int c1)] [(.int (12289 : Int32)), (.int c1)])) _
                              refine XS.icmpYes X0.here hx rfl (pc0 := 152) (pc' := 161) rfl (hb hby d1_152) rfl (XT.ii_lt_t cz71) (by decide) (by decide) ?_
                              exact Steps.refl _
                            · have qcz71 : ¬ c1.toInt < 12289 := fun q => cz71 (Int32.lt_iff_toInt_lt.mpr q)
                              by_cases cz72 : (55295 : Int32) < c1
                              · have qcz72 : 55295 < c1.toInt := Int32.lt_iff_toInt_lt.mp cz72
                                refine Or.inr (⟨by omega, S69.trans ?_⟩)
                                refine XS.iloadN X0.here hx rfl (hb hby d1_148) rfl ?_
                                show Steps p.tables e below (s₁.setTop (mkF m 149 #[.val (.int c1)] [(.int c1)])) _
                                refine XS.sipush X0.here hx rfl (hb hby d1_149) ?_
                                show Steps p.tables e below (s₁.setTop (mkF m 152 #[.val (.int c1)] [(.int (12289 : Int32)), (.int c1)])) _
                                refine XS.icmpNo X0.here hx rfl (hb hby d1_152) rfl (XT.ii_lt_f cz71) ?_
                                show Steps p.tables e below (s₁.setTop (mkF m 155 #[.val (.int c1)] [])) _
                                refine XS.iloadN X0.here hx rfl (hb hby d1_155) rfl ?_
                                show Steps p.tables e below (s₁.setTop (mkF m 156 #[.val (.int c1)] [(.int c1)])) _
                                refine X0.ldcInt hx hown (mvT hZ (hw _ (List.mem_of_getElem? (i := 17) rfl))) (g := (mkF m 156 #[.val (.int c1)] [(.int c1)])) rfl (hb hby d1_156) _ ?_
                                show Steps p.tables e below (s₁.setTop (mkF m 158 #[.val (.int c1)] [(.int (55295 : Int32)), (.int c1)])) _
                                refine XS.icmpNo X0.here hx rfl (hb hby d1_158) rfl (XT.ii_le_f cz72) ?_
                                exact Steps.refl _
                              · have qcz72 : ¬ 55295 < c1.toInt := fun q => cz72 (Int32.lt_iff_toInt_lt.mpr q)
                                refine Or.inl (⟨by omega, S69.trans ?_⟩)
                                refine XS.iloadN X0.here hx rfl (hb hby d1_148) rfl ?_
                                show Steps p.tables e below (s₁.setTop (mkF m 149 #[.val (.int c1)] [(.int c1)])) _
                                refine XS.sipush X0.here hx rfl (hb hby d1_149) ?_
                                show Steps p.tables e below (s₁.setTop (mkF m 152 #[.val (.int c1)] [(.int (12289 : Int32)), (.int c1)])) _
                                refine XS.icmpNo X0.here hx rfl (hb hby d1_152) rfl (XT.ii_lt_f cz71) ?_
                                show Steps p.tables e below (s₁.setTop (mkF m 155 #[.val (.int c1)] [])) _
                                refine XS.iloadN X0.here hx rfl (hb hby d1_155) rfl ?_
                                show Steps p.tables e below (s₁.setTop (mkF m 156 #[.val (.int c1)] [(.int c1)])) _
                                refine X0.ldcInt hx hown (mvT hZ (hw _ (List.mem_of_getElem? (i := 17) rfl))) (g := (mkF m 156 #[.val (.int c1)] [(.int c1)])) rfl (hb hby d1_156) _ ?_
                                show Steps p.tables e below (s₁.setTop (mkF m 158 #[.val (.int c1)] [(.int (55295 : Int32)), (.int c1)])) _
                                refine XS.icmpYes X0.here hx rfl (pc0 := 158) (pc' := 197) rfl (hb hby d1_158) rfl (XT.ii_le_t cz72) (by decide) (by decide) ?_
                                exact Steps.refl _
                          rcases D74 with ⟨hf73, S75⟩ | ⟨hf73, S75⟩
                          · have S76 : Steps p.tables e below Ω (s₁.setTop (mkF m 202 #[.val (.int c1)] [(.int (1 : Int32))])) := by
                              refine S75.trans ?_
                              refine XS.iconst X0.here hx rfl (hb hby d1_197) ?_
                              show Steps p.tables e below (s₁.setTop (mkF m 198 #[.val (.int c1)] [(.int (1 : Int32))])) _
                              refine XS.goto X0.here hx rfl (pc0 := 198) (pc' := 202) rfl (hb hby d1_198) (by decide) (by decide) ?_
                              exact Steps.refl _
                            obtain ⟨fs, hr, hrun, hended, hW, hsame⟩ := X0.leave (v := some (.int (1 : Int32))) (fun h => by rw [Bd.returns] at h; cases h)
                            have hfin : Steps p.tables e below Ω (s₁.setFrames fs) := by
                              refine S76.trans ?_
                              exact own_retZ X0 hx Bd.returns (by decide) (hb hby d1_202) hr
                            rw [hΩ] at hfin
                            refine ⟨_, _, hfin, hrun, hended, _, _, rfl, ?_, ⟨_, rfl⟩, hW, hsame.mono (by decide) (by decide)⟩
                            show Q1 Z c1 h0 n0 _ s₁.heap _
                            rw [e0]
                            exact ⟨by rw [own_ns, if_pos (by omega)], N0, rfl⟩
                          · have D80 : (((63744 ≤ c1.toInt ∧ c1.toInt ≤ 64975)) ∧ Steps p.tables e below Ω (s₁.setTop (mkF m 197 #[.val (.int c1)] []))) ∨ ((¬ (63744 ≤ c1.toInt ∧ c1.toInt ≤ 64975)) ∧ Steps p.tables e below Ω (s₁.setTop (mkF m 173 #[.val (.int c1)] []))) := by
                              by_cases cz77 : c1 < (63744 : Int32)
                              · have qcz77 : c1.toInt < 63744 := Int32.lt_iff_toInt_lt.mp cz77
                                refine Or.inr (⟨by omega, S75.trans ?_⟩)
                                refine XS.iloadN X0.here hx rfl (hb hby d1_161) rfl ?_
                                show Steps p.tables e below (s₁.setTop (mkF m 162 #[.val (.int c1)] [(.int c1)])) _
                                refine X0.ldcInt hx hown (mvT hZ (hw _ (List.mem_of_getElem? (i := 14) rfl))) (g := (mkF m 162 #[.val (.int c1)] [(.int c1)])) rfl (hb hby d1_162) _ ?_
                                show Steps p.tables e below (s₁.setTop (mkF m 164 #[.val (.int c1)] [(.int (63744 : Int32)), (.int c1)])) _
                                refine XS.icmpYes X0.here hx rfl (pc0 := 164) (pc' := 173) rfl (hb hby d1_164) rfl (XT.ii_lt_t cz77) (by decide) (by decide) ?_
                                exact Steps.refl _
                              · have qcz77 : ¬ c1.toInt < 63744 := fun q => cz77 (Int32.lt_iff_toInt_lt.mpr q)
                                by_cases cz78 : (64975 : Int32) < c1
                                · have qcz78 : 64975 < c1.toInt := Int32.lt_iff_toInt_lt.mp cz78
                                  refine Or.inr (⟨by omega, S75.trans ?_⟩)
                                  refine XS.iloadN X0.here hx rfl (hb hby d1_161) rfl ?_
                                  show Steps p.tables e below (s₁.setTop (mkF m 162 #[.val (.int c1)] [(.int c1)])) _
                                  refine X0.ldcInt hx hown (mvT hZ (hw _ (List.mem_of_getElem? (i := 14) rfl))) (g := (mkF m 162 #[.val (.int c1)] [(.int c1)])) rfl (hb hby d1_162) _ ?_
                                  show Steps p.tables e below (s₁.setTop (mkF m 164 #[.val (.int c1)] [(.int (63744 : Int32)), (.int c1)])) _
                                  refine XS.icmpNo X0.here hx rfl (hb hby d1_164) rfl (XT.ii_lt_f cz77) ?_
                                  show Steps p.tables e below (s₁.setTop (mkF m 167 #[.val (.int c1)] [])) _
                                  refine XS.iloadN X0.here hx rfl (hb hby d1_167) rfl ?_
                                  show Steps p.tables e below (s₁.setTop (mkF m 168 #[.val (.int c1)] [(.int c1)])) _
                                  refine X0.ldcInt hx hown (mvT hZ (hw _ (List.mem_of_getElem? (i := 18) rfl))) (g := (mkF m 168 #[.val (.int c1)] [(.int c1)])) rfl (hb hby d1_168) _ ?_
                                  show Steps p.tables e below (s₁.setTop (mkF m 170 #[.val (.int c1)] [(.int (64975 : Int32)), (.int c1)])) _
                                  refine XS.icmpNo X0.here hx rfl (hb hby d1_170) rfl (XT.ii_le_f cz78) ?_
                                  exact Steps.refl _
                                · have qcz78 : ¬ 64975 < c1.toInt := fun q => cz78 (Int32.lt_iff_toInt_lt.mpr q)
                                  refine Or.inl (⟨by omega, S75.trans ?_⟩)
                                  refine XS.iloadN X0.here hx rfl (hb hby d1_161) rfl ?_
                                  show Steps p.tables e below (s₁.setTop (mkF m 162 #[.val (.int c1)] [(.int c1)])) _
                                  refine X0.ldcInt hx hown (mvT hZ (hw _ (List.mem_of_getElem? (i := 14) rfl))) (g := (mkF m 162 #[.val (.int c1)] [(.int c1)])) rfl (hb hby d1_162) _ ?_
                                  show Steps p.tables e below (s₁.setTop (mkF m 164 #[.val (.int c1)] [(.int (63744 : Int32)), (.int c1)])) _
                                  refine XS.icmpNo X0.here hx rfl (hb hby d1_164) rfl (XT.ii_lt_f cz77) ?_
                                  show Steps p.tables e below (s₁.setTop (mkF m 167 #[.val (.int c1)] [])) _
                                  refine XS.iloadN X0.here hx rfl (hb hby d1_167) rfl ?_
                                  show Steps p.tables e below (s₁.setTop (mkF m 168 #[.val (.int c1)] [(.int c1)])) _
                                  refine X0.ldcInt hx hown (mvT hZ (hw _ (List.mem_of_getElem? (i := 18) rfl))) (g := (mkF m 168 #[.val (.int c1)] [(.int c1)])) rfl (hb hby d1_168) _ ?_
                                  show Steps p.tables e below (s₁.setTop (mkF m 170 #[.val (.int c1)] [(.int (64975 : Int32)), (.int c1)])) _
                                  refine XS.icmpYes X0.here hx rfl (pc0 := 170) (pc' := 197) rfl (hb hby d1_170) rfl (XT.ii_le_t cz78) (by decide) (by decide) ?_
                                  exact Steps.refl _
                            rcases D80 with ⟨hf79, S81⟩ | ⟨hf79, S81⟩
                            · have S82 : Steps p.tables e below Ω (s₁.setTop (mkF m 202 #[.val (.int c1)] [(.int (1 : Int32))])) := by
                                refine S81.trans ?_
                                refine XS.iconst X0.here hx rfl (hb hby d1_197) ?_
                                show Steps p.tables e below (s₁.setTop (mkF m 198 #[.val (.int c1)] [(.int (1 : Int32))])) _
                                refine XS.goto X0.here hx rfl (pc0 := 198) (pc' := 202) rfl (hb hby d1_198) (by decide) (by decide) ?_
                                exact Steps.refl _
                              obtain ⟨fs, hr, hrun, hended, hW, hsame⟩ := X0.leave (v := some (.int (1 : Int32))) (fun h => by rw [Bd.returns] at h; cases h)
                              have hfin : Steps p.tables e below Ω (s₁.setFrames fs) := by
                                refine S82.trans ?_
                                exact own_retZ X0 hx Bd.returns (by decide) (hb hby d1_202) hr
                              rw [hΩ] at hfin
                              refine ⟨_, _, hfin, hrun, hended, _, _, rfl, ?_, ⟨_, rfl⟩, hW, hsame.mono (by decide) (by decide)⟩
                              show Q1 Z c1 h0 n0 _ s₁.heap _
                              rw [e0]
                              exact ⟨by rw [own_ns, if_pos (by omega)], N0, rfl⟩
                            · have D86 : (((65008 ≤ c1.toInt ∧ c1.toInt ≤ 65533)) ∧ Steps p.tables e below Ω (s₁.setTop (mkF m 197 #[.val (.int c1)] []))) ∨ ((¬ (65008 ≤ c1.toInt ∧ c1.toInt ≤ 65533)) ∧ Steps p.tables e below Ω (s₁.setTop (mkF m 185 #[.val (.int c1)] []))) := by
                                by_cases cz83 : c1 < (65008 : Int32)
                                · have qcz83 : c1.toInt < 65008 := Int32.lt_iff_toInt_lt.mp cz83
                                  refine Or.inr (⟨by omega, S81.trans ?_⟩)
                                  refine XS.iloadN X0.here hx rfl (hb hby d1_173) rfl ?_
                                  show Steps p.tables e below (s₁.setTop (mkF m 174 #[.val (.int c1)] [(.int c1)])) _
                                  refine X0.ldcInt hx hown (mvT hZ (hw _ (List.mem_of_getElem? (i := 15) rfl))) (g := (mkF m 174 #[.val (.int c1)] [(.int c1)])) rfl (hb hby d1_174) _ ?_
                                  show Steps p.tables e below (s₁.setTop (mkF m 176 #[.val (.int c1)] [(.int (65008 : Int32)), (.int c1)])) _
                                  refine XS.icmpYes X0.here hx rfl (pc0 := 176) (pc' := 185) rfl (hb hby d1_176) rfl (XT.ii_lt_t cz83) (by decide) (by decide) ?_
                                  exact Steps.refl _
                                · have qcz83 : ¬ c1.toInt < 65008 := fun q => cz83 (Int32.lt_iff_toInt_lt.mpr q)
                                  by_cases cz84 : (65533 : Int32) < c1
                                  · have qcz84 : 65533 < c1.toInt := Int32.lt_iff_toInt_lt.mp cz84
                                    refine Or.inr (⟨by omega, S81.trans ?_⟩)
                                    refine XS.iloadN X0.here hx rfl (hb hby d1_173) rfl ?_
                                    show Steps p.tables e below (s₁.setTop (mkF m 174 #[.val (.int c1)] [(.int c1)])) _
                                    refine X0.ldcInt hx hown (mvT hZ (hw _ (List.mem_of_getElem? (i := 15) rfl))) (g := (mkF m 174 #[.val (.int c1)] [(.int c1)])) rfl (hb hby d1_174) _ ?_
                                    show Steps p.tables e below (s₁.setTop (mkF m 176 #[.val (.int c1)] [(.int (65008 : Int32)), (.int c1)])) _
                                    refine XS.icmpNo X0.here hx rfl (hb hby d1_176) rfl (XT.ii_lt_f cz83) ?_
                                    show Steps p.tables e below (s₁.setTop (mkF m 179 #[.val (.int c1)] [])) _
                                    refine XS.iloadN X0.here hx rfl (hb hby d1_179) rfl ?_
                                    show Steps p.tables e below (s₁.setTop (mkF m 180 #[.val (.int c1)] [(.int c1)])) _
                                    refine X0.ldcInt hx hown (mvT hZ (hw _ (List.mem_of_getElem? (i := 19) rfl))) (g := (mkF m 180 #[.val (.int c1)] [(.int c1)])) rfl (hb hby d1_180) _ ?_
                                    show Steps p.tables e below (s₁.setTop (mkF m 182 #[.val (.int c1)] [(.int (65533 : Int32)), (.int c1)])) _
                                    refine XS.icmpNo X0.here hx rfl (hb hby d1_182) rfl (XT.ii_le_f cz84) ?_
                                    exact Steps.refl _
                                  · have qcz84 : ¬ 65533 < c1.toInt := fun q => cz84 (Int32.lt_iff_toInt_lt.mpr q)
                                    refine Or.inl (⟨by omega, S81.trans ?_⟩)
                                    refine XS.iloadN X0.here hx rfl (hb hby d1_173) rfl ?_
                                    show Steps p.tables e below (s₁.setTop (mkF m 174 #[.val (.int c1)] [(.int c1)])) _
                                    refine X0.ldcInt hx hown (mvT hZ (hw _ (List.mem_of_getElem? (i := 15) rfl))) (g := (mkF m 174 #[.val (.int c1)] [(.int c1)])) rfl (hb hby d1_174) _ ?_
                                    show Steps p.tables e below (s₁.setTop (mkF m 176 #[.val (.int c1)] [(.int (65008 : Int32)), (.int c1)])) _
                                    refine XS.icmpNo X0.here hx rfl (hb hby d1_176) rfl (XT.ii_lt_f cz83) ?_
                                    show Steps p.tables e below (s₁.setTop (mkF m 179 #[.val (.int c1)] [])) _
                                    refine XS.iloadN X0.here hx rfl (hb hby d1_179) rfl ?_
                                    show Steps p.tables e below (s₁.setTop (mkF m 180 #[.val (.int c1)] [(.int c1)])) _
                                    refine X0.ldcInt hx hown (mvT hZ (hw _ (List.mem_of_getElem? (i := 19) rfl))) (g := (mkF m 180 #[.val (.int c1)] [(.int c1)])) rfl (hb hby d1_180) _ ?_
                                    show Steps p.tables e below (s₁.setTop (mkF m 182 #[.val (.int c1)] [(.int (65533 : Int32)), (.int c1)])) _
                                    refine XS.icmpYes X0.here hx rfl (pc0 := 182) (pc' := 197) rfl (hb hby d1_182) rfl (XT.ii_le_t cz84) (by decide) (by decide) ?_
                                    exact Steps.refl _
                              rcases D86 with ⟨hf85, S87⟩ | ⟨hf85, S87⟩
                              · have S88 : Steps p.tables e below Ω (s₁.setTop (mkF m 202 #[.val (.int c1)] [(.int (1 : Int32))])) := by
                                  refine S87.trans ?_
                                  refine XS.iconst X0.here hx rfl (hb hby d1_197) ?_
                                  show Steps p.tables e below (s₁.setTop (mkF m 198 #[.val (.int c1)] [(.int (1 : Int32))])) _
                                  refine XS.goto X0.here hx rfl (pc0 := 198) (pc' := 202) rfl (hb hby d1_198) (by decide) (by decide) ?_
                                  exact Steps.refl _
                                obtain ⟨fs, hr, hrun, hended, hW, hsame⟩ := X0.leave (v := some (.int (1 : Int32))) (fun h => by rw [Bd.returns] at h; cases h)
                                have hfin : Steps p.tables e below Ω (s₁.setFrames fs) := by
                                  refine S88.trans ?_
                                  exact own_retZ X0 hx Bd.returns (by decide) (hb hby d1_202) hr
                                rw [hΩ] at hfin
                                refine ⟨_, _, hfin, hrun, hended, _, _, rfl, ?_, ⟨_, rfl⟩, hW, hsame.mono (by decide) (by decide)⟩
                                show Q1 Z c1 h0 n0 _ s₁.heap _
                                rw [e0]
                                exact ⟨by rw [own_ns, if_pos (by omega)], N0, rfl⟩
                              · have D92 : (((65536 ≤ c1.toInt ∧ c1.toInt ≤ 983039)) ∧ Steps p.tables e below Ω (s₁.setTop (mkF m 197 #[.val (.int c1)] []))) ∨ ((¬ (65536 ≤ c1.toInt ∧ c1.toInt ≤ 983039)) ∧ Steps p.tables e below Ω (s₁.setTop (mkF m 201 #[.val (.int c1)] []))) := by
                                  by_cases cz89 : c1 < (65536 : Int32)
                                  · have qcz89 : c1.toInt < 65536 := Int32.lt_iff_toInt_lt.mp cz89
                                    refine Or.inr (⟨by omega, S87.trans ?_⟩)
                                    refine XS.iloadN X0.here hx rfl (hb hby d1_185) rfl ?_
                                    show Steps p.tables e below (s₁.setTop (mkF m 186 #[.val (.int c1)] [(.int c1)])) _
                                    refine X0.ldcInt hx hown (mvT hZ (hw _ (List.mem_of_getElem? (i := 16) rfl))) (g := (mkF m 186 #[.val (.int c1)] [(.int c1)])) rfl (hb hby d1_186) _ ?_
                                    show Steps p.tables e below (s₁.setTop (mkF m 188 #[.val (.int c1)] [(.int (65536 : Int32)), (.int c1)])) _
                                    refine XS.icmpYes X0.here hx rfl (pc0 := 188) (pc' := 201) rfl (hb hby d1_188) rfl (XT.ii_lt_t cz89) (by decide) (by decide) ?_
                                    exact Steps.refl _
                                  · have qcz89 : ¬ c1.toInt < 65536 := fun q => cz89 (Int32.lt_iff_toInt_lt.mpr q)
                                    by_cases cz90 : (983039 : Int32) < c1
                                    · have qcz90 : 983039 < c1.toInt := Int32.lt_iff_toInt_lt.mp cz90
                                      refine Or.inr (⟨by omega, S87.trans ?_⟩)
                                      refine XS.iloadN X0.here hx rfl (hb hby d1_185) rfl ?_
                                      show Steps p.tables e below (s₁.setTop (mkF m 186 #[.val (.int c1)] [(.int c1)])) _
                                      refine X0.ldcInt hx hown (mvT hZ (hw _ (List.mem_of_getElem? (i := 16) rfl))) (g := (mkF m 186 #[.val (.int c1)] [(.int c1)])) rfl (hb hby d1_186) _ ?_
                                      show Steps p.tables e below (s₁.setTop (mkF m 188 #[.val (.int c1)] [(.int (65536 : Int32)), (.int c1)])) _
                                      refine XS.icmpNo X0.here hx rfl (hb hby d1_188) rfl (XT.ii_lt_f cz89) ?_
                                      show Steps p.tables e below (s₁.setTop (mkF m 191 #[.val (.int c1)] [])) _
                                      refine XS.iloadN X0.here hx rfl (hb hby d1_191) rfl ?_
                                      show Steps p.tables e below (s₁.setTop (mkF m 192 #[.val (.int c1)] [(.int c1)])) _
                                      refine X0.ldcInt hx hown (mvT hZ (hw _ (List.mem_of_getElem? (i := 20) rfl))) (g := (mkF m 192 #[.val (.int c1)] [(.int c1)])) rfl (hb hby d1_192) _ ?_
                                      show Steps p.tables e below (s₁.setTop (mkF m 194 #[.val (.int c1)] [(.int (983039 : Int32)), (.int c1)])) _
                                      refine XS.icmpYes X0.here hx rfl (pc0 := 194) (pc' := 201) rfl (hb hby d1_194) rfl (XT.ii_gt_t cz90) (by decide) (by decide) ?_
                                      exact Steps.refl _
                                    · have qcz90 : ¬ 983039 < c1.toInt := fun q => cz90 (Int32.lt_iff_toInt_lt.mpr q)
                                      refine Or.inl (⟨by omega, S87.trans ?_⟩)
                                      refine XS.iloadN X0.here hx rfl (hb hby d1_185) rfl ?_
                                      show Steps p.tables e below (s₁.setTop (mkF m 186 #[.val (.int c1)] [(.int c1)])) _
                                      refine X0.ldcInt hx hown (mvT hZ (hw _ (List.mem_of_getElem? (i := 16) rfl))) (g := (mkF m 186 #[.val (.int c1)] [(.int c1)])) rfl (hb hby d1_186) _ ?_
                                      show Steps p.tables e below (s₁.setTop (mkF m 188 #[.val (.int c1)] [(.int (65536 : Int32)), (.int c1)])) _
                                      refine XS.icmpNo X0.here hx rfl (hb hby d1_188) rfl (XT.ii_lt_f cz89) ?_
                                      show Steps p.tables e below (s₁.setTop (mkF m 191 #[.val (.int c1)] [])) _
                                      refine XS.iloadN X0.here hx rfl (hb hby d1_191) rfl ?_
                                      show Steps p.tables e below (s₁.setTop (mkF m 192 #[.val (.int c1)] [(.int c1)])) _
                                      refine X0.ldcInt hx hown (mvT hZ (hw _ (List.mem_of_getElem? (i := 20) rfl))) (g := (mkF m 192 #[.val (.int c1)] [(.int c1)])) rfl (hb hby d1_192) _ ?_
                                      show Steps p.tables e below (s₁.setTop (mkF m 194 #[.val (.int c1)] [(.int (983039 : Int32)), (.int c1)])) _
                                      refine XS.icmpNo X0.here hx rfl (hb hby d1_194) rfl (XT.ii_gt_f cz90) ?_
                                      exact Steps.refl _
                                rcases D92 with ⟨hf91, S93⟩ | ⟨hf91, S93⟩
                                · have S94 : Steps p.tables e below Ω (s₁.setTop (mkF m 202 #[.val (.int c1)] [(.int (1 : Int32))])) := by
                                    refine S93.trans ?_
                                    refine XS.iconst X0.here hx rfl (hb hby d1_197) ?_
                                    show Steps p.tables e below (s₁.setTop (mkF m 198 #[.val (.int c1)] [(.int (1 : Int32))])) _
                                    refine XS.goto X0.here hx rfl (pc0 := 198) (pc' := 202) rfl (hb hby d1_198) (by decide) (by decide) ?_
                                    exact Steps.refl _
                                  obtain ⟨fs, hr, hrun, hended, hW, hsame⟩ := X0.leave (v := some (.int (1 : Int32))) (fun h => by rw [Bd.returns] at h; cases h)
                                  have hfin : Steps p.tables e below Ω (s₁.setFrames fs) := by
                                    refine S94.trans ?_
                                    exact own_retZ X0 hx Bd.returns (by decide) (hb hby d1_202) hr
                                  rw [hΩ] at hfin
                                  refine ⟨_, _, hfin, hrun, hended, _, _, rfl, ?_, ⟨_, rfl⟩, hW, hsame.mono (by decide) (by decide)⟩
                                  show Q1 Z c1 h0 n0 _ s₁.heap _
                                  rw [e0]
                                  exact ⟨by rw [own_ns, if_pos (by omega)], N0, rfl⟩
                                · have S95 : Steps p.tables e below Ω (s₁.setTop (mkF m 202 #[.val (.int c1)] [(.int (0 : Int32))])) := by
                                    refine S93.trans ?_
                                    refine XS.iconst X0.here hx rfl (hb hby d1_201) ?_
                                    exact Steps.refl _
                                  obtain ⟨fs, hr, hrun, hended, hW, hsame⟩ := X0.leave (v := some (.int (0 : Int32))) (fun h => by rw [Bd.returns] at h; cases h)
                                  have hfin : Steps p.tables e below Ω (s₁.setFrames fs) := by
                                    refine S95.trans ?_
                                    exact own_retZ X0 hx Bd.returns (by decide) (hb hby d1_202) hr
                                  rw [hΩ] at hfin
                                  refine ⟨_, _, hfin, hrun, hended, _, _, rfl, ?_, ⟨_, rfl⟩, hW, hsame.mono (by decide) (by decide)⟩
                                  show Q1 Z c1 h0 n0 _ s₁.heap _
                                  rw [e0]
                                  exact ⟨by rw [own_ns, if_neg (by omega)], N0, rfl⟩
theorem pd_0 : parseMethodDescriptor "(I)Z" = some ⟨[.int], some .boolean⟩ := by decide +kernel
theorem pn_1 : plainName "com/example/distill_trees/distilltrees/io/XmlCharsIsNameStartCharPinLaw" = true := by first | (simp [plainName, overriddenIn]; done) | decide +kernel
theorem ef_rm0 (m : MethodId) (x0 : Int32) (x1 : Int32) : entryFrame m #[(.int x0), (.int x1)] maxLocals = mkF m 0 #[.val (.int x0), .val (.int x1), .unset, .unset, .unset, .unset, .unset, .unset, .unset, .unset, .unset, .unset] [] := by first | (simp [entryFrame, mkF, argsToLocals, Value.category, maxLocals]; done) | rfl
def Q0 (Z : State) (p1 : Int32) (off : Int32) (h0 : Heap) (n0 : Nat) (v : Option Value) (h : Heap) (L : List Loc) : Prop := v = some (.int 1) ∧ Fr n0 L
set_option maxRecDepth 65536 in
set_option maxHeartbeats 40000000 in
theorem rm0 (l : Launch) (Z : State) (a0 : Array Value) (hw : ∀ d ∈ tables_1, d.before a0 Z = true) (ws : List Jvm.Cond) (p1 : Int32) (off : Int32) (h0 : Heap) (n0 : Nat) (Z0 : n0 ≤ h0.size) :
    MetFree l x (head1 (Jvm.Cond.code x code maxLocals ret :: ws) room_1) (fun aa U => aa = #[(.int p1), (.int off)] ∧ Z.Warmed39 U.vm ∧ U.heap = h0) (fun _ _ _ _ _ => True) (fun _ U o U' => ∃ v L, o = .returned v ∧ Q0 Z p1 off h0 n0 v U'.heap L ∧ FrameEnd U o U' L room_1.cells room_1.slots) := by
  refine MetFree.of_bodySF (plainFor_of_name pn_1) hisR ?_
  intro p e s m args below meth c s₁ Bd hml0 hP hK
  obtain ⟨rfl, hZ, hh⟩ := hP
  have hx := Bd.exec
  have hby := Bd.bytes
  have hml : c.maxLocals = 12 := hml0
  have hown : s.vm.findClass "com/example/distill_trees/distilltrees/io/XmlCharsIsNameStartCharPinLaw" = some m.cls := findClass_of_methodNamed Bd.named
  have hnm := (name_of_methodNamed Bd.named Bd.method).1
  have X0 : Stand p l e room_1 s m #[(.int p1), (.int off)] below meth c s₁ [] 0 0 := Stand.of_body Bd
  have e0 : s₁.heap = h0 := by rw [← hh, Bd.state]; rfl
  have N0 := Fr.nil n0
  obtain ⟨Ω, hΩ⟩ : ∃ z, z = s₁.setTop (entryFrame m #[(.int p1), (.int off)] maxLocals) := ⟨_, rfl⟩
  have S0 : Steps p.tables e below Ω (s₁.setTop (mkF m 0 #[.val (.int p1), .val (.int off), .unset, .unset, .unset, .unset, .unset, .unset, .unset, .unset, .unset, .unset] [])) := by rw [hΩ]; exact castTop (ef_rm0 m p1 off) (Steps.refl _)
  have S1 : Steps p.tables e below Ω (s₁.setTop (mkF m 2 #[.val (.int p1), .val (.int off), .unset, .unset, .unset, .unset, .unset, .unset, .unset, .unset, .unset, .unset] [(.int (33 : Int32))])) := by
    refine S0.trans ?_
    refine XS.bipush X0.here hx rfl (hb hby at_0) ?_
    exact Steps.refl _
  obtain ⟨T2, h2, k2, X2, e2, E2, A2, st2⟩ := newP X0 hx hZ (hw _ (List.mem_of_getElem? (i := 0) rfl)) e0 (g := (mkF m 2 #[.val (.int p1), .val (.int off), .unset, .unset, .unset, .unset, .unset, .unset, .unset, .unset, .unset, .unset] [(.int (33 : Int32))])) rfl (hb hby at_2) rfl (by decide) (cap := 33) (by decide) (by decide) (by decide) (by decide)
  obtain ⟨b, s_b⟩ : ∃ z, z = h0.size := ⟨_, rfl⟩
  rw [← s_b] at A2 st2
  have g_b : n0 ≤ b := Nat.le_trans Z0 (Nat.le_of_eq s_b.symm)
  have S3 : Steps p.tables e below Ω (T2.setTop (mkF m 4 #[.val (.int p1), .val (.int off), .unset, .unset, .unset, .unset, .unset, .unset, .unset, .unset, .unset, .unset] [(.ref b)])) := S1.trans (st2 _ (Steps.refl _))
  have V0 : LA Z h2 b .int [(.int (0 : Int32)), (.int (0 : Int32)), (.int (0 : Int32)), (.int (0 : Int32)), (.int (0 : Int32)), (.int (0 : Int32)), (.int (0 : Int32)), (.int (0 : Int32)), (.int (0 : Int32)), (.int (0 : Int32)), (.int (0 : Int32)), (.int (0 : Int32)), (.int (0 : Int32)), (.int (0 : Int32)), (.int (0 : Int32)), (.int (0 : Int32)), (.int (0 : Int32)), (.int (0 : Int32)), (.int (0 : Int32)), (.int (0 : Int32)), (.int (0 : Int32)), (.int (0 : Int32)), (.int (0 : Int32)), (.int (0 : Int32)), (.int (0 : Int32)), (.int (0 : Int32)), (.int (0 : Int32)), (.int (0 : Int32)), (.int (0 : Int32)), (.int (0 : Int32)), (.int (0 : Int32)), (.int (0 : Int32)), (.int (0 : Int32))] := LA.new A2 33 rfl
  have S4 : Steps p.tables e below Ω (T2.setTop (mkF m 8 #[.val (.int p1), .val (.int off), .unset, .unset, .unset, .unset, .unset, .unset, .unset, .unset, .unset, .unset] [(.int (-2147483648 : Int32)), (.int (0 : Int32)), (.ref b), (.ref b)])) := by
    refine S3.trans ?_
    refine XS.dup X2.here hx rfl (hb hby at_4) rfl rfl ?_
    show Steps p.tables e below (T2.setTop (mkF m 5 #[.val (.int p1), .val (.int off), .unset, .unset, .unset, .unset, .unset, .unset, .unset, .unset, .unset, .unset] [(.ref b), (.ref b)])) _
    refine XS.iconst X2.here hx rfl (hb hby at_5) ?_
    show Steps p.tables e below (T2.setTop (mkF m 6 #[.val (.int p1), .val (.int off), .unset, .unset, .unset, .unset, .unset, .unset, .unset, .unset, .unset, .unset] [(.int (0 : Int32)), (.ref b), (.ref b)])) _
    refine X2.ldcInt hx hown (mvT hZ (hw _ (List.mem_of_getElem? (i := 1) rfl))) (g := (mkF m 6 #[.val (.int p1), .val (.int off), .unset, .unset, .unset, .unset, .unset, .unset, .unset, .unset, .unset, .unset] [(.int (0 : Int32)), (.ref b), (.ref b)])) rfl (hb hby at_6) _ ?_
    exact Steps.refl _
  obtain ⟨T5, h5, X5, e5, W5, V5', st5⟩ := own_stI X2 hx hZ e2 V0 (j := (0 : Int32)) (i := 0) rfl ⟨by decide, Nat.le_of_ble_eq_true rfl⟩ (g := (mkF m 8 #[.val (.int p1), .val (.int off), .unset, .unset, .unset, .unset, .unset, .unset, .unset, .unset, .unset, .unset] [(.int (-2147483648 : Int32)), (.int (0 : Int32)), (.ref b), (.ref b)])) rfl rfl (hb hby at_8)
  have V5 : LA Z h5 b .int [(.int (-2147483648 : Int32)), (.int (0 : Int32)), (.int (0 : Int32)), (.int (0 : Int32)), (.int (0 : Int32)), (.int (0 : Int32)), (.int (0 : Int32)), (.int (0 : Int32)), (.int (0 : Int32)), (.int (0 : Int32)), (.int (0 : Int32)), (.int (0 : Int32)), (.int (0 : Int32)), (.int (0 : Int32)), (.int (0 : Int32)), (.int (0 : Int32)), (.int (0 : Int32)), (.int (0 : Int32)), (.int (0 : Int32)), (.int (0 : Int32)), (.int (0 : Int32)), (.int (0 : Int32)), (.int (0 : Int32)), (.int (0 : Int32)), (.int (0 : Int32)), (.int (0 : Int32)), (.int (0 : Int32)), (.int (0 : Int32)), (.int (0 : Int32)), (.int (0 : Int32)), (.int (0 : Int32)), (.int (0 : Int32)), (.int (0 : Int32))] := V5'
  have S6 : Steps p.tables e below Ω (T5.setTop (mkF m 9 #[.val (.int p1), .val (.int off), .unset, .unset, .unset, .unset, .unset, .unset, .unset, .unset, .unset, .unset] [(.ref b)])) := S4.trans (st5 _ (Steps.refl _))
  have N5 := Fr.snoc X5 N0 g_b
  have S7 : Steps p.tables e below Ω (T5.setTop (mkF m 13 #[.val (.int p1), .val (.int off), .unset, .unset, .unset, .unset, .unset, .unset, .unset, .unset, .unset, .unset] [(.int (58 : Int32)), (.int (1 : Int32)), (.ref b), (.ref b)])) := by
    refine S6.trans ?_
    refine XS.dup X5.here hx rfl (hb hby at_9) rfl rfl ?_
    show Steps p.tables e below (T5.setTop (mkF m 10 #[.val (.int p1), .val (.int off), .unset, .unset, .unset, .unset, .unset, .unset, .unset, .unset, .unset, .unset] [(.ref b), (.ref b)])) _
    refine XS.iconst X5.here hx rfl (hb hby at_10) ?_
    show Steps p.tables e below (T5.setTop (mkF m 11 #[.val (.int p1), .val (.int off), .unset, .unset, .unset, .unset, .unset, .unset, .unset, .unset, .unset, .unset] [(.int (1 : Int32)), (.ref b), (.ref b)])) _
    refine XS.bipush X5.here hx rfl (hb hby at_11) ?_
    exact Steps.refl _
  obtain ⟨T8, h8, X8, e8, W8, V8', st8⟩ := own_stI X5 hx hZ e5 V5 (j := (1 : Int32)) (i := 1) rfl ⟨by decide, Nat.le_of_ble_eq_true rfl⟩ (g := (mkF m 13 #[.val (.int p1), .val (.int off), .unset, .unset, .unset, .unset, .unset, .unset, .unset, .unset, .unset, .unset] [(.int (58 : Int32)), (.int (1 : Int32)), (.ref b), (.ref b)])) rfl rfl (hb hby at_13)
  have V8 : LA Z h8 b .int [(.int (-2147483648 : Int32)), (.int (58 : Int32)), (.int (0 : Int32)), (.int (0 : Int32)), (.int (0 : Int32)), (.int (0 : Int32)), (.int (0 : Int32)), (.int (0 : Int32)), (.int (0 : Int32)), (.int (0 : Int32)), (.int (0 : Int32)), (.int (0 : Int32)), (.int (0 : Int32)), (.int (0 : Int32)), (.int (0 : Int32)), (.int (0 : Int32)), (.int (0 : Int32)), (.int (0 : Int32)), (.int (0 : Int32)), (.int (0 : Int32)), (.int (0 : Int32)), (.int (0 : Int32)), (.int (0 : Int32)), (.int (0 : Int32)), (.int (0 : Int32)), (.int (0 : Int32)), (.int (0 : Int32)), (.int (0 : Int32)), (.int (0 : Int32)), (.int (0 : Int32)), (.int (0 : Int32)), (.int (0 : Int32)), (.int (0 : Int32))] := V8'
  have S9 : Steps p.tables e below Ω (T8.setTop (mkF m 14 #[.val (.int p1), .val (.int off), .unset, .unset, .unset, .unset, .unset, .unset, .unset, .unset, .unset, .unset] [(.ref b)])) := S7.trans (st8 _ (Steps.refl _))
  have N8 := Fr.snoc X8 N5 g_b
  have S10 : Steps p.tables e below Ω (T8.setTop (mkF m 18 #[.val (.int p1), .val (.int off), .unset, .unset, .unset, .unset, .unset, .unset, .unset, .unset, .unset, .unset] [(.int (59 : Int32)), (.int (2 : Int32)), (.ref b), (.ref b)])) := by
    refine S9.trans ?_
    refine XS.dup X8.here hx rfl (hb hby at_14) rfl rfl ?_
    show Steps p.tables e below (T8.setTop (mkF m 15 #[.val (.int p1), .val (.int off), .unset, .unset, .unset, .unset, .unset, .unset, .unset, .unset, .unset, .unset] [(.ref b), (.ref b)])) _
    refine XS.iconst X8.here hx rfl (hb hby at_15) ?_
    show Steps p.tables e below (T8.setTop (mkF m 16 #[.val (.int p1), .val (.int off), .unset, .unset, .unset, .unset, .unset, .unset, .unset, .unset, .unset, .unset] [(.int (2 : Int32)), (.ref b), (.ref b)])) _
    refine XS.bipush X8.here hx rfl (hb hby at_16) ?_
    exact Steps.refl _
  obtain ⟨T11, h11, X11, e11, W11, V11', st11⟩ := own_stI X8 hx hZ e8 V8 (j := (2 : Int32)) (i := 2) rfl ⟨by decide, Nat.le_of_ble_eq_true rfl⟩ (g := (mkF m 18 #[.val (.int p1), .val (.int off), .unset, .unset, .unset, .unset, .unset, .unset, .unset, .unset, .unset, .unset] [(.int (59 : Int32)), (.int (2 : Int32)), (.ref b), (.ref b)])) rfl rfl (hb hby at_18)
  have V11 : LA Z h11 b .int [(.int (-2147483648 : Int32)), (.int (58 : Int32)), (.int (59 : Int32)), (.int (0 : Int32)), (.int (0 : Int32)), (.int (0 : Int32)), (.int (0 : Int32)), (.int (0 : Int32)), (.int (0 : Int32)), (.int (0 : Int32)), (.int (0 : Int32)), (.int (0 : Int32)), (.int (0 : Int32)), (.int (0 : Int32)), (.int (0 : Int32)), (.int (0 : Int32)), (.int (0 : Int32)), (.int (0 : Int32)), (.int (0 : Int32)), (.int (0 : Int32)), (.int (0 : Int32)), (.int (0 : Int32)), (.int (0 : Int32)), (.int (0 : Int32)), (.int (0 : Int32)), (.int (0 : Int32)), (.int (0 : Int32)), (.int (0 : Int32)), (.int (0 : Int32)), (.int (0 : Int32)), (.int (0 : Int32)), (.int (0 : Int32)), (.int (0 : Int32))] := V11'
  have S12 : Steps p.tables e below Ω (T11.setTop (mkF m 19 #[.val (.int p1), .val (.int off), .unset, .unset, .unset, .unset, .unset, .unset, .unset, .unset, .unset, .unset] [(.ref b)])) := S10.trans (st11 _ (Steps.refl _))
  have N11 := Fr.snoc X11 N8 g_b
  have S13 : Steps p.tables e below Ω (T11.setTop (mkF m 23 #[.val (.int p1), .val (.int off), .unset, .unset, .unset, .unset, .unset, .unset, .unset, .unset, .unset, .unset] [(.int (65 : Int32)), (.int (3 : Int32)), (.ref b), (.ref b)])) := by
    refine S12.trans ?_
    refine XS.dup X11.here hx rfl (hb hby at_19) rfl rfl ?_
    show Steps p.tables e below (T11.setTop (mkF m 20 #[.val (.int p1), .val (.int off), .unset, .unset, .unset, .unset, .unset, .unset, .unset, .unset, .unset, .unset] [(.ref b), (.ref b)])) _
    refine XS.iconst X11.here hx rfl (hb hby at_20) ?_
    show Steps p.tables e below (T11.setTop (mkF m 21 #[.val (.int p1), .val (.int off), .unset, .unset, .unset, .unset, .unset, .unset, .unset, .unset, .unset, .unset] [(.int (3 : Int32)), (.ref b), (.ref b)])) _
    refine XS.bipush X11.here hx rfl (hb hby at_21) ?_
    exact Steps.refl _
  obtain ⟨T14, h14, X14, e14, W14, V14', st14⟩ := own_stI X11 hx hZ e11 V11 (j := (3 : Int32)) (i := 3) rfl ⟨by decide, Nat.le_of_ble_eq_true rfl⟩ (g := (mkF m 23 #[.val (.int p1), .val (.int off), .unset, .unset, .unset, .unset, .unset, .unset, .unset, .unset, .unset, .unset] [(.int (65 : Int32)), (.int (3 : Int32)), (.ref b), (.ref b)])) rfl rfl (hb hby at_23)
  have V14 : LA Z h14 b .int [(.int (-2147483648 : Int32)), (.int (58 : Int32)), (.int (59 : Int32)), (.int (65 : Int32)), (.int (0 : Int32)), (.int (0 : Int32)), (.int (0 : Int32)), (.int (0 : Int32)), (.int (0 : Int32)), (.int (0 : Int32)), (.int (0 : Int32)), (.int (0 : Int32)), (.int (0 : Int32)), (.int (0 : Int32)), (.int (0 : Int32)), (.int (0 : Int32)), (.int (0 : Int32)), (.int (0 : Int32)), (.int (0 : Int32)), (.int (0 : Int32)), (.int (0 : Int32)), (.int (0 : Int32)), (.int (0 : Int32)), (.int (0 : Int32)), (.int (0 : Int32)), (.int (0 : Int32)), (.int (0 : Int32)), (.int (0 : Int32)), (.int (0 : Int32)), (.int (0 : Int32)), (.int (0 : Int32)), (.int (0 : Int32)), (.int (0 : Int32))] := V14'
  have S15 : Steps p.tables e below Ω (T14.setTop (mkF m 24 #[.val (.int p1), .val (.int off), .unset, .unset, .unset, .unset, .unset, .unset, .unset, .unset, .unset, .unset] [(.ref b)])) := S13.trans (st14 _ (Steps.refl _))
  have N14 := Fr.snoc X14 N11 g_b
  have S16 : Steps p.tables e below Ω (T14.setTop (mkF m 28 #[.val (.int p1), .val (.int off), .unset, .unset, .unset, .unset, .unset, .unset, .unset, .unset, .unset, .unset] [(.int (91 : Int32)), (.int (4 : Int32)), (.ref b), (.ref b)])) := by
    refine S15.trans ?_
    refine XS.dup X14.here hx rfl (hb hby at_24) rfl rfl ?_
    show Steps p.tables e below (T14.setTop (mkF m 25 #[.val (.int p1), .val (.int off), .unset, .unset, .unset, .unset, .unset, .unset, .unset, .unset, .unset, .unset] [(.ref b), (.ref b)])) _
    refine XS.iconst X14.here hx rfl (hb hby at_25) ?_
    show Steps p.tables e below (T14.setTop (mkF m 26 #[.val (.int p1), .val (.int off), .unset, .unset, .unset, .unset, .unset, .unset, .unset, .unset, .unset, .unset] [(.int (4 : Int32)), (.ref b), (.ref b)])) _
    refine XS.bipush X14.here hx rfl (hb hby at_26) ?_
    exact Steps.refl _
  obtain ⟨T17, h17, X17, e17, W17, V17', st17⟩ := own_stI X14 hx hZ e14 V14 (j := (4 : Int32)) (i := 4) rfl ⟨by decide, Nat.le_of_ble_eq_true rfl⟩ (g := (mkF m 28 #[.val (.int p1), .val (.int off), .unset, .unset, .unset, .unset, .unset, .unset, .unset, .unset, .unset, .unset] [(.int (91 : Int32)), (.int (4 : Int32)), (.ref b), (.ref b)])) rfl rfl (hb hby at_28)
  have V17 : LA Z h17 b .int [(.int (-2147483648 : Int32)), (.int (58 : Int32)), (.int (59 : Int32)), (.int (65 : Int32)), (.int (91 : Int32)), (.int (0 : Int32)), (.int (0 : Int32)), (.int (0 : Int32)), (.int (0 : Int32)), (.int (0 : Int32)), (.int (0 : Int32)), (.int (0 : Int32)), (.int (0 : Int32)), (.int (0 : Int32)), (.int (0 : Int32)), (.int (0 : Int32)), (.int (0 : Int32)), (.int (0 : Int32)), (.int (0 : Int32)), (.int (0 : Int32)), (.int (0 : Int32)), (.int (0 : Int32)), (.int (0 : Int32)), (.int (0 : Int32)), (.int (0 : Int32)), (.int (0 : Int32)), (.int (0 : Int32)), (.int (0 : Int32)), (.int (0 : Int32)), (.int (0 : Int32)), (.int (0 : Int32)), (.int (0 : Int32)), (.int (0 : Int32))] := V17'
  have S18 : Steps p.tables e below Ω (T17.setTop (mkF m 29 #[.val (.int p1), .val (.int off), .unset, .unset, .unset, .unset, .unset, .unset, .unset, .unset, .unset, .unset] [(.ref b)])) := S16.trans (st17 _ (Steps.refl _))
  have N17 := Fr.snoc X17 N14 g_b
  have S19 : Steps p.tables e below Ω (T17.setTop (mkF m 33 #[.val (.int p1), .val (.int off), .unset, .unset, .unset, .unset, .unset, .unset, .unset, .unset, .unset, .unset] [(.int (95 : Int32)), (.int (5 : Int32)), (.ref b), (.ref b)])) := by
    refine S18.trans ?_
    refine XS.dup X17.here hx rfl (hb hby at_29) rfl rfl ?_
    show Steps p.tables e below (T17.setTop (mkF m 30 #[.val (.int p1), .val (.int off), .unset, .unset, .unset, .unset, .unset, .unset, .unset, .unset, .unset, .unset] [(.ref b), (.ref b)])) _
    refine XS.iconst X17.here hx rfl (hb hby at_30) ?_
    show Steps p.tables e below (T17.setTop (mkF m 31 #[.val (.int p1), .val (.int off), .unset, .unset, .unset, .unset, .unset, .unset, .unset, .unset, .unset, .unset] [(.int (5 : Int32)), (.ref b), (.ref b)])) _
    refine XS.bipush X17.here hx rfl (hb hby at_31) ?_
    exact Steps.refl _
  obtain ⟨T20, h20, X20, e20, W20, V20', st20⟩ := own_stI X17 hx hZ e17 V17 (j := (5 : Int32)) (i := 5) rfl ⟨by decide, Nat.le_of_ble_eq_true rfl⟩ (g := (mkF m 33 #[.val (.int p1), .val (.int off), .unset, .unset, .unset, .unset, .unset, .unset, .unset, .unset, .unset, .unset] [(.int (95 : Int32)), (.int (5 : Int32)), (.ref b), (.ref b)])) rfl rfl (hb hby at_33)
  have V20 : LA Z h20 b .int [(.int (-2147483648 : Int32)), (.int (58 : Int32)), (.int (59 : Int32)), (.int (65 : Int32)), (.int (91 : Int32)), (.int (95 : Int32)), (.int (0 : Int32)), (.int (0 : Int32)), (.int (0 : Int32)), (.int (0 : Int32)), (.int (0 : Int32)), (.int (0 : Int32)), (.int (0 : Int32)), (.int (0 : Int32)), (.int (0 : Int32)), (.int (0 : Int32)), (.int (0 : Int32)), (.int (0 : Int32)), (.int (0 : Int32)), (.int (0 : Int32)), (.int (0 : Int32)), (.int (0 : Int32)), (.int (0 : Int32)), (.int (0 : Int32)), (.int (0 : Int32)), (.int (0 : Int32)), (.int (0 : Int32)), (.int (0 : Int32)), (.int (0 : Int32)), (.int (0 : Int32)), (.int (0 : Int32)), (.int (0 : Int32)), (.int (0 : Int32))] := V20'
  have S21 : Steps p.tables e below Ω (T20.setTop (mkF m 34 #[.val (.int p1), .val (.int off), .unset, .unset, .unset, .unset, .unset, .unset, .unset, .unset, .unset, .unset] [(.ref b)])) := S19.trans (st20 _ (Steps.refl _))
  have N20 := Fr.snoc X20 N17 g_b
  have S22 : Steps p.tables e below Ω (T20.setTop (mkF m 39 #[.val (.int p1), .val (.int off), .unset, .unset, .unset, .unset, .unset, .unset, .unset, .unset, .unset, .unset] [(.int (96 : Int32)), (.int (6 : Int32)), (.ref b), (.ref b)])) := by
    refine S21.trans ?_
    refine XS.dup X20.here hx rfl (hb hby at_34) rfl rfl ?_
    show Steps p.tables e below (T20.setTop (mkF m 35 #[.val (.int p1), .val (.int off), .unset, .unset, .unset, .unset, .unset, .unset, .unset, .unset, .unset, .unset] [(.ref b), (.ref b)])) _
    refine XS.bipush X20.here hx rfl (hb hby at_35) ?_
    show Steps p.tables e below (T20.setTop (mkF m 37 #[.val (.int p1), .val (.int off), .unset, .unset, .unset, .unset, .unset, .unset, .unset, .unset, .unset, .unset] [(.int (6 : Int32)), (.ref b), (.ref b)])) _
    refine XS.bipush X20.here hx rfl (hb hby at_37) ?_
    exact Steps.refl _
  obtain ⟨T23, h23, X23, e23, W23, V23', st23⟩ := own_stI X20 hx hZ e20 V20 (j := (6 : Int32)) (i := 6) rfl ⟨by decide, Nat.le_of_ble_eq_true rfl⟩ (g := (mkF m 39 #[.val (.int p1), .val (.int off), .unset, .unset, .unset, .unset, .unset, .unset, .unset, .unset, .unset, .unset] [(.int (96 : Int32)), (.int (6 : Int32)), (.ref b), (.ref b)])) rfl rfl (hb hby at_39)
  have V23 : LA Z h23 b .int [(.int (-2147483648 : Int32)), (.int (58 : Int32)), (.int (59 : Int32)), (.int (65 : Int32)), (.int (91 : Int32)), (.int (95 : Int32)), (.int (96 : Int32)), (.int (0 : Int32)), (.int (0 : Int32)), (.int (0 : Int32)), (.int (0 : Int32)), (.int (0 : Int32)), (.int (0 : Int32)), (.int (0 : Int32)), (.int (0 : Int32)), (.int (0 : Int32)), (.int (0 : Int32)), (.int (0 : Int32)), (.int (0 : Int32)), (.int (0 : Int32)), (.int (0 : Int32)), (.int (0 : Int32)), (.int (0 : Int32)), (.int (0 : Int32)), (.int (0 : Int32)), (.int (0 : Int32)), (.int (0 : Int32)), (.int (0 : Int32)), (.int (0 : Int32)), (.int (0 : Int32)), (.int (0 : Int32)), (.int (0 : Int32)), (.int (0 : Int32))] := V23'
  have S24 : Steps p.tables e below Ω (T23.setTop (mkF m 40 #[.val (.int p1), .val (.int off), .unset, .unset, .unset, .unset, .unset, .unset, .unset, .unset, .unset, .unset] [(.ref b)])) := S22.trans (st23 _ (Steps.refl _))
  have N23 := Fr.snoc X23 N20 g_b
  have S25 : Steps p.tables e below Ω (T23.setTop (mkF m 45 #[.val (.int p1), .val (.int off), .unset, .unset, .unset, .unset, .unset, .unset, .unset, .unset, .unset, .unset] [(.int (97 : Int32)), (.int (7 : Int32)), (.ref b), (.ref b)])) := by
    refine S24.trans ?_
    refine XS.dup X23.here hx rfl (hb hby at_40) rfl rfl ?_
    show Steps p.tables e below (T23.setTop (mkF m 41 #[.val (.int p1), .val (.int off), .unset, .unset, .unset, .unset, .unset, .unset, .unset, .unset, .unset, .unset] [(.ref b), (.ref b)])) _
    refine XS.bipush X23.here hx rfl (hb hby at_41) ?_
    show Steps p.tables e below (T23.setTop (mkF m 43 #[.val (.int p1), .val (.int off), .unset, .unset, .unset, .unset, .unset, .unset, .unset, .unset, .unset, .unset] [(.int (7 : Int32)), (.ref b), (.ref b)])) _
    refine XS.bipush X23.here hx rfl (hb hby at_43) ?_
    exact Steps.refl _
  obtain ⟨T26, h26, X26, e26, W26, V26', st26⟩ := own_stI X23 hx hZ e23 V23 (j := (7 : Int32)) (i := 7) rfl ⟨by decide, Nat.le_of_ble_eq_true rfl⟩ (g := (mkF m 45 #[.val (.int p1), .val (.int off), .unset, .unset, .unset, .unset, .unset, .unset, .unset, .unset, .unset, .unset] [(.int (97 : Int32)), (.int (7 : Int32)), (.ref b), (.ref b)])) rfl rfl (hb hby at_45)
  have V26 : LA Z h26 b .int [(.int (-2147483648 : Int32)), (.int (58 : Int32)), (.int (59 : Int32)), (.int (65 : Int32)), (.int (91 : Int32)), (.int (95 : Int32)), (.int (96 : Int32)), (.int (97 : Int32)), (.int (0 : Int32)), (.int (0 : Int32)), (.int (0 : Int32)), (.int (0 : Int32)), (.int (0 : Int32)), (.int (0 : Int32)), (.int (0 : Int32)), (.int (0 : Int32)), (.int (0 : Int32)), (.int (0 : Int32)), (.int (0 : Int32)), (.int (0 : Int32)), (.int (0 : Int32)), (.int (0 : Int32)), (.int (0 : Int32)), (.int (0 : Int32)), (.int (0 : Int32)), (.int (0 : Int32)), (.int (0 : Int32)), (.int (0 : Int32)), (.int (0 : Int32)), (.int (0 : Int32)), (.int (0 : Int32)), (.int (0 : Int32)), (.int (0 : Int32))] := V26'
  have S27 : Steps p.tables e below Ω (T26.setTop (mkF m 46 #[.val (.int p1), .val (.int off), .unset, .unset, .unset, .unset, .unset, .unset, .unset, .unset, .unset, .unset] [(.ref b)])) := S25.trans (st26 _ (Steps.refl _))
  have N26 := Fr.snoc X26 N23 g_b
  have S28 : Steps p.tables e below Ω (T26.setTop (mkF m 51 #[.val (.int p1), .val (.int off), .unset, .unset, .unset, .unset, .unset, .unset, .unset, .unset, .unset, .unset] [(.int (123 : Int32)), (.int (8 : Int32)), (.ref b), (.ref b)])) := by
    refine S27.trans ?_
    refine XS.dup X26.here hx rfl (hb hby at_46) rfl rfl ?_
    show Steps p.tables e below (T26.setTop (mkF m 47 #[.val (.int p1), .val (.int off), .unset, .unset, .unset, .unset, .unset, .unset, .unset, .unset, .unset, .unset] [(.ref b), (.ref b)])) _
    refine XS.bipush X26.here hx rfl (hb hby at_47) ?_
    show Steps p.tables e below (T26.setTop (mkF m 49 #[.val (.int p1), .val (.int off), .unset, .unset, .unset, .unset, .unset, .unset, .unset, .unset, .unset, .unset] [(.int (8 : Int32)), (.ref b), (.ref b)])) _
    refine XS.bipush X26.here hx rfl (hb hby at_49) ?_
    exact Steps.refl _
  obtain ⟨T29, h29, X29, e29, W29, V29', st29⟩ := own_stI X26 hx hZ e26 V26 (j := (8 : Int32)) (i := 8) rfl ⟨by decide, Nat.le_of_ble_eq_true rfl⟩ (g := (mkF m 51 #[.val (.int p1), .val (.int off), .unset, .unset, .unset, .unset, .unset, .unset, .unset, .unset, .unset, .unset] [(.int (123 : Int32)), (.int (8 : Int32)), (.ref b), (.ref b)])) rfl rfl (hb hby at_51)
  have V29 : LA Z h29 b .int [(.int (-2147483648 : Int32)), (.int (58 : Int32)), (.int (59 : Int32)), (.int (65 : Int32)), (.int (91 : Int32)), (.int (95 : Int32)), (.int (96 : Int32)), (.int (97 : Int32)), (.int (123 : Int32)), (.int (0 : Int32)), (.int (0 : Int32)), (.int (0 : Int32)), (.int (0 : Int32)), (.int (0 : Int32)), (.int (0 : Int32)), (.int (0 : Int32)), (.int (0 : Int32)), (.int (0 : Int32)), (.int (0 : Int32)), (.int (0 : Int32)), (.int (0 : Int32)), (.int (0 : Int32)), (.int (0 : Int32)), (.int (0 : Int32)), (.int (0 : Int32)), (.int (0 : Int32)), (.int (0 : Int32)), (.int (0 : Int32)), (.int (0 : Int32)), (.int (0 : Int32)), (.int (0 : Int32)), (.int (0 : Int32)), (.int (0 : Int32))] := V29'
  have S30 : Steps p.tables e below Ω (T29.setTop (mkF m 52 #[.val (.int p1), .val (.int off), .unset, .unset, .unset, .unset, .unset, .unset, .unset, .unset, .unset, .unset] [(.ref b)])) := S28.trans (st29 _ (Steps.refl _))
  have N29 := Fr.snoc X29 N26 g_b
  have S31 : Steps p.tables e below Ω (T29.setTop (mkF m 58 #[.val (.int p1), .val (.int off), .unset, .unset, .unset, .unset, .unset, .unset, .unset, .unset, .unset, .unset] [(.int (192 : Int32)), (.int (9 : Int32)), (.ref b), (.ref b)])) := by
    refine S30.trans ?_
    refine XS.dup X29.here hx rfl (hb hby at_52) rfl rfl ?_
    show Steps p.tables e below (T29.setTop (mkF m 53 #[.val (.int p1), .val (.int off), .unset, .unset, .unset, .unset, .unset, .unset, .unset, .unset, .unset, .unset] [(.ref b), (.ref b)])) _
    refine XS.bipush X29.here hx rfl (hb hby at_53) ?_
    show Steps p.tables e below (T29.setTop (mkF m 55 #[.val (.int p1), .val (.int off), .unset, .unset, .unset, .unset, .unset, .unset, .unset, .unset, .unset, .unset] [(.int (9 : Int32)), (.ref b), (.ref b)])) _
    refine XS.sipush X29.here hx rfl (hb hby at_55) ?_
    exact Steps.refl _
  obtain ⟨T32, h32, X32, e32, W32, V32', st32⟩ := own_stI X29 hx hZ e29 V29 (j := (9 : Int32)) (i := 9) rfl ⟨by decide, Nat.le_of_ble_eq_true rfl⟩ (g := (mkF m 58 #[.val (.int p1), .val (.int off), .unset, .unset, .unset, .unset, .unset, .unset, .unset, .unset, .unset, .unset] [(.int (192 : Int32)), (.int (9 : Int32)), (.ref b), (.ref b)])) rfl rfl (hb hby at_58)
  have V32 : LA Z h32 b .int [(.int (-2147483648 : Int32)), (.int (58 : Int32)), (.int (59 : Int32)), (.int (65 : Int32)), (.int (91 : Int32)), (.int (95 : Int32)), (.int (96 : Int32)), (.int (97 : Int32)), (.int (123 : Int32)), (.int (192 : Int32)), (.int (0 : Int32)), (.int (0 : Int32)), (.int (0 : Int32)), (.int (0 : Int32)), (.int (0 : Int32)), (.int (0 : Int32)), (.int (0 : Int32)), (.int (0 : Int32)), (.int (0 : Int32)), (.int (0 : Int32)), (.int (0 : Int32)), (.int (0 : Int32)), (.int (0 : Int32)), (.int (0 : Int32)), (.int (0 : Int32)), (.int (0 : Int32)), (.int (0 : Int32)), (.int (0 : Int32)), (.int (0 : Int32)), (.int (0 : Int32)), (.int (0 : Int32)), (.int (0 : Int32)), (.int (0 : Int32))] := V32'
  have S33 : Steps p.tables e below Ω (T32.setTop (mkF m 59 #[.val (.int p1), .val (.int off), .unset, .unset, .unset, .unset, .unset, .unset, .unset, .unset, .unset, .unset] [(.ref b)])) := S31.trans (st32 _ (Steps.refl _))
  have N32 := Fr.snoc X32 N29 g_b
  have S34 : Steps p.tables e below Ω (T32.setTop (mkF m 65 #[.val (.int p1), .val (.int off), .unset, .unset, .unset, .unset, .unset, .unset, .unset, .unset, .unset, .unset] [(.int (215 : Int32)), (.int (10 : Int32)), (.ref b), (.ref b)])) := by
    refine S33.trans ?_
    refine XS.dup X32.here hx rfl (hb hby at_59) rfl rfl ?_
    show Steps p.tables e below (T32.setTop (mkF m 60 #[.val (.int p1), .val (.int off), .unset, .unset, .unset, .unset, .unset, .unset, .unset, .unset, .unset, .unset] [(.ref b), (.ref b)])) _
    refine XS.bipush X32.here hx rfl (hb hby at_60) ?_
    show Steps p.tables e below (T32.setTop (mkF m 62 #[.val (.int p1), .val (.int off), .unset, .unset, .unset, .unset, .unset, .unset, .unset, .unset, .unset, .unset] [(.int (10 : Int32)), (.ref b), (.ref b)])) _
    refine XS.sipush X32.here hx rfl (hb hby at_62) ?_
    exact Steps.refl _
  obtain ⟨T35, h35, X35, e35, W35, V35', st35⟩ := own_stI X32 hx hZ e32 V32 (j := (10 : Int32)) (i := 10) rfl ⟨by decide, Nat.le_of_ble_eq_true rfl⟩ (g := (mkF m 65 #[.val (.int p1), .val (.int off), .unset, .unset, .unset, .unset, .unset, .unset, .unset, .unset, .unset, .unset] [(.int (215 : Int32)), (.int (10 : Int32)), (.ref b), (.ref b)])) rfl rfl (hb hby at_65)
  have V35 : LA Z h35 b .int [(.int (-2147483648 : Int32)), (.int (58 : Int32)), (.int (59 : Int32)), (.int (65 : Int32)), (.int (91 : Int32)), (.int (95 : Int32)), (.int (96 : Int32)), (.int (97 : Int32)), (.int (123 : Int32)), (.int (192 : Int32)), (.int (215 : Int32)), (.int (0 : Int32)), (.int (0 : Int32)), (.int (0 : Int32)), (.int (0 : Int32)), (.int (0 : Int32)), (.int (0 : Int32)), (.int (0 : Int32)), (.int (0 : Int32)), (.int (0 : Int32)), (.int (0 : Int32)), (.int (0 : Int32)), (.int (0 : Int32)), (.int (0 : Int32)), (.int (0 : Int32)), (.int (0 : Int32)), (.int (0 : Int32)), (.int (0 : Int32)), (.int (0 : Int32)), (.int (0 : Int32)), (.int (0 : Int32)), (.int (0 : Int32)), (.int (0 : Int32))] := V35'
  have S36 : Steps p.tables e below Ω (T35.setTop (mkF m 66 #[.val (.int p1), .val (.int off), .unset, .unset, .unset, .unset, .unset, .unset, .unset, .unset, .unset, .unset] [(.ref b)])) := S34.trans (st35 _ (Steps.refl _))
  have N35 := Fr.snoc X35 N32 g_b
  have S37 : Steps p.tables e below Ω (T35.setTop (mkF m 72 #[.val (.int p1), .val (.int off), .unset, .unset, .unset, .unset, .unset, .unset, .unset, .unset, .unset, .unset] [(.int (216 : Int32)), (.int (11 : Int32)), (.ref b), (.ref b)])) := by
    refine S36.trans ?_
    refine XS.dup X35.here hx rfl (hb hby at_66) rfl rfl ?_
    show Steps p.tables e below (T35.setTop (mkF m 67 #[.val (.int p1), .val (.int off), .unset, .unset, .unset, .unset, .unset, .unset, .unset, .unset, .unset, .unset] [(.ref b), (.ref b)])) _
    refine XS.bipush X35.here hx rfl (hb hby at_67) ?_
    show Steps p.tables e below (T35.setTop (mkF m 69 #[.val (.int p1), .val (.int off), .unset, .unset, .unset, .unset, .unset, .unset, .unset, .unset, .unset, .unset] [(.int (11 : Int32)), (.ref b), (.ref b)])) _
    refine XS.sipush X35.here hx rfl (hb hby at_69) ?_
    exact Steps.refl _
  obtain ⟨T38, h38, X38, e38, W38, V38', st38⟩ := own_stI X35 hx hZ e35 V35 (j := (11 : Int32)) (i := 11) rfl ⟨by decide, Nat.le_of_ble_eq_true rfl⟩ (g := (mkF m 72 #[.val (.int p1), .val (.int off), .unset, .unset, .unset, .unset, .unset, .unset, .unset, .unset, .unset, .unset] [(.int (216 : Int32)), (.int (11 : Int32)), (.ref b), (.ref b)])) rfl rfl (hb hby at_72)
  have V38 : LA Z h38 b .int [(.int (-2147483648 : Int32)), (.int (58 : Int32)), (.int (59 : Int32)), (.int (65 : Int32)), (.int (91 : Int32)), (.int (95 : Int32)), (.int (96 : Int32)), (.int (97 : Int32)), (.int (123 : Int32)), (.int (192 : Int32)), (.int (215 : Int32)), (.int (216 : Int32)), (.int (0 : Int32)), (.int (0 : Int32)), (.int (0 : Int32)), (.int (0 : Int32)), (.int (0 : Int32)), (.int (0 : Int32)), (.int (0 : Int32)), (.int (0 : Int32)), (.int (0 : Int32)), (.int (0 : Int32)), (.int (0 : Int32)), (.int (0 : Int32)), (.int (0 : Int32)), (.int (0 : Int32)), (.int (0 : Int32)), (.int (0 : Int32)), (.int (0 : Int32)), (.int (0 : Int32)), (.int (0 : Int32)), (.int (0 : Int32)), (.int (0 : Int32))] := V38'
  have S39 : Steps p.tables e below Ω (T38.setTop (mkF m 73 #[.val (.int p1), .val (.int off), .unset, .unset, .unset, .unset, .unset, .unset, .unset, .unset, .unset, .unset] [(.ref b)])) := S37.trans (st38 _ (Steps.refl _))
  have N38 := Fr.snoc X38 N35 g_b
  have S40 : Steps p.tables e below Ω (T38.setTop (mkF m 79 #[.val (.int p1), .val (.int off), .unset, .unset, .unset, .unset, .unset, .unset, .unset, .unset, .unset, .unset] [(.int (247 : Int32)), (.int (12 : Int32)), (.ref b), (.ref b)])) := by
    refine S39.trans ?_
    refine XS.dup X38.here hx rfl (hb hby at_73) rfl rfl ?_
    show Steps p.tables e below (T38.setTop (mkF m 74 #[.val (.int p1), .val (.int off), .unset, .unset, .unset, .unset, .unset, .unset, .unset, .unset, .unset, .unset] [(.ref b), (.ref b)])) _
    refine XS.bipush X38.here hx rfl (hb hby at_74) ?_
    show Steps p.tables e below (T38.setTop (mkF m 76 #[.val (.int p1), .val (.int off), .unset, .unset, .unset, .unset, .unset, .unset, .unset, .unset, .unset, .unset] [(.int (12 : Int32)), (.ref b), (.ref b)])) _
    refine XS.sipush X38.here hx rfl (hb hby at_76) ?_
    exact Steps.refl _
  obtain ⟨T41, h41, X41, e41, W41, V41', st41⟩ := own_stI X38 hx hZ e38 V38 (j := (12 : Int32)) (i := 12) rfl ⟨by decide, Nat.le_of_ble_eq_true rfl⟩ (g := (mkF m 79 #[.val (.int p1), .val (.int off), .unset, .unset, .unset, .unset, .unset, .unset, .unset, .unset, .unset, .unset] [(.int (247 : Int32)), (.int (12 : Int32)), (.ref b), (.ref b)])) rfl rfl (hb hby at_79)
  have V41 : LA Z h41 b .int [(.int (-2147483648 : Int32)), (.int (58 : Int32)), (.int (59 : Int32)), (.int (65 : Int32)), (.int (91 : Int32)), (.int (95 : Int32)), (.int (96 : Int32)), (.int (97 : Int32)), (.int (123 : Int32)), (.int (192 : Int32)), (.int (215 : Int32)), (.int (216 : Int32)), (.int (247 : Int32)), (.int (0 : Int32)), (.int (0 : Int32)), (.int (0 : Int32)), (.int (0 : Int32)), (.int (0 : Int32)), (.int (0 : Int32)), (.int (0 : Int32)), (.int (0 : Int32)), (.int (0 : Int32)), (.int (0 : Int32)), (.int (0 : Int32)), (.int (0 : Int32)), (.int (0 : Int32)), (.int (0 : Int32)), (.int (0 : Int32)), (.int (0 : Int32)), (.int (0 : Int32)), (.int (0 : Int32)), (.int (0 : Int32)), (.int (0 : Int32))] := V41'
  have S42 : Steps p.tables e below Ω (T41.setTop (mkF m 80 #[.val (.int p1), .val (.int off), .unset, .unset, .unset, .unset, .unset, .unset, .unset, .unset, .unset, .unset] [(.ref b)])) := S40.trans (st41 _ (Steps.refl _))
  have N41 := Fr.snoc X41 N38 g_b
  have S43 : Steps p.tables e below Ω (T41.setTop (mkF m 86 #[.val (.int p1), .val (.int off), .unset, .unset, .unset, .unset, .unset, .unset, .unset, .unset, .unset, .unset] [(.int (248 : Int32)), (.int (13 : Int32)), (.ref b), (.ref b)])) := by
    refine S42.trans ?_
    refine XS.dup X41.here hx rfl (hb hby at_80) rfl rfl ?_
    show Steps p.tables e below (T41.setTop (mkF m 81 #[.val (.int p1), .val (.int off), .unset, .unset, .unset, .unset, .unset, .unset, .unset, .unset, .unset, .unset] [(.ref b), (.ref b)])) _
    refine XS.bipush X41.here hx rfl (hb hby at_81) ?_
    show Steps p.tables e below (T41.setTop (mkF m 83 #[.val (.int p1), .val (.int off), .unset, .unset, .unset, .unset, .unset, .unset, .unset, .unset, .unset, .unset] [(.int (13 : Int32)), (.ref b), (.ref b)])) _
    refine XS.sipush X41.here hx rfl (hb hby at_83) ?_
    exact Steps.refl _
  obtain ⟨T44, h44, X44, e44, W44, V44', st44⟩ := own_stI X41 hx hZ e41 V41 (j := (13 : Int32)) (i := 13) rfl ⟨by decide, Nat.le_of_ble_eq_true rfl⟩ (g := (mkF m 86 #[.val (.int p1), .val (.int off), .unset, .unset, .unset, .unset, .unset, .unset, .unset, .unset, .unset, .unset] [(.int (248 : Int32)), (.int (13 : Int32)), (.ref b), (.ref b)])) rfl rfl (hb hby at_86)
  have V44 : LA Z h44 b .int [(.int (-2147483648 : Int32)), (.int (58 : Int32)), (.int (59 : Int32)), (.int (65 : Int32)), (.int (91 : Int32)), (.int (95 : Int32)), (.int (96 : Int32)), (.int (97 : Int32)), (.int (123 : Int32)), (.int (192 : Int32)), (.int (215 : Int32)), (.int (216 : Int32)), (.int (247 : Int32)), (.int (248 : Int32)), (.int (0 : Int32)), (.int (0 : Int32)), (.int (0 : Int32)), (.int (0 : Int32)), (.int (0 : Int32)), (.int (0 : Int32)), (.int (0 : Int32)), (.int (0 : Int32)), (.int (0 : Int32)), (.int (0 : Int32)), (.int (0 : Int32)), (.int (0 : Int32)), (.int (0 : Int32)), (.int (0 : Int32)), (.int (0 : Int32)), (.int (0 : Int32)), (.int (0 : Int32)), (.int (0 : Int32)), (.int (0 : Int32))] := V44'
  have S45 : Steps p.tables e below Ω (T44.setTop (mkF m 87 #[.val (.int p1), .val (.int off), .unset, .unset, .unset, .unset, .unset, .unset, .unset, .unset, .unset, .unset] [(.ref b)])) := S43.trans (st44 _ (Steps.refl _))
  have N44 := Fr.snoc X44 N41 g_b
  have S46 : Steps p.tables e below Ω (T44.setTop (mkF m 93 #[.val (.int p1), .val (.int off), .unset, .unset, .unset, .unset, .unset, .unset, .unset, .unset, .unset, .unset] [(.int (768 : Int32)), (.int (14 : Int32)), (.ref b), (.ref b)])) := by
    refine S45.trans ?_
    refine XS.dup X44.here hx rfl (hb hby at_87) rfl rfl ?_
    show Steps p.tables e below (T44.setTop (mkF m 88 #[.val (.int p1), .val (.int off), .unset, .unset, .unset, .unset, .unset, .unset, .unset, .unset, .unset, .unset] [(.ref b), (.ref b)])) _
    refine XS.bipush X44.here hx rfl (hb hby at_88) ?_
    show Steps p.tables e below (T44.setTop (mkF m 90 #[.val (.int p1), .val (.int off), .unset, .unset, .unset, .unset, .unset, .unset, .unset, .unset, .unset, .unset] [(.int (14 : Int32)), (.ref b), (.ref b)])) _
    refine XS.sipush X44.here hx rfl (hb hby at_90) ?_
    exact Steps.refl _
  obtain ⟨T47, h47, X47, e47, W47, V47', st47⟩ := own_stI X44 hx hZ e44 V44 (j := (14 : Int32)) (i := 14) rfl ⟨by decide, Nat.le_of_ble_eq_true rfl⟩ (g := (mkF m 93 #[.val (.int p1), .val (.int off), .unset, .unset, .unset, .unset, .unset, .unset, .unset, .unset, .unset, .unset] [(.int (768 : Int32)), (.int (14 : Int32)), (.ref b), (.ref b)])) rfl rfl (hb hby at_93)
  have V47 : LA Z h47 b .int [(.int (-2147483648 : Int32)), (.int (58 : Int32)), (.int (59 : Int32)), (.int (65 : Int32)), (.int (91 : Int32)), (.int (95 : Int32)), (.int (96 : Int32)), (.int (97 : Int32)), (.int (123 : Int32)), (.int (192 : Int32)), (.int (215 : Int32)), (.int (216 : Int32)), (.int (247 : Int32)), (.int (248 : Int32)), (.int (768 : Int32)), (.int (0 : Int32)), (.int (0 : Int32)), (.int (0 : Int32)), (.int (0 : Int32)), (.int (0 : Int32)), (.int (0 : Int32)), (.int (0 : Int32)), (.int (0 : Int32)), (.int (0 : Int32)), (.int (0 : Int32)), (.int (0 : Int32)), (.int (0 : Int32)), (.int (0 : Int32)), (.int (0 : Int32)), (.int (0 : Int32)), (.int (0 : Int32)), (.int (0 : Int32)), (.int (0 : Int32))] := V47'
  have S48 : Steps p.tables e below Ω (T47.setTop (mkF m 94 #[.val (.int p1), .val (.int off), .unset, .unset, .unset, .unset, .unset, .unset, .unset, .unset, .unset, .unset] [(.ref b)])) := S46.trans (st47 _ (Steps.refl _))
  have N47 := Fr.snoc X47 N44 g_b
  have S49 : Steps p.tables e below Ω (T47.setTop (mkF m 100 #[.val (.int p1), .val (.int off), .unset, .unset, .unset, .unset, .unset, .unset, .unset, .unset, .unset, .unset] [(.int (880 : Int32)), (.int (15 : Int32)), (.ref b), (.ref b)])) := by
    refine S48.trans ?_
    refine XS.dup X47.here hx rfl (hb hby at_94) rfl rfl ?_
    show Steps p.tables e below (T47.setTop (mkF m 95 #[.val (.int p1), .val (.int off), .unset, .unset, .unset, .unset, .unset, .unset, .unset, .unset, .unset, .unset] [(.ref b), (.ref b)])) _
    refine XS.bipush X47.here hx rfl (hb hby at_95) ?_
    show Steps p.tables e below (T47.setTop (mkF m 97 #[.val (.int p1), .val (.int off), .unset, .unset, .unset, .unset, .unset, .unset, .unset, .unset, .unset, .unset] [(.int (15 : Int32)), (.ref b), (.ref b)])) _
    refine XS.sipush X47.here hx rfl (hb hby at_97) ?_
    exact Steps.refl _
  obtain ⟨T50, h50, X50, e50, W50, V50', st50⟩ := own_stI X47 hx hZ e47 V47 (j := (15 : Int32)) (i := 15) rfl ⟨by decide, Nat.le_of_ble_eq_true rfl⟩ (g := (mkF m 100 #[.val (.int p1), .val (.int off), .unset, .unset, .unset, .unset, .unset, .unset, .unset, .unset, .unset, .unset] [(.int (880 : Int32)), (.int (15 : Int32)), (.ref b), (.ref b)])) rfl rfl (hb hby at_100)
  have V50 : LA Z h50 b .int [(.int (-2147483648 : Int32)), (.int (58 : Int32)), (.int (59 : Int32)), (.int (65 : Int32)), (.int (91 : Int32)), (.int (95 : Int32)), (.int (96 : Int32)), (.int (97 : Int32)), (.int (123 : Int32)), (.int (192 : Int32)), (.int (215 : Int32)), (.int (216 : Int32)), (.int (247 : Int32)), (.int (248 : Int32)), (.int (768 : Int32)), (.int (880 : Int32)), (.int (0 : Int32)), (.int (0 : Int32)), (.int (0 : Int32)), (.int (0 : Int32)), (.int (0 : Int32)), (.int (0 : Int32)), (.int (0 : Int32)), (.int (0 : Int32)), (.int (0 : Int32)), (.int (0 : Int32)), (.int (0 : Int32)), (.int (0 : Int32)), (.int (0 : Int32)), (.int (0 : Int32)), (.int (0 : Int32)), (.int (0 : Int32)), (.int (0 : Int32))] := V50'
  have S51 : Steps p.tables e below Ω (T50.setTop (mkF m 101 #[.val (.int p1), .val (.int off), .unset, .unset, .unset, .unset, .unset, .unset, .unset, .unset, .unset, .unset] [(.ref b)])) := S49.trans (st50 _ (Steps.refl _))
  have N50 := Fr.snoc X50 N47 g_b
  have S52 : Steps p.tables e below Ω (T50.setTop (mkF m 107 #[.val (.int p1), .val (.int off), .unset, .unset, .unset, .unset, .unset, .unset, .unset, .unset, .unset, .unset] [(.int (894 : Int32)), (.int (16 : Int32)), (.ref b), (.ref b)])) := by
    refine S51.trans ?_
    refine XS.dup X50.here hx rfl (hb hby at_101) rfl rfl ?_
    show Steps p.tables e below (T50.setTop (mkF m 102 #[.val (.int p1), .val (.int off), .unset, .unset, .unset, .unset, .unset, .unset, .unset, .unset, .unset, .unset] [(.ref b), (.ref b)])) _
    refine XS.bipush X50.here hx rfl (hb hby at_102) ?_
    show Steps p.tables e below (T50.setTop (mkF m 104 #[.val (.int p1), .val (.int off), .unset, .unset, .unset, .unset, .unset, .unset, .unset, .unset, .unset, .unset] [(.int (16 : Int32)), (.ref b), (.ref b)])) _
    refine XS.sipush X50.here hx rfl (hb hby at_104) ?_
    exact Steps.refl _
  obtain ⟨T53, h53, X53, e53, W53, V53', st53⟩ := own_stI X50 hx hZ e50 V50 (j := (16 : Int32)) (i := 16) rfl ⟨by decide, Nat.le_of_ble_eq_true rfl⟩ (g := (mkF m 107 #[.val (.int p1), .val (.int off), .unset, .unset, .unset, .unset, .unset, .unset, .unset, .unset, .unset, .unset] [(.int (894 : Int32)), (.int (16 : Int32)), (.ref b), (.ref b)])) rfl rfl (hb hby at_107)
  have V53 : LA Z h53 b .int [(.int (-2147483648 : Int32)), (.int (58 : Int32)), (.int (59 : Int32)), (.int (65 : Int32)), (.int (91 : Int32)), (.int (95 : Int32)), (.int (96 : Int32)), (.int (97 : Int32)), (.int (123 : Int32)), (.int (192 : Int32)), (.int (215 : Int32)), (.int (216 : Int32)), (.int (247 : Int32)), (.int (248 : Int32)), (.int (768 : Int32)), (.int (880 : Int32)), (.int (894 : Int32)), (.int (0 : Int32)), (.int (0 : Int32)), (.int (0 : Int32)), (.int (0 : Int32)), (.int (0 : Int32)), (.int (0 : Int32)), (.int (0 : Int32)), (.int (0 : Int32)), (.int (0 : Int32)), (.int (0 : Int32)), (.int (0 : Int32)), (.int (0 : Int32)), (.int (0 : Int32)), (.int (0 : Int32)), (.int (0 : Int32)), (.int (0 : Int32))] := V53'
  have S54 : Steps p.tables e below Ω (T53.setTop (mkF m 108 #[.val (.int p1), .val (.int off), .unset, .unset, .unset, .unset, .unset, .unset, .unset, .unset, .unset, .unset] [(.ref b)])) := S52.trans (st53 _ (Steps.refl _))
  have N53 := Fr.snoc X53 N50 g_b
  have S55 : Steps p.tables e below Ω (T53.setTop (mkF m 114 #[.val (.int p1), .val (.int off), .unset, .unset, .unset, .unset, .unset, .unset, .unset, .unset, .unset, .unset] [(.int (895 : Int32)), (.int (17 : Int32)), (.ref b), (.ref b)])) := by
    refine S54.trans ?_
    refine XS.dup X53.here hx rfl (hb hby at_108) rfl rfl ?_
    show Steps p.tables e below (T53.setTop (mkF m 109 #[.val (.int p1), .val (.int off), .unset, .unset, .unset, .unset, .unset, .unset, .unset, .unset, .unset, .unset] [(.ref b), (.ref b)])) _
    refine XS.bipush X53.here hx rfl (hb hby at_109) ?_
    show Steps p.tables e below (T53.setTop (mkF m 111 #[.val (.int p1), .val (.int off), .unset, .unset, .unset, .unset, .unset, .unset, .unset, .unset, .unset, .unset] [(.int (17 : Int32)), (.ref b), (.ref b)])) _
    refine XS.sipush X53.here hx rfl (hb hby at_111) ?_
    exact Steps.refl _
  obtain ⟨T56, h56, X56, e56, W56, V56', st56⟩ := own_stI X53 hx hZ e53 V53 (j := (17 : Int32)) (i := 17) rfl ⟨by decide, Nat.le_of_ble_eq_true rfl⟩ (g := (mkF m 114 #[.val (.int p1), .val (.int off), .unset, .unset, .unset, .unset, .unset, .unset, .unset, .unset, .unset, .unset] [(.int (895 : Int32)), (.int (17 : Int32)), (.ref b), (.ref b)])) rfl rfl (hb hby at_114)
  have V56 : LA Z h56 b .int [(.int (-2147483648 : Int32)), (.int (58 : Int32)), (.int (59 : Int32)), (.int (65 : Int32)), (.int (91 : Int32)), (.int (95 : Int32)), (.int (96 : Int32)), (.int (97 : Int32)), (.int (123 : Int32)), (.int (192 : Int32)), (.int (215 : Int32)), (.int (216 : Int32)), (.int (247 : Int32)), (.int (248 : Int32)), (.int (768 : Int32)), (.int (880 : Int32)), (.int (894 : Int32)), (.int (895 : Int32)), (.int (0 : Int32)), (.int (0 : Int32)), (.int (0 : Int32)), (.int (0 : Int32)), (.int (0 : Int32)), (.int (0 : Int32)), (.int (0 : Int32)), (.int (0 : Int32)), (.int (0 : Int32)), (.int (0 : Int32)), (.int (0 : Int32)), (.int (0 : Int32)), (.int (0 : Int32)), (.int (0 : Int32)), (.int (0 : Int32))] := V56'
  have S57 : Steps p.tables e below Ω (T56.setTop (mkF m 115 #[.val (.int p1), .val (.int off), .unset, .unset, .unset, .unset, .unset, .unset, .unset, .unset, .unset, .unset] [(.ref b)])) := S55.trans (st56 _ (Steps.refl _))
  have N56 := Fr.snoc X56 N53 g_b
  have S58 : Steps p.tables e below Ω (T56.setTop (mkF m 121 #[.val (.int p1), .val (.int off), .unset, .unset, .unset, .unset, .unset, .unset, .unset, .unset, .unset, .unset] [(.int (8192 : Int32)), (.int (18 : Int32)), (.ref b), (.ref b)])) := by
    refine S57.trans ?_
    refine XS.dup X56.here hx rfl (hb hby at_115) rfl rfl ?_
    show Steps p.tables e below (T56.setTop (mkF m 116 #[.val (.int p1), .val (.int off), .unset, .unset, .unset, .unset, .unset, .unset, .unset, .unset, .unset, .unset] [(.ref b), (.ref b)])) _
    refine XS.bipush X56.here hx rfl (hb hby at_116) ?_
    show Steps p.tables e below (T56.setTop (mkF m 118 #[.val (.int p1), .val (.int off), .unset, .unset, .unset, .unset, .unset, .unset, .unset, .unset, .unset, .unset] [(.int (18 : Int32)), (.ref b), (.ref b)])) _
    refine XS.sipush X56.here hx rfl (hb hby at_118) ?_
    exact Steps.refl _
  obtain ⟨T59, h59, X59, e59, W59, V59', st59⟩ := own_stI X56 hx hZ e56 V56 (j := (18 : Int32)) (i := 18) rfl ⟨by decide, Nat.le_of_ble_eq_true rfl⟩ (g := (mkF m 121 #[.val (.int p1), .val (.int off), .unset, .unset, .unset, .unset, .unset, .unset, .unset, .unset, .unset, .unset] [(.int (8192 : Int32)), (.int (18 : Int32)), (.ref b), (.ref b)])) rfl rfl (hb hby at_121)
  have V59 : LA Z h59 b .int [(.int (-2147483648 : Int32)), (.int (58 : Int32)), (.int (59 : Int32)), (.int (65 : Int32)), (.int (91 : Int32)), (.int (95 : Int32)), (.int (96 : Int32)), (.int (97 : Int32)), (.int (123 : Int32)), (.int (192 : Int32)), (.int (215 : Int32)), (.int (216 : Int32)), (.int (247 : Int32)), (.int (248 : Int32)), (.int (768 : Int32)), (.int (880 : Int32)), (.int (894 : Int32)), (.int (895 : Int32)), (.int (8192 : Int32)), (.int (0 : Int32)), (.int (0 : Int32)), (.int (0 : Int32)), (.int (0 : Int32)), (.int (0 : Int32)), (.int (0 : Int32)), (.int (0 : Int32)), (.int (0 : Int32)), (.int (0 : Int32)), (.int (0 : Int32)), (.int (0 : Int32)), (.int (0 : Int32)), (.int (0 : Int32)), (.int (0 : Int32))] := V59'
  have S60 : Steps p.tables e below Ω (T59.setTop (mkF m 122 #[.val (.int p1), .val (.int off), .unset, .unset, .unset, .unset, .unset, .unset, .unset, .unset, .unset, .unset] [(.ref b)])) := S58.trans (st59 _ (Steps.refl _))
  have N59 := Fr.snoc X59 N56 g_b
  have S61 : Steps p.tables e below Ω (T59.setTop (mkF m 128 #[.val (.int p1), .val (.int off), .unset, .unset, .unset, .unset, .unset, .unset, .unset, .unset, .unset, .unset] [(.int (8204 : Int32)), (.int (19 : Int32)), (.ref b), (.ref b)])) := by
    refine S60.trans ?_
    refine XS.dup X59.here hx rfl (hb hby at_122) rfl rfl ?_
    show Steps p.tables e below (T59.setTop (mkF m 123 #[.val (.int p1), .val (.int off), .unset, .unset, .unset, .unset, .unset, .unset, .unset, .unset, .unset, .unset] [(.ref b), (.ref b)])) _
    refine XS.bipush X59.here hx rfl (hb hby at_123) ?_
    show Steps p.tables e below (T59.setTop (mkF m 125 #[.val (.int p1), .val (.int off), .unset, .unset, .unset, .unset, .unset, .unset, .unset, .unset, .unset, .unset] [(.int (19 : Int32)), (.ref b), (.ref b)])) _
    refine XS.sipush X59.here hx rfl (hb hby at_125) ?_
    exact Steps.refl _
  obtain ⟨T62, h62, X62, e62, W62, V62', st62⟩ := own_stI X59 hx hZ e59 V59 (j := (19 : Int32)) (i := 19) rfl ⟨by decide, Nat.le_of_ble_eq_true rfl⟩ (g := (mkF m 128 #[.val (.int p1), .val (.int off), .unset, .unset, .unset, .unset, .unset, .unset, .unset, .unset, .unset, .unset] [(.int (8204 : Int32)), (.int (19 : Int32)), (.ref b), (.ref b)])) rfl rfl (hb hby at_128)
  have V62 : LA Z h62 b .int [(.int (-2147483648 : Int32)), (.int (58 : Int32)), (.int (59 : Int32)), (.int (65 : Int32)), (.int (91 : Int32)), (.int (95 : Int32)), (.int (96 : Int32)), (.int (97 : Int32)), (.int (123 : Int32)), (.int (192 : Int32)), (.int (215 : Int32)), (.int (216 : Int32)), (.int (247 : Int32)), (.int (248 : Int32)), (.int (768 : Int32)), (.int (880 : Int32)), (.int (894 : Int32)), (.int (895 : Int32)), (.int (8192 : Int32)), (.int (8204 : Int32)), (.int (0 : Int32)), (.int (0 : Int32)), (.int (0 : Int32)), (.int (0 : Int32)), (.int (0 : Int32)), (.int (0 : Int32)), (.int (0 : Int32)), (.int (0 : Int32)), (.int (0 : Int32)), (.int (0 : Int32)), (.int (0 : Int32)), (.int (0 : Int32)), (.int (0 : Int32))] := V62'
  have S63 : Steps p.tables e below Ω (T62.setTop (mkF m 129 #[.val (.int p1), .val (.int off), .unset, .unset, .unset, .unset, .unset, .unset, .unset, .unset, .unset, .unset] [(.ref b)])) := S61.trans (st62 _ (Steps.refl _))
  have N62 := Fr.snoc X62 N59 g_b
  have S64 : Steps p.tables e below Ω (T62.setTop (mkF m 135 #[.val (.int p1), .val (.int off), .unset, .unset, .unset, .unset, .unset, .unset, .unset, .unset, .unset, .unset] [(.int (8206 : Int32)), (.int (20 : Int32)), (.ref b), (.ref b)])) := by
    refine S63.trans ?_
    refine XS.dup X62.here hx rfl (hb hby at_129) rfl rfl ?_
    show Steps p.tables e below (T62.setTop (mkF m 130 #[.val (.int p1), .val (.int off), .unset, .unset, .unset, .unset, .unset, .unset, .unset, .unset, .unset, .unset] [(.ref b), (.ref b)])) _
    refine XS.bipush X62.here hx rfl (hb hby at_130) ?_
    show Steps p.tables e below (T62.setTop (mkF m 132 #[.val (.int p1), .val (.int off), .unset, .unset, .unset, .unset, .unset, .unset, .unset, .unset, .unset, .unset] [(.int (20 : Int32)), (.ref b), (.ref b)])) _
    refine XS.sipush X62.here hx rfl (hb hby at_132) ?_
    exact Steps.refl _
  obtain ⟨T65, h65, X65, e65, W65, V65', st65⟩ := own_stI X62 hx hZ e62 V62 (j := (20 : Int32)) (i := 20) rfl ⟨by decide, Nat.le_of_ble_eq_true rfl⟩ (g := (mkF m 135 #[.val (.int p1), .val (.int off), .unset, .unset, .unset, .unset, .unset, .unset, .unset, .unset, .unset, .unset] [(.int (8206 : Int32)), (.int (20 : Int32)), (.ref b), (.ref b)])) rfl rfl (hb hby at_135)
  have V65 : LA Z h65 b .int [(.int (-2147483648 : Int32)), (.int (58 : Int32)), (.int (59 : Int32)), (.int (65 : Int32)), (.int (91 : Int32)), (.int (95 : Int32)), (.int (96 : Int32)), (.int (97 : Int32)), (.int (123 : Int32)), (.int (192 : Int32)), (.int (215 : Int32)), (.int (216 : Int32)), (.int (247 : Int32)), (.int (248 : Int32)), (.int (768 : Int32)), (.int (880 : Int32)), (.int (894 : Int32)), (.int (895 : Int32)), (.int (8192 : Int32)), (.int (8204 : Int32)), (.int (8206 : Int32)), (.int (0 : Int32)), (.int (0 : Int32)), (.int (0 : Int32)), (.int (0 : Int32)), (.int (0 : Int32)), (.int (0 : Int32)), (.int (0 : Int32)), (.int (0 : Int32)), (.int (0 : Int32)), (.int (0 : Int32)), (.int (0 : Int32)), (.int (0 : Int32))] := V65'
  have S66 : Steps p.tables e below Ω (T65.setTop (mkF m 136 #[.val (.int p1), .val (.int off), .unset, .unset, .unset, .unset, .unset, .unset, .unset, .unset, .unset, .unset] [(.ref b)])) := S64.trans (st65 _ (Steps.refl _))
  have N65 := Fr.snoc X65 N62 g_b
  have S67 : Steps p.tables e below Ω (T65.setTop (mkF m 142 #[.val (.int p1), .val (.int off), .unset, .unset, .unset, .unset, .unset, .unset, .unset, .unset, .unset, .unset] [(.int (8304 : Int32)), (.int (21 : Int32)), (.ref b), (.ref b)])) := by
    refine S66.trans ?_
    refine XS.dup X65.here hx rfl (hb hby at_136) rfl rfl ?_
    show Steps p.tables e below (T65.setTop (mkF m 137 #[.val (.int p1), .val (.int off), .unset, .unset, .unset, .unset, .unset, .unset, .unset, .unset, .unset, .unset] [(.ref b), (.ref b)])) _
    refine XS.bipush X65.here hx rfl (hb hby at_137) ?_
    show Steps p.tables e below (T65.setTop (mkF m 139 #[.val (.int p1), .val (.int off), .unset, .unset, .unset, .unset, .unset, .unset, .unset, .unset, .unset, .unset] [(.int (21 : Int32)), (.ref b), (.ref b)])) _
    refine XS.sipush X65.here hx rfl (hb hby at_139) ?_
    exact Steps.refl _
  obtain ⟨T68, h68, X68, e68, W68, V68', st68⟩ := own_stI X65 hx hZ e65 V65 (j := (21 : Int32)) (i := 21) rfl ⟨by decide, Nat.le_of_ble_eq_true rfl⟩ (g := (mkF m 142 #[.val (.int p1), .val (.int off), .unset, .unset, .unset, .unset, .unset, .unset, .unset, .unset, .unset, .unset] [(.int (8304 : Int32)), (.int (21 : Int32)), (.ref b), (.ref b)])) rfl rfl (hb hby at_142)
  have V68 : LA Z h68 b .int [(.int (-2147483648 : Int32)), (.int (58 : Int32)), (.int (59 : Int32)), (.int (65 : Int32)), (.int (91 : Int32)), (.int (95 : Int32)), (.int (96 : Int32)), (.int (97 : Int32)), (.int (123 : Int32)), (.int (192 : Int32)), (.int (215 : Int32)), (.int (216 : Int32)), (.int (247 : Int32)), (.int (248 : Int32)), (.int (768 : Int32)), (.int (880 : Int32)), (.int (894 : Int32)), (.int (895 : Int32)), (.int (8192 : Int32)), (.int (8204 : Int32)), (.int (8206 : Int32)), (.int (8304 : Int32)), (.int (0 : Int32)), (.int (0 : Int32)), (.int (0 : Int32)), (.int (0 : Int32)), (.int (0 : Int32)), (.int (0 : Int32)), (.int (0 : Int32)), (.int (0 : Int32)), (.int (0 : Int32)), (.int (0 : Int32)), (.int (0 : Int32))] := V68'
  have S69 : Steps p.tables e below Ω (T68.setTop (mkF m 143 #[.val (.int p1), .val (.int off), .unset, .unset, .unset, .unset, .unset, .unset, .unset, .unset, .unset, .unset] [(.ref b)])) := S67.trans (st68 _ (Steps.refl _))
  have N68 := Fr.snoc X68 N65 g_b
  have S70 : Steps p.tables e below Ω (T68.setTop (mkF m 149 #[.val (.int p1), .val (.int off), .unset, .unset, .unset, .unset, .unset, .unset, .unset, .unset, .unset, .unset] [(.int (8592 : Int32)), (.int (22 : Int32)), (.ref b), (.ref b)])) := by
    refine S69.trans ?_
    refine XS.dup X68.here hx rfl (hb hby at_143) rfl rfl ?_
    show Steps p.tables e below (T68.setTop (mkF m 144 #[.val (.int p1), .val (.int off), .unset, .unset, .unset, .unset, .unset, .unset, .unset, .unset, .unset, .unset] [(.ref b), (.ref b)])) _
    refine XS.bipush X68.here hx rfl (hb hby at_144) ?_
    show Steps p.tables e below (T68.setTop (mkF m 146 #[.val (.int p1), .val (.int off), .unset, .unset, .unset, .unset, .unset, .unset, .unset, .unset, .unset, .unset] [(.int (22 : Int32)), (.ref b), (.ref b)])) _
    refine XS.sipush X68.here hx rfl (hb hby at_146) ?_
    exact Steps.refl _
  obtain ⟨T71, h71, X71, e71, W71, V71', st71⟩ := own_stI X68 hx hZ e68 V68 (j := (22 : Int32)) (i := 22) rfl ⟨by decide, Nat.le_of_ble_eq_true rfl⟩ (g := (mkF m 149 #[.val (.int p1), .val (.int off), .unset, .unset, .unset, .unset, .unset, .unset, .unset, .unset, .unset, .unset] [(.int (8592 : Int32)), (.int (22 : Int32)), (.ref b), (.ref b)])) rfl rfl (hb hby at_149)
  have V71 : LA Z h71 b .int [(.int (-2147483648 : Int32)), (.int (58 : Int32)), (.int (59 : Int32)), (.int (65 : Int32)), (.int (91 : Int32)), (.int (95 : Int32)), (.int (96 : Int32)), (.int (97 : Int32)), (.int (123 : Int32)), (.int (192 : Int32)), (.int (215 : Int32)), (.int (216 : Int32)), (.int (247 : Int32)), (.int (248 : Int32)), (.int (768 : Int32)), (.int (880 : Int32)), (.int (894 : Int32)), (.int (895 : Int32)), (.int (8192 : Int32)), (.int (8204 : Int32)), (.int (8206 : Int32)), (.int (8304 : Int32)), (.int (8592 : Int32)), (.int (0 : Int32)), (.int (0 : Int32)), (.int (0 : Int32)), (.int (0 : Int32)), (.int (0 : Int32)), (.int (0 : Int32)), (.int (0 : Int32)), (.int (0 : Int32)), (.int (0 : Int32)), (.int (0 : Int32))] := V71'
  have S72 : Steps p.tables e below Ω (T71.setTop (mkF m 150 #[.val (.int p1), .val (.int off), .unset, .unset, .unset, .unset, .unset, .unset, .unset, .unset, .unset, .unset] [(.ref b)])) := S70.trans (st71 _ (Steps.refl _))
  have N71 := Fr.snoc X71 N68 g_b
  have S73 : Steps p.tables e below Ω (T71.setTop (mkF m 156 #[.val (.int p1), .val (.int off), .unset, .unset, .unset, .unset, .unset, .unset, .unset, .unset, .unset, .unset] [(.int (11264 : Int32)), (.int (23 : Int32)), (.ref b), (.ref b)])) := by
    refine S72.trans ?_
    refine XS.dup X71.here hx rfl (hb hby at_150) rfl rfl ?_
    show Steps p.tables e below (T71.setTop (mkF m 151 #[.val (.int p1), .val (.int off), .unset, .unset, .unset, .unset, .unset, .unset, .unset, .unset, .unset, .unset] [(.ref b), (.ref b)])) _
    refine XS.bipush X71.here hx rfl (hb hby at_151) ?_
    show Steps p.tables e below (T71.setTop (mkF m 153 #[.val (.int p1), .val (.int off), .unset, .unset, .unset, .unset, .unset, .unset, .unset, .unset, .unset, .unset] [(.int (23 : Int32)), (.ref b), (.ref b)])) _
    refine XS.sipush X71.here hx rfl (hb hby at_153) ?_
    exact Steps.refl _
  obtain ⟨T74, h74, X74, e74, W74, V74', st74⟩ := own_stI X71 hx hZ e71 V71 (j := (23 : Int32)) (i := 23) rfl ⟨by decide, Nat.le_of_ble_eq_true rfl⟩ (g := (mkF m 156 #[.val (.int p1), .val (.int off), .unset, .unset, .unset, .unset, .unset, .unset, .unset, .unset, .unset, .unset] [(.int (11264 : Int32)), (.int (23 : Int32)), (.ref b), (.ref b)])) rfl rfl (hb hby at_156)
  have V74 : LA Z h74 b .int [(.int (-2147483648 : Int32)), (.int (58 : Int32)), (.int (59 : Int32)), (.int (65 : Int32)), (.int (91 : Int32)), (.int (95 : Int32)), (.int (96 : Int32)), (.int (97 : Int32)), (.int (123 : Int32)), (.int (192 : Int32)), (.int (215 : Int32)), (.int (216 : Int32)), (.int (247 : Int32)), (.int (248 : Int32)), (.int (768 : Int32)), (.int (880 : Int32)), (.int (894 : Int32)), (.int (895 : Int32)), (.int (8192 : Int32)), (.int (8204 : Int32)), (.int (8206 : Int32)), (.int (8304 : Int32)), (.int (8592 : Int32)), (.int (11264 : Int32)), (.int (0 : Int32)), (.int (0 : Int32)), (.int (0 : Int32)), (.int (0 : Int32)), (.int (0 : Int32)), (.int (0 : Int32)), (.int (0 : Int32)), (.int (0 : Int32)), (.int (0 : Int32))] := V74'
  have S75 : Steps p.tables e below Ω (T74.setTop (mkF m 157 #[.val (.int p1), .val (.int off), .unset, .unset, .unset, .unset, .unset, .unset, .unset, .unset, .unset, .unset] [(.ref b)])) := S73.trans (st74 _ (Steps.refl _))
  have N74 := Fr.snoc X74 N71 g_b
  have S76 : Steps p.tables e below Ω (T74.setTop (mkF m 163 #[.val (.int p1), .val (.int off), .unset, .unset, .unset, .unset, .unset, .unset, .unset, .unset, .unset, .unset] [(.int (12272 : Int32)), (.int (24 : Int32)), (.ref b), (.ref b)])) := by
    refine S75.trans ?_
    refine XS.dup X74.here hx rfl (hb hby at_157) rfl rfl ?_
    show Steps p.tables e below (T74.setTop (mkF m 158 #[.val (.int p1), .val (.int off), .unset, .unset, .unset, .unset, .unset, .unset, .unset, .unset, .unset, .unset] [(.ref b), (.ref b)])) _
    refine XS.bipush X74.here hx rfl (hb hby at_158) ?_
    show Steps p.tables e below (T74.setTop (mkF m 160 #[.val (.int p1), .val (.int off), .unset, .unset, .unset, .unset, .unset, .unset, .unset, .unset, .unset, .unset] [(.int (24 : Int32)), (.ref b), (.ref b)])) _
    refine XS.sipush X74.here hx rfl (hb hby at_160) ?_
    exact Steps.refl _
  obtain ⟨T77, h77, X77, e77, W77, V77', st77⟩ := own_stI X74 hx hZ e74 V74 (j := (24 : Int32)) (i := 24) rfl ⟨by decide, Nat.le_of_ble_eq_true rfl⟩ (g := (mkF m 163 #[.val (.int p1), .val (.int off), .unset, .unset, .unset, .unset, .unset, .unset, .unset, .unset, .unset, .unset] [(.int (12272 : Int32)), (.int (24 : Int32)), (.ref b), (.ref b)])) rfl rfl (hb hby at_163)
  have V77 : LA Z h77 b .int [(.int (-2147483648 : Int32)), (.int (58 : Int32)), (.int (59 : Int32)), (.int (65 : Int32)), (.int (91 : Int32)), (.int (95 : Int32)), (.int (96 : Int32)), (.int (97 : Int32)), (.int (123 : Int32)), (.int (192 : Int32)), (.int (215 : Int32)), (.int (216 : Int32)), (.int (247 : Int32)), (.int (248 : Int32)), (.int (768 : Int32)), (.int (880 : Int32)), (.int (894 : Int32)), (.int (895 : Int32)), (.int (8192 : Int32)), (.int (8204 : Int32)), (.int (8206 : Int32)), (.int (8304 : Int32)), (.int (8592 : Int32)), (.int (11264 : Int32)), (.int (12272 : Int32)), (.int (0 : Int32)), (.int (0 : Int32)), (.int (0 : Int32)), (.int (0 : Int32)), (.int (0 : Int32)), (.int (0 : Int32)), (.int (0 : Int32)), (.int (0 : Int32))] := V77'
  have S78 : Steps p.tables e below Ω (T77.setTop (mkF m 164 #[.val (.int p1), .val (.int off), .unset, .unset, .unset, .unset, .unset, .unset, .unset, .unset, .unset, .unset] [(.ref b)])) := S76.trans (st77 _ (Steps.refl _))
  have N77 := Fr.snoc X77 N74 g_b
  have S79 : Steps p.tables e below Ω (T77.setTop (mkF m 170 #[.val (.int p1), .val (.int off), .unset, .unset, .unset, .unset, .unset, .unset, .unset, .unset, .unset, .unset] [(.int (12289 : Int32)), (.int (25 : Int32)), (.ref b), (.ref b)])) := by
    refine S78.trans ?_
    refine XS.dup X77.here hx rfl (hb hby at_164) rfl rfl ?_
    show Steps p.tables e below (T77.setTop (mkF m 165 #[.val (.int p1), .val (.int off), .unset, .unset, .unset, .unset, .unset, .unset, .unset, .unset, .unset, .unset] [(.ref b), (.ref b)])) _
    refine XS.bipush X77.here hx rfl (hb hby at_165) ?_
    show Steps p.tables e below (T77.setTop (mkF m 167 #[.val (.int p1), .val (.int off), .unset, .unset, .unset, .unset, .unset, .unset, .unset, .unset, .unset, .unset] [(.int (25 : Int32)), (.ref b), (.ref b)])) _
    refine XS.sipush X77.here hx rfl (hb hby at_167) ?_
    exact Steps.refl _
  obtain ⟨T80, h80, X80, e80, W80, V80', st80⟩ := own_stI X77 hx hZ e77 V77 (j := (25 : Int32)) (i := 25) rfl ⟨by decide, Nat.le_of_ble_eq_true rfl⟩ (g := (mkF m 170 #[.val (.int p1), .val (.int off), .unset, .unset, .unset, .unset, .unset, .unset, .unset, .unset, .unset, .unset] [(.int (12289 : Int32)), (.int (25 : Int32)), (.ref b), (.ref b)])) rfl rfl (hb hby at_170)
  have V80 : LA Z h80 b .int [(.int (-2147483648 : Int32)), (.int (58 : Int32)), (.int (59 : Int32)), (.int (65 : Int32)), (.int (91 : Int32)), (.int (95 : Int32)), (.int (96 : Int32)), (.int (97 : Int32)), (.int (123 : Int32)), (.int (192 : Int32)), (.int (215 : Int32)), (.int (216 : Int32)), (.int (247 : Int32)), (.int (248 : Int32)), (.int (768 : Int32)), (.int (880 : Int32)), (.int (894 : Int32)), (.int (895 : Int32)), (.int (8192 : Int32)), (.int (8204 : Int32)), (.int (8206 : Int32)), (.int (8304 : Int32)), (.int (8592 : Int32)), (.int (11264 : Int32)), (.int (12272 : Int32)), (.int (12289 : Int32)), (.int (0 : Int32)), (.int (0 : Int32)), (.int (0 : Int32)), (.int (0 : Int32)), (.int (0 : Int32)), (.int (0 : Int32)), (.int (0 : Int32))] := V80'
  have S81 : Steps p.tables e below Ω (T80.setTop (mkF m 171 #[.val (.int p1), .val (.int off), .unset, .unset, .unset, .unset, .unset, .unset, .unset, .unset, .unset, .unset] [(.ref b)])) := S79.trans (st80 _ (Steps.refl _))
  have N80 := Fr.snoc X80 N77 g_b
  have S82 : Steps p.tables e below Ω (T80.setTop (mkF m 176 #[.val (.int p1), .val (.int off), .unset, .unset, .unset, .unset, .unset, .unset, .unset, .unset, .unset, .unset] [(.int (55296 : Int32)), (.int (26 : Int32)), (.ref b), (.ref b)])) := by
    refine S81.trans ?_
    refine XS.dup X80.here hx rfl (hb hby at_171) rfl rfl ?_
    show Steps p.tables e below (T80.setTop (mkF m 172 #[.val (.int p1), .val (.int off), .unset, .unset, .unset, .unset, .unset, .unset, .unset, .unset, .unset, .unset] [(.ref b), (.ref b)])) _
    refine XS.bipush X80.here hx rfl (hb hby at_172) ?_
    show Steps p.tables e below (T80.setTop (mkF m 174 #[.val (.int p1), .val (.int off), .unset, .unset, .unset, .unset, .unset, .unset, .unset, .unset, .unset, .unset] [(.int (26 : Int32)), (.ref b), (.ref b)])) _
    refine X80.ldcInt hx hown (mvT hZ (hw _ (List.mem_of_getElem? (i := 2) rfl))) (g := (mkF m 174 #[.val (.int p1), .val (.int off), .unset, .unset, .unset, .unset, .unset, .unset, .unset, .unset, .unset, .unset] [(.int (26 : Int32)), (.ref b), (.ref b)])) rfl (hb hby at_174) _ ?_
    exact Steps.refl _
  obtain ⟨T83, h83, X83, e83, W83, V83', st83⟩ := own_stI X80 hx hZ e80 V80 (j := (26 : Int32)) (i := 26) rfl ⟨by decide, Nat.le_of_ble_eq_true rfl⟩ (g := (mkF m 176 #[.val (.int p1), .val (.int off), .unset, .unset, .unset, .unset, .unset, .unset, .unset, .unset, .unset, .unset] [(.int (55296 : Int32)), (.int (26 : Int32)), (.ref b), (.ref b)])) rfl rfl (hb hby at_176)
  have V83 : LA Z h83 b .int [(.int (-2147483648 : Int32)), (.int (58 : Int32)), (.int (59 : Int32)), (.int (65 : Int32)), (.int (91 : Int32)), (.int (95 : Int32)), (.int (96 : Int32)), (.int (97 : Int32)), (.int (123 : Int32)), (.int (192 : Int32)), (.int (215 : Int32)), (.int (216 : Int32)), (.int (247 : Int32)), (.int (248 : Int32)), (.int (768 : Int32)), (.int (880 : Int32)), (.int (894 : Int32)), (.int (895 : Int32)), (.int (8192 : Int32)), (.int (8204 : Int32)), (.int (8206 : Int32)), (.int (8304 : Int32)), (.int (8592 : Int32)), (.int (11264 : Int32)), (.int (12272 : Int32)), (.int (12289 : Int32)), (.int (55296 : Int32)), (.int (0 : Int32)), (.int (0 : Int32)), (.int (0 : Int32)), (.int (0 : Int32)), (.int (0 : Int32)), (.int (0 : Int32))] := V83'
  have S84 : Steps p.tables e below Ω (T83.setTop (mkF m 177 #[.val (.int p1), .val (.int off), .unset, .unset, .unset, .unset, .unset, .unset, .unset, .unset, .unset, .unset] [(.ref b)])) := S82.trans (st83 _ (Steps.refl _))
  have N83 := Fr.snoc X83 N80 g_b
  have S85 : Steps p.tables e below Ω (T83.setTop (mkF m 182 #[.val (.int p1), .val (.int off), .unset, .unset, .unset, .unset, .unset, .unset, .unset, .unset, .unset, .unset] [(.int (63744 : Int32)), (.int (27 : Int32)), (.ref b), (.ref b)])) := by
    refine S84.trans ?_
    refine XS.dup X83.here hx rfl (hb hby at_177) rfl rfl ?_
    show Steps p.tables e below (T83.setTop (mkF m 178 #[.val (.int p1), .val (.int off), .unset, .unset, .unset, .unset, .unset, .unset, .unset, .unset, .unset, .unset] [(.ref b), (.ref b)])) _
    refine XS.bipush X83.here hx rfl (hb hby at_178) ?_
    show Steps p.tables e below (T83.setTop (mkF m 180 #[.val (.int p1), .val (.int off), .unset, .unset, .unset, .unset, .unset, .unset, .unset, .unset, .unset, .unset] [(.int (27 : Int32)), (.ref b), (.ref b)])) _
    refine X83.ldcInt hx hown (mvT hZ (hw _ (List.mem_of_getElem? (i := 3) rfl))) (g := (mkF m 180 #[.val (.int p1), .val (.int off), .unset, .unset, .unset, .unset, .unset, .unset, .unset, .unset, .unset, .unset] [(.int (27 : Int32)), (.ref b), (.ref b)])) rfl (hb hby at_180) _ ?_
    exact Steps.refl _
  obtain ⟨T86, h86, X86, e86, W86, V86', st86⟩ := own_stI X83 hx hZ e83 V83 (j := (27 : Int32)) (i := 27) rfl ⟨by decide, Nat.le_of_ble_eq_true rfl⟩ (g := (mkF m 182 #[.val (.int p1), .val (.int off), .unset, .unset, .unset, .unset, .unset, .unset, .unset, .unset, .unset, .unset] [(.int (63744 : Int32)), (.int (27 : Int32)), (.ref b), (.ref b)])) rfl rfl (hb hby at_182)
  have V86 : LA Z h86 b .int [(.int (-2147483648 : Int32)), (.int (58 : Int32)), (.int (59 : Int32)), (.int (65 : Int32)), (.int (91 : Int32)), (.int (95 : Int32)), (.int (96 : Int32)), (.int (97 : Int32)), (.int (123 : Int32)), (.int (192 : Int32)), (.int (215 : Int32)), (.int (216 : Int32)), (.int (247 : Int32)), (.int (248 : Int32)), (.int (768 : Int32)), (.int (880 : Int32)), (.int (894 : Int32)), (.int (895 : Int32)), (.int (8192 : Int32)), (.int (8204 : Int32)), (.int (8206 : Int32)), (.int (8304 : Int32)), (.int (8592 : Int32)), (.int (11264 : Int32)), (.int (12272 : Int32)), (.int (12289 : Int32)), (.int (55296 : Int32)), (.int (63744 : Int32)), (.int (0 : Int32)), (.int (0 : Int32)), (.int (0 : Int32)), (.int (0 : Int32)), (.int (0 : Int32))] := V86'
  have S87 : Steps p.tables e below Ω (T86.setTop (mkF m 183 #[.val (.int p1), .val (.int off), .unset, .unset, .unset, .unset, .unset, .unset, .unset, .unset, .unset, .unset] [(.ref b)])) := S85.trans (st86 _ (Steps.refl _))
  have N86 := Fr.snoc X86 N83 g_b
  have S88 : Steps p.tables e below Ω (T86.setTop (mkF m 188 #[.val (.int p1), .val (.int off), .unset, .unset, .unset, .unset, .unset, .unset, .unset, .unset, .unset, .unset] [(.int (64976 : Int32)), (.int (28 : Int32)), (.ref b), (.ref b)])) := by
    refine S87.trans ?_
    refine XS.dup X86.here hx rfl (hb hby at_183) rfl rfl ?_
    show Steps p.tables e below (T86.setTop (mkF m 184 #[.val (.int p1), .val (.int off), .unset, .unset, .unset, .unset, .unset, .unset, .unset, .unset, .unset, .unset] [(.ref b), (.ref b)])) _
    refine XS.bipush X86.here hx rfl (hb hby at_184) ?_
    show Steps p.tables e below (T86.setTop (mkF m 186 #[.val (.int p1), .val (.int off), .unset, .unset, .unset, .unset, .unset, .unset, .unset, .unset, .unset, .unset] [(.int (28 : Int32)), (.ref b), (.ref b)])) _
    refine X86.ldcInt hx hown (mvT hZ (hw _ (List.mem_of_getElem? (i := 4) rfl))) (g := (mkF m 186 #[.val (.int p1), .val (.int off), .unset, .unset, .unset, .unset, .unset, .unset, .unset, .unset, .unset, .unset] [(.int (28 : Int32)), (.ref b), (.ref b)])) rfl (hb hby at_186) _ ?_
    exact Steps.refl _
  obtain ⟨T89, h89, X89, e89, W89, V89', st89⟩ := own_stI X86 hx hZ e86 V86 (j := (28 : Int32)) (i := 28) rfl ⟨by decide, Nat.le_of_ble_eq_true rfl⟩ (g := (mkF m 188 #[.val (.int p1), .val (.int off), .unset, .unset, .unset, .unset, .unset, .unset, .unset, .unset, .unset, .unset] [(.int (64976 : Int32)), (.int (28 : Int32)), (.ref b), (.ref b)])) rfl rfl (hb hby at_188)
  have V89 : LA Z h89 b .int [(.int (-2147483648 : Int32)), (.int (58 : Int32)), (.int (59 : Int32)), (.int (65 : Int32)), (.int (91 : Int32)), (.int (95 : Int32)), (.int (96 : Int32)), (.int (97 : Int32)), (.int (123 : Int32)), (.int (192 : Int32)), (.int (215 : Int32)), (.int (216 : Int32)), (.int (247 : Int32)), (.int (248 : Int32)), (.int (768 : Int32)), (.int (880 : Int32)), (.int (894 : Int32)), (.int (895 : Int32)), (.int (8192 : Int32)), (.int (8204 : Int32)), (.int (8206 : Int32)), (.int (8304 : Int32)), (.int (8592 : Int32)), (.int (11264 : Int32)), (.int (12272 : Int32)), (.int (12289 : Int32)), (.int (55296 : Int32)), (.int (63744 : Int32)), (.int (64976 : Int32)), (.int (0 : Int32)), (.int (0 : Int32)), (.int (0 : Int32)), (.int (0 : Int32))] := V89'
  have S90 : Steps p.tables e below Ω (T89.setTop (mkF m 189 #[.val (.int p1), .val (.int off), .unset, .unset, .unset, .unset, .unset, .unset, .unset, .unset, .unset, .unset] [(.ref b)])) := S88.trans (st89 _ (Steps.refl _))
  have N89 := Fr.snoc X89 N86 g_b
  have S91 : Steps p.tables e below Ω (T89.setTop (mkF m 194 #[.val (.int p1), .val (.int off), .unset, .unset, .unset, .unset, .unset, .unset, .unset, .unset, .unset, .unset] [(.int (65008 : Int32)), (.int (29 : Int32)), (.ref b), (.ref b)])) := by
    refine S90.trans ?_
    refine XS.dup X89.here hx rfl (hb hby at_189) rfl rfl ?_
    show Steps p.tables e below (T89.setTop (mkF m 190 #[.val (.int p1), .val (.int off), .unset, .unset, .unset, .unset, .unset, .unset, .unset, .unset, .unset, .unset] [(.ref b), (.ref b)])) _
    refine XS.bipush X89.here hx rfl (hb hby at_190) ?_
    show Steps p.tables e below (T89.setTop (mkF m 192 #[.val (.int p1), .val (.int off), .unset, .unset, .unset, .unset, .unset, .unset, .unset, .unset, .unset, .unset] [(.int (29 : Int32)), (.ref b), (.ref b)])) _
    refine X89.ldcInt hx hown (mvT hZ (hw _ (List.mem_of_getElem? (i := 5) rfl))) (g := (mkF m 192 #[.val (.int p1), .val (.int off), .unset, .unset, .unset, .unset, .unset, .unset, .unset, .unset, .unset, .unset] [(.int (29 : Int32)), (.ref b), (.ref b)])) rfl (hb hby at_192) _ ?_
    exact Steps.refl _
  obtain ⟨T92, h92, X92, e92, W92, V92', st92⟩ := own_stI X89 hx hZ e89 V89 (j := (29 : Int32)) (i := 29) rfl ⟨by decide, Nat.le_of_ble_eq_true rfl⟩ (g := (mkF m 194 #[.val (.int p1), .val (.int off), .unset, .unset, .unset, .unset, .unset, .unset, .unset, .unset, .unset, .unset] [(.int (65008 : Int32)), (.int (29 : Int32)), (.ref b), (.ref b)])) rfl rfl (hb hby at_194)
  have V92 : LA Z h92 b .int [(.int (-2147483648 : Int32)), (.int (58 : Int32)), (.int (59 : Int32)), (.int (65 : Int32)), (.int (91 : Int32)), (.int (95 : Int32)), (.int (96 : Int32)), (.int (97 : Int32)), (.int (123 : Int32)), (.int (192 : Int32)), (.int (215 : Int32)), (.int (216 : Int32)), (.int (247 : Int32)), (.int (248 : Int32)), (.int (768 : Int32)), (.int (880 : Int32)), (.int (894 : Int32)), (.int (895 : Int32)), (.int (8192 : Int32)), (.int (8204 : Int32)), (.int (8206 : Int32)), (.int (8304 : Int32)), (.int (8592 : Int32)), (.int (11264 : Int32)), (.int (12272 : Int32)), (.int (12289 : Int32)), (.int (55296 : Int32)), (.int (63744 : Int32)), (.int (64976 : Int32)), (.int (65008 : Int32)), (.int (0 : Int32)), (.int (0 : Int32)), (.int (0 : Int32))] := V92'
  have S93 : Steps p.tables e below Ω (T92.setTop (mkF m 195 #[.val (.int p1), .val (.int off), .unset, .unset, .unset, .unset, .unset, .unset, .unset, .unset, .unset, .unset] [(.ref b)])) := S91.trans (st92 _ (Steps.refl _))
  have N92 := Fr.snoc X92 N89 g_b
  have S94 : Steps p.tables e below Ω (T92.setTop (mkF m 200 #[.val (.int p1), .val (.int off), .unset, .unset, .unset, .unset, .unset, .unset, .unset, .unset, .unset, .unset] [(.int (65534 : Int32)), (.int (30 : Int32)), (.ref b), (.ref b)])) := by
    refine S93.trans ?_
    refine XS.dup X92.here hx rfl (hb hby at_195) rfl rfl ?_
    show Steps p.tables e below (T92.setTop (mkF m 196 #[.val (.int p1), .val (.int off), .unset, .unset, .unset, .unset, .unset, .unset, .unset, .unset, .unset, .unset] [(.ref b), (.ref b)])) _
    refine XS.bipush X92.here hx rfl (hb hby at_196) ?_
    show Steps p.tables e below (T92.setTop (mkF m 198 #[.val (.int p1), .val (.int off), .unset, .unset, .unset, .unset, .unset, .unset, .unset, .unset, .unset, .unset] [(.int (30 : Int32)), (.ref b), (.ref b)])) _
    refine X92.ldcInt hx hown (mvT hZ (hw _ (List.mem_of_getElem? (i := 6) rfl))) (g := (mkF m 198 #[.val (.int p1), .val (.int off), .unset, .unset, .unset, .unset, .unset, .unset, .unset, .unset, .unset, .unset] [(.int (30 : Int32)), (.ref b), (.ref b)])) rfl (hb hby at_198) _ ?_
    exact Steps.refl _
  obtain ⟨T95, h95, X95, e95, W95, V95', st95⟩ := own_stI X92 hx hZ e92 V92 (j := (30 : Int32)) (i := 30) rfl ⟨by decide, Nat.le_of_ble_eq_true rfl⟩ (g := (mkF m 200 #[.val (.int p1), .val (.int off), .unset, .unset, .unset, .unset, .unset, .unset, .unset, .unset, .unset, .unset] [(.int (65534 : Int32)), (.int (30 : Int32)), (.ref b), (.ref b)])) rfl rfl (hb hby at_200)
  have V95 : LA Z h95 b .int [(.int (-2147483648 : Int32)), (.int (58 : Int32)), (.int (59 : Int32)), (.int (65 : Int32)), (.int (91 : Int32)), (.int (95 : Int32)), (.int (96 : Int32)), (.int (97 : Int32)), (.int (123 : Int32)), (.int (192 : Int32)), (.int (215 : Int32)), (.int (216 : Int32)), (.int (247 : Int32)), (.int (248 : Int32)), (.int (768 : Int32)), (.int (880 : Int32)), (.int (894 : Int32)), (.int (895 : Int32)), (.int (8192 : Int32)), (.int (8204 : Int32)), (.int (8206 : Int32)), (.int (8304 : Int32)), (.int (8592 : Int32)), (.int (11264 : Int32)), (.int (12272 : Int32)), (.int (12289 : Int32)), (.int (55296 : Int32)), (.int (63744 : Int32)), (.int (64976 : Int32)), (.int (65008 : Int32)), (.int (65534 : Int32)), (.int (0 : Int32)), (.int (0 : Int32))] := V95'
  have S96 : Steps p.tables e below Ω (T95.setTop (mkF m 201 #[.val (.int p1), .val (.int off), .unset, .unset, .unset, .unset, .unset, .unset, .unset, .unset, .unset, .unset] [(.ref b)])) := S94.trans (st95 _ (Steps.refl _))
  have N95 := Fr.snoc X95 N92 g_b
  have S97 : Steps p.tables e below Ω (T95.setTop (mkF m 206 #[.val (.int p1), .val (.int off), .unset, .unset, .unset, .unset, .unset, .unset, .unset, .unset, .unset, .unset] [(.int (65536 : Int32)), (.int (31 : Int32)), (.ref b), (.ref b)])) := by
    refine S96.trans ?_
    refine XS.dup X95.here hx rfl (hb hby at_201) rfl rfl ?_
    show Steps p.tables e below (T95.setTop (mkF m 202 #[.val (.int p1), .val (.int off), .unset, .unset, .unset, .unset, .unset, .unset, .unset, .unset, .unset, .unset] [(.ref b), (.ref b)])) _
    refine XS.bipush X95.here hx rfl (hb hby at_202) ?_
    show Steps p.tables e below (T95.setTop (mkF m 204 #[.val (.int p1), .val (.int off), .unset, .unset, .unset, .unset, .unset, .unset, .unset, .unset, .unset, .unset] [(.int (31 : Int32)), (.ref b), (.ref b)])) _
    refine X95.ldcInt hx hown (mvT hZ (hw _ (List.mem_of_getElem? (i := 7) rfl))) (g := (mkF m 204 #[.val (.int p1), .val (.int off), .unset, .unset, .unset, .unset, .unset, .unset, .unset, .unset, .unset, .unset] [(.int (31 : Int32)), (.ref b), (.ref b)])) rfl (hb hby at_204) _ ?_
    exact Steps.refl _
  obtain ⟨T98, h98, X98, e98, W98, V98', st98⟩ := own_stI X95 hx hZ e95 V95 (j := (31 : Int32)) (i := 31) rfl ⟨by decide, Nat.le_of_ble_eq_true rfl⟩ (g := (mkF m 206 #[.val (.int p1), .val (.int off), .unset, .unset, .unset, .unset, .unset, .unset, .unset, .unset, .unset, .unset] [(.int (65536 : Int32)), (.int (31 : Int32)), (.ref b), (.ref b)])) rfl rfl (hb hby at_206)
  have V98 : LA Z h98 b .int [(.int (-2147483648 : Int32)), (.int (58 : Int32)), (.int (59 : Int32)), (.int (65 : Int32)), (.int (91 : Int32)), (.int (95 : Int32)), (.int (96 : Int32)), (.int (97 : Int32)), (.int (123 : Int32)), (.int (192 : Int32)), (.int (215 : Int32)), (.int (216 : Int32)), (.int (247 : Int32)), (.int (248 : Int32)), (.int (768 : Int32)), (.int (880 : Int32)), (.int (894 : Int32)), (.int (895 : Int32)), (.int (8192 : Int32)), (.int (8204 : Int32)), (.int (8206 : Int32)), (.int (8304 : Int32)), (.int (8592 : Int32)), (.int (11264 : Int32)), (.int (12272 : Int32)), (.int (12289 : Int32)), (.int (55296 : Int32)), (.int (63744 : Int32)), (.int (64976 : Int32)), (.int (65008 : Int32)), (.int (65534 : Int32)), (.int (65536 : Int32)), (.int (0 : Int32))] := V98'
  have S99 : Steps p.tables e below Ω (T98.setTop (mkF m 207 #[.val (.int p1), .val (.int off), .unset, .unset, .unset, .unset, .unset, .unset, .unset, .unset, .unset, .unset] [(.ref b)])) := S97.trans (st98 _ (Steps.refl _))
  have N98 := Fr.snoc X98 N95 g_b
  have S100 : Steps p.tables e below Ω (T98.setTop (mkF m 212 #[.val (.int p1), .val (.int off), .unset, .unset, .unset, .unset, .unset, .unset, .unset, .unset, .unset, .unset] [(.int (983040 : Int32)), (.int (32 : Int32)), (.ref b), (.ref b)])) := by
    refine S99.trans ?_
    refine XS.dup X98.here hx rfl (hb hby at_207) rfl rfl ?_
    show Steps p.tables e below (T98.setTop (mkF m 208 #[.val (.int p1), .val (.int off), .unset, .unset, .unset, .unset, .unset, .unset, .unset, .unset, .unset, .unset] [(.ref b), (.ref b)])) _
    refine XS.bipush X98.here hx rfl (hb hby at_208) ?_
    show Steps p.tables e below (T98.setTop (mkF m 210 #[.val (.int p1), .val (.int off), .unset, .unset, .unset, .unset, .unset, .unset, .unset, .unset, .unset, .unset] [(.int (32 : Int32)), (.ref b), (.ref b)])) _
    refine X98.ldcInt hx hown (mvT hZ (hw _ (List.mem_of_getElem? (i := 8) rfl))) (g := (mkF m 210 #[.val (.int p1), .val (.int off), .unset, .unset, .unset, .unset, .unset, .unset, .unset, .unset, .unset, .unset] [(.int (32 : Int32)), (.ref b), (.ref b)])) rfl (hb hby at_210) _ ?_
    exact Steps.refl _
  obtain ⟨T101, h101, X101, e101, W101, V101', st101⟩ := own_stI X98 hx hZ e98 V98 (j := (32 : Int32)) (i := 32) rfl ⟨by decide, Nat.le_of_ble_eq_true rfl⟩ (g := (mkF m 212 #[.val (.int p1), .val (.int off), .unset, .unset, .unset, .unset, .unset, .unset, .unset, .unset, .unset, .unset] [(.int (983040 : Int32)), (.int (32 : Int32)), (.ref b), (.ref b)])) rfl rfl (hb hby at_212)
  have V101 : LA Z h101 b .int [(.int (-2147483648 : Int32)), (.int (58 : Int32)), (.int (59 : Int32)), (.int (65 : Int32)), (.int (91 : Int32)), (.int (95 : Int32)), (.int (96 : Int32)), (.int (97 : Int32)), (.int (123 : Int32)), (.int (192 : Int32)), (.int (215 : Int32)), (.int (216 : Int32)), (.int (247 : Int32)), (.int (248 : Int32)), (.int (768 : Int32)), (.int (880 : Int32)), (.int (894 : Int32)), (.int (895 : Int32)), (.int (8192 : Int32)), (.int (8204 : Int32)), (.int (8206 : Int32)), (.int (8304 : Int32)), (.int (8592 : Int32)), (.int (11264 : Int32)), (.int (12272 : Int32)), (.int (12289 : Int32)), (.int (55296 : Int32)), (.int (63744 : Int32)), (.int (64976 : Int32)), (.int (65008 : Int32)), (.int (65534 : Int32)), (.int (65536 : Int32)), (.int (983040 : Int32))] := V101'
  have S102 : Steps p.tables e below Ω (T101.setTop (mkF m 213 #[.val (.int p1), .val (.int off), .unset, .unset, .unset, .unset, .unset, .unset, .unset, .unset, .unset, .unset] [(.ref b)])) := S100.trans (st101 _ (Steps.refl _))
  have N101 := Fr.snoc X101 N98 g_b
  have S103 : Steps p.tables e below Ω (T101.setTop (mkF m 221 #[.val (.int p1), .val (.int off), .val (.ref b), .unset, .unset, .unset, .unset, .unset, .unset, .unset, .unset, .unset] [(.int ((p1 &&& (2147483647 : Int32)) % (33 : Int32)))])) := by
    refine S102.trans ?_
    refine XS.astoreN X101.here hx rfl (hb hby at_213) rfl rfl (l' := #[.val (.int p1), .val (.int off), .val (.ref b), .unset, .unset, .unset, .unset, .unset, .unset, .unset, .unset, .unset]) rfl ?_
    show Steps p.tables e below (T101.setTop (mkF m 214 #[.val (.int p1), .val (.int off), .val (.ref b), .unset, .unset, .unset, .unset, .unset, .unset, .unset, .unset, .unset] [])) _
    refine XS.iloadN X101.here hx rfl (hb hby at_214) rfl ?_
    show Steps p.tables e below (T101.setTop (mkF m 215 #[.val (.int p1), .val (.int off), .val (.ref b), .unset, .unset, .unset, .unset, .unset, .unset, .unset, .unset, .unset] [(.int p1)])) _
    refine X101.ldcInt hx hown (mvT hZ (hw _ (List.mem_of_getElem? (i := 9) rfl))) (g := (mkF m 215 #[.val (.int p1), .val (.int off), .val (.ref b), .unset, .unset, .unset, .unset, .unset, .unset, .unset, .unset, .unset] [(.int p1)])) rfl (hb hby at_215) _ ?_
    show Steps p.tables e below (T101.setTop (mkF m 217 #[.val (.int p1), .val (.int off), .val (.ref b), .unset, .unset, .unset, .unset, .unset, .unset, .unset, .unset, .unset] [(.int (2147483647 : Int32)), (.int p1)])) _
    refine XS.iand X101.here hx rfl (hb hby at_217) rfl ?_
    show Steps p.tables e below (T101.setTop (mkF m 218 #[.val (.int p1), .val (.int off), .val (.ref b), .unset, .unset, .unset, .unset, .unset, .unset, .unset, .unset, .unset] [(.int (p1 &&& (2147483647 : Int32)))])) _
    refine XS.bipush X101.here hx rfl (hb hby at_218) ?_
    show Steps p.tables e below (T101.setTop (mkF m 220 #[.val (.int p1), .val (.int off), .val (.ref b), .unset, .unset, .unset, .unset, .unset, .unset, .unset, .unset, .unset] [(.int (33 : Int32)), (.int (p1 &&& (2147483647 : Int32)))])) _
    refine iremM X101 hx rfl (hb hby at_220) rfl (by decide) ?_
    exact Steps.refl _
  have S104 : Steps p.tables e below Ω (T101.setTop (mkF m 224 #[.val (.int p1), .val (.int off), .val (.ref b), .val (.int ((p1 &&& (2147483647 : Int32)) % (33 : Int32))), .unset, .unset, .unset, .unset, .unset, .unset, .unset, .unset] [(.int ((p1 &&& (2147483647 : Int32)) % (33 : Int32))), (.ref b)])) := by
    refine S103.trans ?_
    refine XS.istoreN X101.here hx rfl (hb hby at_221) rfl (l' := #[.val (.int p1), .val (.int off), .val (.ref b), .val (.int ((p1 &&& (2147483647 : Int32)) % (33 : Int32))), .unset, .unset, .unset, .unset, .unset, .unset, .unset, .unset]) rfl ?_
    show Steps p.tables e below (T101.setTop (mkF m 222 #[.val (.int p1), .val (.int off), .val (.ref b), .val (.int ((p1 &&& (2147483647 : Int32)) % (33 : Int32))), .unset, .unset, .unset, .unset, .unset, .unset, .unset, .unset] [])) _
    refine XS.aloadN X101.here hx rfl (hb hby at_222) rfl rfl ?_
    show Steps p.tables e below (T101.setTop (mkF m 223 #[.val (.int p1), .val (.int off), .val (.ref b), .val (.int ((p1 &&& (2147483647 : Int32)) % (33 : Int32))), .unset, .unset, .unset, .unset, .unset, .unset, .unset, .unset] [(.ref b)])) _
    refine XS.iloadN X101.here hx rfl (hb hby at_223) rfl ?_
    exact Steps.refl _
  obtain ⟨s1, h_s1⟩ : ∃ z : Int32, z = ((p1 &&& (2147483647 : Int32)) % (33 : Int32)) := ⟨_, rfl⟩
  rw [← h_s1] at S104
  have hm : (p1 &&& (2147483647 : Int32)).toInt = p1.toInt % (2 ^ 31 : Nat) := c_mask p1 (2147483647 : Int32) 31 (by decide) (by decide)
  have hr33 := c_irem (p1 &&& (2147483647 : Int32)) (33 : Int32) 33 (by decide)
  rw [← h_s1] at hr33
  have hm2 := rng32 p1
  have hs0 : 0 ≤ s1.toInt ∧ s1.toInt < 33 := by omega
  obtain ⟨hi1, hi2⟩ := own_idx (j := s1) (n := 33) hs0.1 hs0.2
  obtain ⟨lo, hlo⟩ : ∃ x, ([(.int (-2147483648 : Int32)), (.int (58 : Int32)), (.int (59 : Int32)), (.int (65 : Int32)), (.int (91 : Int32)), (.int (95 : Int32)), (.int (96 : Int32)), (.int (97 : Int32)), (.int (123 : Int32)), (.int (192 : Int32)), (.int (215 : Int32)), (.int (216 : Int32)), (.int (247 : Int32)), (.int (248 : Int32)), (.int (768 : Int32)), (.int (880 : Int32)), (.int (894 : Int32)), (.int (895 : Int32)), (.int (8192 : Int32)), (.int (8204 : Int32)), (.int (8206 : Int32)), (.int (8304 : Int32)), (.int (8592 : Int32)), (.int (11264 : Int32)), (.int (12272 : Int32)), (.int (12289 : Int32)), (.int (55296 : Int32)), (.int (63744 : Int32)), (.int (64976 : Int32)), (.int (65008 : Int32)), (.int (65534 : Int32)), (.int (65536 : Int32)), (.int (983040 : Int32))] : List Value)[s1.toNatClampNeg]? = some (.int x) := own_get [(-2147483648 : Int32), (58 : Int32), (59 : Int32), (65 : Int32), (91 : Int32), (95 : Int32), (96 : Int32), (97 : Int32), (123 : Int32), (192 : Int32), (215 : Int32), (216 : Int32), (247 : Int32), (248 : Int32), (768 : Int32), (880 : Int32), (894 : Int32), (895 : Int32), (8192 : Int32), (8204 : Int32), (8206 : Int32), (8304 : Int32), (8592 : Int32), (11264 : Int32), (12272 : Int32), (12289 : Int32), (55296 : Int32), (63744 : Int32), (64976 : Int32), (65008 : Int32), (65534 : Int32), (65536 : Int32), (983040 : Int32)] rfl hi2
  obtain ⟨ky1, ky2⟩ := own_key s1 lo hs0.1 hs0.2 hlo
  have S105 : Steps p.tables e below Ω (T101.setTop (mkF m 225 #[.val (.int p1), .val (.int off), .val (.ref b), .val (.int s1), .unset, .unset, .unset, .unset, .unset, .unset, .unset, .unset] [(.int lo)])) := S104.trans (own_ldI X101 hx hZ e101 V101 (j := s1) (x := lo) hi1 hlo (g := (mkF m 224 #[.val (.int p1), .val (.int off), .val (.ref b), .val (.int s1), .unset, .unset, .unset, .unset, .unset, .unset, .unset, .unset] [(.int s1), (.ref b)])) rfl rfl (hb hby at_224) _ (Steps.refl _))
  have S106 : Steps p.tables e below Ω (T101.setTop (mkF m 230 #[.val (.int p1), .val (.int off), .val (.ref b), .val (.int s1), .val (.int lo), .unset, .unset, .unset, .unset, .unset, .unset, .unset] [(.int (32 : Int32)), (.int s1)])) := by
    refine S105.trans ?_
    refine XS.istore X101.here hx rfl (hb hby at_225) rfl (l' := #[.val (.int p1), .val (.int off), .val (.ref b), .val (.int s1), .val (.int lo), .unset, .unset, .unset, .unset, .unset, .unset, .unset]) rfl ?_
    show Steps p.tables e below (T101.setTop (mkF m 227 #[.val (.int p1), .val (.int off), .val (.ref b), .val (.int s1), .val (.int lo), .unset, .unset, .unset, .unset, .unset, .unset, .unset] [])) _
    refine XS.iloadN X101.here hx rfl (hb hby at_227) rfl ?_
    show Steps p.tables e below (T101.setTop (mkF m 228 #[.val (.int p1), .val (.int off), .val (.ref b), .val (.int s1), .val (.int lo), .unset, .unset, .unset, .unset, .unset, .unset, .unset] [(.int s1)])) _
    refine XS.bipush X101.here hx rfl (hb hby at_228) ?_
    exact Steps.refl _
  by_cases h32 : s1 = (32 : Int32)
  · have qh32 : s1.toInt = 32 := congrArg Int32.toInt h32
    have S107 : Steps p.tables e below Ω (T101.setTop (mkF m 245 #[.val (.int p1), .val (.int off), .val (.ref b), .val (.int s1), .val (.int lo), .unset, .unset, .unset, .unset, .unset, .unset, .unset] [(.int (2147483647 : Int32))])) := by
      refine S106.trans ?_
      refine XS.icmpNo X101.here hx rfl (hb hby at_230) rfl (XT.ii_ne_f h32) ?_
      show Steps p.tables e below (T101.setTop (mkF m 233 #[.val (.int p1), .val (.int off), .val (.ref b), .val (.int s1), .val (.int lo), .unset, .unset, .unset, .unset, .unset, .unset, .unset] [])) _
      refine X101.ldcInt hx hown (mvT hZ (hw _ (List.mem_of_getElem? (i := 9) rfl))) (g := (mkF m 233 #[.val (.int p1), .val (.int off), .val (.ref b), .val (.int s1), .val (.int lo), .unset, .unset, .unset, .unset, .unset, .unset, .unset] [])) rfl (hb hby at_233) _ ?_
      show Steps p.tables e below (T101.setTop (mkF m 235 #[.val (.int p1), .val (.int off), .val (.ref b), .val (.int s1), .val (.int lo), .unset, .unset, .unset, .unset, .unset, .unset, .unset] [(.int (2147483647 : Int32))])) _
      refine XS.goto X101.here hx rfl (pc0 := 235) (pc' := 245) rfl (hb hby at_235) (by decide) (by decide) ?_
      exact Steps.refl _
    obtain ⟨hi, h_hi⟩ : ∃ z : Int32, z = (2147483647 : Int32) := ⟨_, rfl⟩
    rw [← h_hi] at S107
    obtain ⟨kk1, kk2⟩ := ky2 h32
    have hhi : hi.toInt = 2147483647 := by rw [h_hi]; decide
    have hle : lo.toInt ≤ hi.toInt := by omega
    have hall : ∀ x : Int32, lo.toInt ≤ x.toInt → x.toInt ≤ hi.toInt → own_ns x = own_par s1 := fun x a _ => kk2 x a
    obtain ⟨hm1, hm3, hm4⟩ := own_mid lo hi off hle
    have S112 : Steps p.tables e below Ω (T101.setTop (mkF m 284 #[.val (.int p1), .val (.int off), .val (.ref b), .val (.int s1), .val (.int lo), .val (.int hi), .val (.long (((hi.toInt64) - (lo.toInt64)) + (1 : Int64))), .second, .val (.long ((((off.toInt64) % (((hi.toInt64) - (lo.toInt64)) + (1 : Int64))) + (((hi.toInt64) - (lo.toInt64)) + (1 : Int64))) % (((hi.toInt64) - (lo.toInt64)) + (1 : Int64)))), .second, .val (.int (((lo.toInt64) + ((((off.toInt64) % (((hi.toInt64) - (lo.toInt64)) + (1 : Int64))) + (((hi.toInt64) - (lo.toInt64)) + (1 : Int64))) % (((hi.toInt64) - (lo.toInt64)) + (1 : Int64)))).toInt32)), .unset] [(.int (1 : Int32)), (.int (s1 &&& (1 : Int32)))])) := by
      refine S107.trans ?_
      refine XS.istore X101.here hx rfl (hb hby at_245) rfl (l' := #[.val (.int p1), .val (.int off), .val (.ref b), .val (.int s1), .val (.int lo), .val (.int hi), .unset, .unset, .unset, .unset, .unset, .unset]) rfl ?_
      show Steps p.tables e below (T101.setTop (mkF m 247 #[.val (.int p1), .val (.int off), .val (.ref b), .val (.int s1), .val (.int lo), .val (.int hi), .unset, .unset, .unset, .unset, .unset, .unset] [])) _
      refine XS.iload X101.here hx rfl (hb hby at_247) rfl ?_
      show Steps p.tables e below (T101.setTop (mkF m 249 #[.val (.int p1), .val (.int off), .val (.ref b), .val (.int s1), .val (.int lo), .val (.int hi), .unset, .unset, .unset, .unset, .unset, .unset] [(.int hi)])) _
      refine XS.i2l X101.here hx rfl (hb hby at_249) rfl ?_
      show Steps p.tables e below (T101.setTop (mkF m 250 #[.val (.int p1), .val (.int off), .val (.ref b), .val (.int s1), .val (.int lo), .val (.int hi), .unset, .unset, .unset, .unset, .unset, .unset] [(.long (hi.toInt64))])) _
      refine XS.iload X101.here hx rfl (hb hby at_250) rfl ?_
      show Steps p.tables e below (T101.setTop (mkF m 252 #[.val (.int p1), .val (.int off), .val (.ref b), .val (.int s1), .val (.int lo), .val (.int hi), .unset, .unset, .unset, .unset, .unset, .unset] [(.int lo), (.long (hi.toInt64))])) _
      refine XS.i2l X101.here hx rfl (hb hby at_252) rfl ?_
      show Steps p.tables e below (T101.setTop (mkF m 253 #[.val (.int p1), .val (.int off), .val (.ref b), .val (.int s1), .val (.int lo), .val (.int hi), .unset, .unset, .unset, .unset, .unset, .unset] [(.long (lo.toInt64)), (.long (hi.toInt64))])) _
      refine XS.lsub X101.here hx rfl (hb hby at_253) rfl ?_
      show Steps p.tables e below (T101.setTop (mkF m 254 #[.val (.int p1), .val (.int off), .val (.ref b), .val (.int s1), .val (.int lo), .val (.int hi), .unset, .unset, .unset, .unset, .unset, .unset] [(.long ((hi.toInt64) - (lo.toInt64)))])) _
      refine XS.lconst X101.here hx rfl (hb hby at_254) ?_
      show Steps p.tables e below (T101.setTop (mkF m 255 #[.val (.int p1), .val (.int off), .val (.ref b), .val (.int s1), .val (.int lo), .val (.int hi), .unset, .unset, .unset, .unset, .unset, .unset] [(.long (1 : Int64)), (.long ((hi.toInt64) - (lo.toInt64)))])) _
      refine XS.ladd X101.here hx rfl (hb hby at_255) rfl ?_
      show Steps p.tables e below (T101.setTop (mkF m 256 #[.val (.int p1), .val (.int off), .val (.ref b), .val (.int s1), .val (.int lo), .val (.int hi), .unset, .unset, .unset, .unset, .unset, .unset] [(.long (((hi.toInt64) - (lo.toInt64)) + (1 : Int64)))])) _
      refine XS.lstore X101.here hx rfl (hb hby at_256) rfl (l' := #[.val (.int p1), .val (.int off), .val (.ref b), .val (.int s1), .val (.int lo), .val (.int hi), .val (.long (((hi.toInt64) - (lo.toInt64)) + (1 : Int64))), .second, .unset, .unset, .unset, .unset]) rfl ?_
      show Steps p.tables e below (T101.setTop (mkF m 258 #[.val (.int p1), .val (.int off), .val (.ref b), .val (.int s1), .val (.int lo), .val (.int hi), .val (.long (((hi.toInt64) - (lo.toInt64)) + (1 : Int64))), .second, .unset, .unset, .unset, .unset] [])) _
      refine XS.iloadN X101.here hx rfl (hb hby at_258) rfl ?_
      show Steps p.tables e below (T101.setTop (mkF m 259 #[.val (.int p1), .val (.int off), .val (.ref b), .val (.int s1), .val (.int lo), .val (.int hi), .val (.long (((hi.toInt64) - (lo.toInt64)) + (1 : Int64))), .second, .unset, .unset, .unset, .unset] [(.int off)])) _
      refine XS.i2l X101.here hx rfl (hb hby at_259) rfl ?_
      show Steps p.tables e below (T101.setTop (mkF m 260 #[.val (.int p1), .val (.int off), .val (.ref b), .val (.int s1), .val (.int lo), .val (.int hi), .val (.long (((hi.toInt64) - (lo.toInt64)) + (1 : Int64))), .second, .unset, .unset, .unset, .unset] [(.long (off.toInt64))])) _
      refine XS.lload X101.here hx rfl (hb hby at_260) rfl ?_
      show Steps p.tables e below (T101.setTop (mkF m 262 #[.val (.int p1), .val (.int off), .val (.ref b), .val (.int s1), .val (.int lo), .val (.int hi), .val (.long (((hi.toInt64) - (lo.toInt64)) + (1 : Int64))), .second, .unset, .unset, .unset, .unset] [(.long (((hi.toInt64) - (lo.toInt64)) + (1 : Int64))), (.long (off.toInt64))])) _
      refine own_lrem X101 hx rfl (hb hby at_262) rfl hm1 ?_
      show Steps p.tables e below (T101.setTop (mkF m 263 #[.val (.int p1), .val (.int off), .val (.ref b), .val (.int s1), .val (.int lo), .val (.int hi), .val (.long (((hi.toInt64) - (lo.toInt64)) + (1 : Int64))), .second, .unset, .unset, .unset, .unset] [(.long ((off.toInt64) % (((hi.toInt64) - (lo.toInt64)) + (1 : Int64))))])) _
      refine XS.lload X101.here hx rfl (hb hby at_263) rfl ?_
      show Steps p.tables e below (T101.setTop (mkF m 265 #[.val (.int p1), .val (.int off), .val (.ref b), .val (.int s1), .val (.int lo), .val (.int hi), .val (.long (((hi.toInt64) - (lo.toInt64)) + (1 : Int64))), .second, .unset, .unset, .unset, .unset] [(.long (((hi.toInt64) - (lo.toInt64)) + (1 : Int64))), (.long ((off.toInt64) % (((hi.toInt64) - (lo.toInt64)) + (1 : Int64))))])) _
      refine XS.ladd X101.here hx rfl (hb hby at_265) rfl ?_
      show Steps p.tables e below (T101.setTop (mkF m 266 #[.val (.int p1), .val (.int off), .val (.ref b), .val (.int s1), .val (.int lo), .val (.int hi), .val (.long (((hi.toInt64) - (lo.toInt64)) + (1 : Int64))), .second, .unset, .unset, .unset, .unset] [(.long (((off.toInt64) % (((hi.toInt64) - (lo.toInt64)) + (1 : Int64))) + (((hi.toInt64) - (lo.toInt64)) + (1 : Int64))))])) _
      refine XS.lload X101.here hx rfl (hb hby at_266) rfl ?_
      show Steps p.tables e below (T101.setTop (mkF m 268 #[.val (.int p1), .val (.int off), .val (.ref b), .val (.int s1), .val (.int lo), .val (.int hi), .val (.long (((hi.toInt64) - (lo.toInt64)) + (1 : Int64))), .second, .unset, .unset, .unset, .unset] [(.long (((hi.toInt64) - (lo.toInt64)) + (1 : Int64))), (.long (((off.toInt64) % (((hi.toInt64) - (lo.toInt64)) + (1 : Int64))) + (((hi.toInt64) - (lo.toInt64)) + (1 : Int64))))])) _
      refine own_lrem X101 hx rfl (hb hby at_268) rfl hm1 ?_
      show Steps p.tables e below (T101.setTop (mkF m 269 #[.val (.int p1), .val (.int off), .val (.ref b), .val (.int s1), .val (.int lo), .val (.int hi), .val (.long (((hi.toInt64) - (lo.toInt64)) + (1 : Int64))), .second, .unset, .unset, .unset, .unset] [(.long ((((off.toInt64) % (((hi.toInt64) - (lo.toInt64)) + (1 : Int64))) + (((hi.toInt64) - (lo.toInt64)) + (1 : Int64))) % (((hi.toInt64) - (lo.toInt64)) + (1 : Int64))))])) _
      refine XS.lstore X101.here hx rfl (hb hby at_269) rfl (l' := #[.val (.int p1), .val (.int off), .val (.ref b), .val (.int s1), .val (.int lo), .val (.int hi), .val (.long (((hi.toInt64) - (lo.toInt64)) + (1 : Int64))), .second, .val (.long ((((off.toInt64) % (((hi.toInt64) - (lo.toInt64)) + (1 : Int64))) + (((hi.toInt64) - (lo.toInt64)) + (1 : Int64))) % (((hi.toInt64) - (lo.toInt64)) + (1 : Int64)))), .second, .unset, .unset]) rfl ?_
      show Steps p.tables e below (T101.setTop (mkF m 271 #[.val (.int p1), .val (.int off), .val (.ref b), .val (.int s1), .val (.int lo), .val (.int hi), .val (.long (((hi.toInt64) - (lo.toInt64)) + (1 : Int64))), .second, .val (.long ((((off.toInt64) % (((hi.toInt64) - (lo.toInt64)) + (1 : Int64))) + (((hi.toInt64) - (lo.toInt64)) + (1 : Int64))) % (((hi.toInt64) - (lo.toInt64)) + (1 : Int64)))), .second, .unset, .unset] [])) _
      refine XS.iload X101.here hx rfl (hb hby at_271) rfl ?_
      show Steps p.tables e below (T101.setTop (mkF m 273 #[.val (.int p1), .val (.int off), .val (.ref b), .val (.int s1), .val (.int lo), .val (.int hi), .val (.long (((hi.toInt64) - (lo.toInt64)) + (1 : Int64))), .second, .val (.long ((((off.toInt64) % (((hi.toInt64) - (lo.toInt64)) + (1 : Int64))) + (((hi.toInt64) - (lo.toInt64)) + (1 : Int64))) % (((hi.toInt64) - (lo.toInt64)) + (1 : Int64)))), .second, .unset, .unset] [(.int lo)])) _
      refine XS.i2l X101.here hx rfl (hb hby at_273) rfl ?_
      show Steps p.tables e below (T101.setTop (mkF m 274 #[.val (.int p1), .val (.int off), .val (.ref b), .val (.int s1), .val (.int lo), .val (.int hi), .val (.long (((hi.toInt64) - (lo.toInt64)) + (1 : Int64))), .second, .val (.long ((((off.toInt64) % (((hi.toInt64) - (lo.toInt64)) + (1 : Int64))) + (((hi.toInt64) - (lo.toInt64)) + (1 : Int64))) % (((hi.toInt64) - (lo.toInt64)) + (1 : Int64)))), .second, .unset, .unset] [(.long (lo.toInt64))])) _
      refine XS.lload X101.here hx rfl (hb hby at_274) rfl ?_
      show Steps p.tables e below (T101.setTop (mkF m 276 #[.val (.int p1), .val (.int off), .val (.ref b), .val (.int s1), .val (.int lo), .val (.int hi), .val (.long (((hi.toInt64) - (lo.toInt64)) + (1 : Int64))), .second, .val (.long ((((off.toInt64) % (((hi.toInt64) - (lo.toInt64)) + (1 : Int64))) + (((hi.toInt64) - (lo.toInt64)) + (1 : Int64))) % (((hi.toInt64) - (lo.toInt64)) + (1 : Int64)))), .second, .unset, .unset] [(.long ((((off.toInt64) % (((hi.toInt64) - (lo.toInt64)) + (1 : Int64))) + (((hi.toInt64) - (lo.toInt64)) + (1 : Int64))) % (((hi.toInt64) - (lo.toInt64)) + (1 : Int64)))), (.long (lo.toInt64))])) _
      refine XS.ladd X101.here hx rfl (hb hby at_276) rfl ?_
      show Steps p.tables e below (T101.setTop (mkF m 277 #[.val (.int p1), .val (.int off), .val (.ref b), .val (.int s1), .val (.int lo), .val (.int hi), .val (.long (((hi.toInt64) - (lo.toInt64)) + (1 : Int64))), .second, .val (.long ((((off.toInt64) % (((hi.toInt64) - (lo.toInt64)) + (1 : Int64))) + (((hi.toInt64) - (lo.toInt64)) + (1 : Int64))) % (((hi.toInt64) - (lo.toInt64)) + (1 : Int64)))), .second, .unset, .unset] [(.long ((lo.toInt64) + ((((off.toInt64) % (((hi.toInt64) - (lo.toInt64)) + (1 : Int64))) + (((hi.toInt64) - (lo.toInt64)) + (1 : Int64))) % (((hi.toInt64) - (lo.toInt64)) + (1 : Int64)))))])) _
      refine XS.l2i X101.here hx rfl (hb hby at_277) rfl ?_
      show Steps p.tables e below (T101.setTop (mkF m 278 #[.val (.int p1), .val (.int off), .val (.ref b), .val (.int s1), .val (.int lo), .val (.int hi), .val (.long (((hi.toInt64) - (lo.toInt64)) + (1 : Int64))), .second, .val (.long ((((off.toInt64) % (((hi.toInt64) - (lo.toInt64)) + (1 : Int64))) + (((hi.toInt64) - (lo.toInt64)) + (1 : Int64))) % (((hi.toInt64) - (lo.toInt64)) + (1 : Int64)))), .second, .unset, .unset] [(.int (((lo.toInt64) + ((((off.toInt64) % (((hi.toInt64) - (lo.toInt64)) + (1 : Int64))) + (((hi.toInt64) - (lo.toInt64)) + (1 : Int64))) % (((hi.toInt64) - (lo.toInt64)) + (1 : Int64)))).toInt32))])) _
      refine XS.istore X101.here hx rfl (hb hby at_278) rfl (l' := #[.val (.int p1), .val (.int off), .val (.ref b), .val (.int s1), .val (.int lo), .val (.int hi), .val (.long (((hi.toInt64) - (lo.toInt64)) + (1 : Int64))), .second, .val (.long ((((off.toInt64) % (((hi.toInt64) - (lo.toInt64)) + (1 : Int64))) + (((hi.toInt64) - (lo.toInt64)) + (1 : Int64))) % (((hi.toInt64) - (lo.toInt64)) + (1 : Int64)))), .second, .val (.int (((lo.toInt64) + ((((off.toInt64) % (((hi.toInt64) - (lo.toInt64)) + (1 : Int64))) + (((hi.toInt64) - (lo.toInt64)) + (1 : Int64))) % (((hi.toInt64) - (lo.toInt64)) + (1 : Int64)))).toInt32)), .unset]) rfl ?_
      show Steps p.tables e below (T101.setTop (mkF m 280 #[.val (.int p1), .val (.int off), .val (.ref b), .val (.int s1), .val (.int lo), .val (.int hi), .val (.long (((hi.toInt64) - (lo.toInt64)) + (1 : Int64))), .second, .val (.long ((((off.toInt64) % (((hi.toInt64) - (lo.toInt64)) + (1 : Int64))) + (((hi.toInt64) - (lo.toInt64)) + (1 : Int64))) % (((hi.toInt64) - (lo.toInt64)) + (1 : Int64)))), .second, .val (.int (((lo.toInt64) + ((((off.toInt64) % (((hi.toInt64) - (lo.toInt64)) + (1 : Int64))) + (((hi.toInt64) - (lo.toInt64)) + (1 : Int64))) % (((hi.toInt64) - (lo.toInt64)) + (1 : Int64)))).toInt32)), .unset] [])) _
      refine XS.iloadN X101.here hx rfl (hb hby at_280) rfl ?_
      show Steps p.tables e below (T101.setTop (mkF m 281 #[.val (.int p1), .val (.int off), .val (.ref b), .val (.int s1), .val (.int lo), .val (.int hi), .val (.long (((hi.toInt64) - (lo.toInt64)) + (1 : Int64))), .second, .val (.long ((((off.toInt64) % (((hi.toInt64) - (lo.toInt64)) + (1 : Int64))) + (((hi.toInt64) - (lo.toInt64)) + (1 : Int64))) % (((hi.toInt64) - (lo.toInt64)) + (1 : Int64)))), .second, .val (.int (((lo.toInt64) + ((((off.toInt64) % (((hi.toInt64) - (lo.toInt64)) + (1 : Int64))) + (((hi.toInt64) - (lo.toInt64)) + (1 : Int64))) % (((hi.toInt64) - (lo.toInt64)) + (1 : Int64)))).toInt32)), .unset] [(.int s1)])) _
      refine XS.iconst X101.here hx rfl (hb hby at_281) ?_
      show Steps p.tables e below (T101.setTop (mkF m 282 #[.val (.int p1), .val (.int off), .val (.ref b), .val (.int s1), .val (.int lo), .val (.int hi), .val (.long (((hi.toInt64) - (lo.toInt64)) + (1 : Int64))), .second, .val (.long ((((off.toInt64) % (((hi.toInt64) - (lo.toInt64)) + (1 : Int64))) + (((hi.toInt64) - (lo.toInt64)) + (1 : Int64))) % (((hi.toInt64) - (lo.toInt64)) + (1 : Int64)))), .second, .val (.int (((lo.toInt64) + ((((off.toInt64) % (((hi.toInt64) - (lo.toInt64)) + (1 : Int64))) + (((hi.toInt64) - (lo.toInt64)) + (1 : Int64))) % (((hi.toInt64) - (lo.toInt64)) + (1 : Int64)))).toInt32)), .unset] [(.int (1 : Int32)), (.int s1)])) _
      refine XS.iand X101.here hx rfl (hb hby at_282) rfl ?_
      show Steps p.tables e below (T101.setTop (mkF m 283 #[.val (.int p1), .val (.int off), .val (.ref b), .val (.int s1), .val (.int lo), .val (.int hi), .val (.long (((hi.toInt64) - (lo.toInt64)) + (1 : Int64))), .second, .val (.long ((((off.toInt64) % (((hi.toInt64) - (lo.toInt64)) + (1 : Int64))) + (((hi.toInt64) - (lo.toInt64)) + (1 : Int64))) % (((hi.toInt64) - (lo.toInt64)) + (1 : Int64)))), .second, .val (.int (((lo.toInt64) + ((((off.toInt64) % (((hi.toInt64) - (lo.toInt64)) + (1 : Int64))) + (((hi.toInt64) - (lo.toInt64)) + (1 : Int64))) % (((hi.toInt64) - (lo.toInt64)) + (1 : Int64)))).toInt32)), .unset] [(.int (s1 &&& (1 : Int32)))])) _
      refine XS.iconst X101.here hx rfl (hb hby at_283) ?_
      exact Steps.refl _
    obtain ⟨mid, h_mid⟩ : ∃ z : Int32, z = (((lo.toInt64) + ((((off.toInt64) % (((hi.toInt64) - (lo.toInt64)) + (1 : Int64))) + (((hi.toInt64) - (lo.toInt64)) + (1 : Int64))) % (((hi.toInt64) - (lo.toInt64)) + (1 : Int64)))).toInt32) := ⟨_, rfl⟩
    rw [← h_mid] at S112
    rw [← h_mid] at hm3 hm4
    obtain ⟨ex, h_ex, S114⟩ : ∃ (ex : Int32), ex = (if (s1 &&& (1 : Int32)) = (1 : Int32) then (1 : Int32) else (0 : Int32)) ∧ Steps p.tables e below Ω (T101.setTop (mkF m 292 #[.val (.int p1), .val (.int off), .val (.ref b), .val (.int s1), .val (.int lo), .val (.int hi), .val (.long (((hi.toInt64) - (lo.toInt64)) + (1 : Int64))), .second, .val (.long ((((off.toInt64) % (((hi.toInt64) - (lo.toInt64)) + (1 : Int64))) + (((hi.toInt64) - (lo.toInt64)) + (1 : Int64))) % (((hi.toInt64) - (lo.toInt64)) + (1 : Int64)))), .second, .val (.int mid), .unset] [(.int ex)])) := by
      by_cases cz113 : (s1 &&& (1 : Int32)) = (1 : Int32)
      · refine ⟨(1 : Int32), (by rw [if_pos cz113]), S112.trans ?_⟩
        refine XS.icmpNo X101.here hx rfl (hb hby at_284) rfl (XT.ii_ne_f cz113) ?_
        show Steps p.tables e below (T101.setTop (mkF m 287 #[.val (.int p1), .val (.int off), .val (.ref b), .val (.int s1), .val (.int lo), .val (.int hi), .val (.long (((hi.toInt64) - (lo.toInt64)) + (1 : Int64))), .second, .val (.long ((((off.toInt64) % (((hi.toInt64) - (lo.toInt64)) + (1 : Int64))) + (((hi.toInt64) - (lo.toInt64)) + (1 : Int64))) % (((hi.toInt64) - (lo.toInt64)) + (1 : Int64)))), .second, .val (.int mid), .unset] [])) _
        refine XS.iconst X101.here hx rfl (hb hby at_287) ?_
        show Steps p.tables e below (T101.setTop (mkF m 288 #[.val (.int p1), .val (.int off), .val (.ref b), .val (.int s1), .val (.int lo), .val (.int hi), .val (.long (((hi.toInt64) - (lo.toInt64)) + (1 : Int64))), .second, .val (.long ((((off.toInt64) % (((hi.toInt64) - (lo.toInt64)) + (1 : Int64))) + (((hi.toInt64) - (lo.toInt64)) + (1 : Int64))) % (((hi.toInt64) - (lo.toInt64)) + (1 : Int64)))), .second, .val (.int mid), .unset] [(.int (1 : Int32))])) _
        refine XS.goto X101.here hx rfl (pc0 := 288) (pc' := 292) rfl (hb hby at_288) (by decide) (by decide) ?_
        exact Steps.refl _
      · refine ⟨(0 : Int32), (by rw [if_neg cz113]), S112.trans ?_⟩
        refine XS.icmpYes X101.here hx rfl (pc0 := 284) (pc' := 291) rfl (hb hby at_284) rfl (XT.ii_ne_t cz113) (by decide) (by decide) ?_
        show Steps p.tables e below (T101.setTop (mkF m 291 #[.val (.int p1), .val (.int off), .val (.ref b), .val (.int s1), .val (.int lo), .val (.int hi), .val (.long (((hi.toInt64) - (lo.toInt64)) + (1 : Int64))), .second, .val (.long ((((off.toInt64) % (((hi.toInt64) - (lo.toInt64)) + (1 : Int64))) + (((hi.toInt64) - (lo.toInt64)) + (1 : Int64))) % (((hi.toInt64) - (lo.toInt64)) + (1 : Int64)))), .second, .val (.int mid), .unset] [])) _
        refine XS.iconst X101.here hx rfl (hb hby at_291) ?_
        exact Steps.refl _
    have S115 : Steps p.tables e below Ω (T101.setTop (mkF m 296 #[.val (.int p1), .val (.int off), .val (.ref b), .val (.int s1), .val (.int lo), .val (.int hi), .val (.long (((hi.toInt64) - (lo.toInt64)) + (1 : Int64))), .second, .val (.long ((((off.toInt64) % (((hi.toInt64) - (lo.toInt64)) + (1 : Int64))) + (((hi.toInt64) - (lo.toInt64)) + (1 : Int64))) % (((hi.toInt64) - (lo.toInt64)) + (1 : Int64)))), .second, .val (.int mid), .val (.int ex)] [(.int lo)])) := by
      refine S114.trans ?_
      refine XS.istore X101.here hx rfl (hb hby at_292) rfl (l' := #[.val (.int p1), .val (.int off), .val (.ref b), .val (.int s1), .val (.int lo), .val (.int hi), .val (.long (((hi.toInt64) - (lo.toInt64)) + (1 : Int64))), .second, .val (.long ((((off.toInt64) % (((hi.toInt64) - (lo.toInt64)) + (1 : Int64))) + (((hi.toInt64) - (lo.toInt64)) + (1 : Int64))) % (((hi.toInt64) - (lo.toInt64)) + (1 : Int64)))), .second, .val (.int mid), .val (.int ex)]) rfl ?_
      show Steps p.tables e below (T101.setTop (mkF m 294 #[.val (.int p1), .val (.int off), .val (.ref b), .val (.int s1), .val (.int lo), .val (.int hi), .val (.long (((hi.toInt64) - (lo.toInt64)) + (1 : Int64))), .second, .val (.long ((((off.toInt64) % (((hi.toInt64) - (lo.toInt64)) + (1 : Int64))) + (((hi.toInt64) - (lo.toInt64)) + (1 : Int64))) % (((hi.toInt64) - (lo.toInt64)) + (1 : Int64)))), .second, .val (.int mid), .val (.int ex)] [])) _
      refine XS.iload X101.here hx rfl (hb hby at_294) rfl ?_
      exact Steps.refl _
    have hex : ex = own_par s1 := h_ex
    obtain ⟨v116, T116, L116, X116, hQ116, st116⟩ := own_callS X101 hx (y := (⟨"com/example/distill_trees/distilltrees/io/XmlChars", "isNameStartChar", "(I)Z"⟩ : MethodName)) hown (mvT hZ (hw _ (List.mem_of_getElem? (i := 10) rfl))) (mvT hZ (hw _ (List.mem_of_getElem? (i := 11) rfl))) (mvT hZ (hw _ (List.mem_of_getElem? (i := 12) rfl))) (mvT hZ (hw _ (List.mem_of_getElem? (i := 13) rfl))) (by decide) (backOf (W := 0) (rm1 l Z a0 hw [] lo  h101 n0 (Nat.le_trans (Nat.le_trans (Nat.le_trans (Nat.le_trans (Nat.le_trans (Nat.le_trans (Nat.le_trans (Nat.le_trans (Nat.le_trans (Nat.le_trans (Nat.le_trans (Nat.le_trans (Nat.le_trans (Nat.le_trans (Nat.le_trans (Nat.le_trans (Nat.le_trans (Nat.le_trans (Nat.le_trans (Nat.le_trans (Nat.le_trans (Nat.le_trans (Nat.le_trans (Nat.le_trans (Nat.le_trans (Nat.le_trans (Nat.le_trans (Nat.le_trans (Nat.le_trans (Nat.le_trans (Nat.le_trans (Nat.le_trans (Nat.le_trans (Nat.le_trans Z0 E2.1) (Keep.of_wr W5).1) (Keep.of_wr W8).1) (Keep.of_wr W11).1) (Keep.of_wr W14).1) (Keep.of_wr W17).1) (Keep.of_wr W20).1) (Keep.of_wr W23).1) (Keep.of_wr W26).1) (Keep.of_wr W29).1) (Keep.of_wr W32).1) (Keep.of_wr W35).1) (Keep.of_wr W38).1) (Keep.of_wr W41).1) (Keep.of_wr W44).1) (Keep.of_wr W47).1) (Keep.of_wr W50).1) (Keep.of_wr W53).1) (Keep.of_wr W56).1) (Keep.of_wr W59).1) (Keep.of_wr W62).1) (Keep.of_wr W65).1) (Keep.of_wr W68).1) (Keep.of_wr W71).1) (Keep.of_wr W74).1) (Keep.of_wr W77).1) (Keep.of_wr W80).1) (Keep.of_wr W83).1) (Keep.of_wr W86).1) (Keep.of_wr W89).1) (Keep.of_wr W92).1) (Keep.of_wr W95).1) (Keep.of_wr W98).1) (Keep.of_wr W101).1) ) hZ (hw _ (List.mem_of_getElem? (i := 13) rfl)) (hw _ (List.mem_of_getElem? (i := 12) rfl)) (by decide) (by decide)) (g := (mkF m 296 #[.val (.int p1), .val (.int off), .val (.ref b), .val (.int s1), .val (.int lo), .val (.int hi), .val (.long (((hi.toInt64) - (lo.toInt64)) + (1 : Int64))), .second, .val (.long ((((off.toInt64) % (((hi.toInt64) - (lo.toInt64)) + (1 : Int64))) + (((hi.toInt64) - (lo.toInt64)) + (1 : Int64))) % (((hi.toInt64) - (lo.toInt64)) + (1 : Int64)))), .second, .val (.int mid), .val (.int ex)] [(.int lo)])) rfl (by rw [hml]; rfl) (argsL := [(.int lo)]) (rest := []) (lenOf pd_0 rfl) rfl (by show 2 * 0 + _ ≤ _; exact Nat.le_of_eq rfl) (hb hby at_296) ⟨rfl, e101, (by decide : 1 + 0 ≤ _), (by decide : 33 + 0 ≤ _)⟩
    obtain ⟨hv116, N116q, e116⟩ := hQ116
    rw [hv116] at st116
    have N116 := Fr.app N101 N116q
    have S117 : Steps p.tables e below Ω (T116.setTop (mkF m 299 #[.val (.int p1), .val (.int off), .val (.ref b), .val (.int s1), .val (.int lo), .val (.int hi), .val (.long (((hi.toInt64) - (lo.toInt64)) + (1 : Int64))), .second, .val (.long ((((off.toInt64) % (((hi.toInt64) - (lo.toInt64)) + (1 : Int64))) + (((hi.toInt64) - (lo.toInt64)) + (1 : Int64))) % (((hi.toInt64) - (lo.toInt64)) + (1 : Int64)))), .second, .val (.int mid), .val (.int ex)] [(.int (own_ns lo))])) := S115.trans st116
    have S118 : Steps p.tables e below Ω (T116.setTop (mkF m 301 #[.val (.int p1), .val (.int off), .val (.ref b), .val (.int s1), .val (.int lo), .val (.int hi), .val (.long (((hi.toInt64) - (lo.toInt64)) + (1 : Int64))), .second, .val (.long ((((off.toInt64) % (((hi.toInt64) - (lo.toInt64)) + (1 : Int64))) + (((hi.toInt64) - (lo.toInt64)) + (1 : Int64))) % (((hi.toInt64) - (lo.toInt64)) + (1 : Int64)))), .second, .val (.int mid), .val (.int ex)] [(.int ex), (.int (own_ns lo))])) := by
      refine S117.trans ?_
      refine XS.iload X116.here hx rfl (hb hby at_299) rfl ?_
      exact Steps.refl _
    have S119 : Steps p.tables e below Ω (T116.setTop (mkF m 306 #[.val (.int p1), .val (.int off), .val (.ref b), .val (.int s1), .val (.int lo), .val (.int hi), .val (.long (((hi.toInt64) - (lo.toInt64)) + (1 : Int64))), .second, .val (.long ((((off.toInt64) % (((hi.toInt64) - (lo.toInt64)) + (1 : Int64))) + (((hi.toInt64) - (lo.toInt64)) + (1 : Int64))) % (((hi.toInt64) - (lo.toInt64)) + (1 : Int64)))), .second, .val (.int mid), .val (.int ex)] [(.int hi)])) := by
      refine S118.trans ?_
      refine XS.icmpNo X116.here hx rfl (hb hby at_301) rfl (XT.ii_ne_f ((hall lo (Int.le_refl _) hle).trans hex.symm)) ?_
      show Steps p.tables e below (T116.setTop (mkF m 304 #[.val (.int p1), .val (.int off), .val (.ref b), .val (.int s1), .val (.int lo), .val (.int hi), .val (.long (((hi.toInt64) - (lo.toInt64)) + (1 : Int64))), .second, .val (.long ((((off.toInt64) % (((hi.toInt64) - (lo.toInt64)) + (1 : Int64))) + (((hi.toInt64) - (lo.toInt64)) + (1 : Int64))) % (((hi.toInt64) - (lo.toInt64)) + (1 : Int64)))), .second, .val (.int mid), .val (.int ex)] [])) _
      refine XS.iload X116.here hx rfl (hb hby at_304) rfl ?_
      exact Steps.refl _
    obtain ⟨v120, T120, L120, X120, hQ120, st120⟩ := own_callS X116 hx (y := (⟨"com/example/distill_trees/distilltrees/io/XmlChars", "isNameStartChar", "(I)Z"⟩ : MethodName)) hown (mvT hZ (hw _ (List.mem_of_getElem? (i := 10) rfl))) (mvT hZ (hw _ (List.mem_of_getElem? (i := 11) rfl))) (mvT hZ (hw _ (List.mem_of_getElem? (i := 12) rfl))) (mvT hZ (hw _ (List.mem_of_getElem? (i := 13) rfl))) (by decide) (backOf (W := 0) (rm1 l Z a0 hw [] hi  h101 n0 (Nat.le_trans (Nat.le_trans (Nat.le_trans (Nat.le_trans (Nat.le_trans (Nat.le_trans (Nat.le_trans (Nat.le_trans (Nat.le_trans (Nat.le_trans (Nat.le_trans (Nat.le_trans (Nat.le_trans (Nat.le_trans (Nat.le_trans (Nat.le_trans (Nat.le_trans (Nat.le_trans (Nat.le_trans (Nat.le_trans (Nat.le_trans (Nat.le_trans (Nat.le_trans (Nat.le_trans (Nat.le_trans (Nat.le_trans (Nat.le_trans (Nat.le_trans (Nat.le_trans (Nat.le_trans (Nat.le_trans (Nat.le_trans (Nat.le_trans (Nat.le_trans Z0 E2.1) (Keep.of_wr W5).1) (Keep.of_wr W8).1) (Keep.of_wr W11).1) (Keep.of_wr W14).1) (Keep.of_wr W17).1) (Keep.of_wr W20).1) (Keep.of_wr W23).1) (Keep.of_wr W26).1) (Keep.of_wr W29).1) (Keep.of_wr W32).1) (Keep.of_wr W35).1) (Keep.of_wr W38).1) (Keep.of_wr W41).1) (Keep.of_wr W44).1) (Keep.of_wr W47).1) (Keep.of_wr W50).1) (Keep.of_wr W53).1) (Keep.of_wr W56).1) (Keep.of_wr W59).1) (Keep.of_wr W62).1) (Keep.of_wr W65).1) (Keep.of_wr W68).1) (Keep.of_wr W71).1) (Keep.of_wr W74).1) (Keep.of_wr W77).1) (Keep.of_wr W80).1) (Keep.of_wr W83).1) (Keep.of_wr W86).1) (Keep.of_wr W89).1) (Keep.of_wr W92).1) (Keep.of_wr W95).1) (Keep.of_wr W98).1) (Keep.of_wr W101).1) ) hZ (hw _ (List.mem_of_getElem? (i := 13) rfl)) (hw _ (List.mem_of_getElem? (i := 12) rfl)) (by decide) (by decide)) (g := (mkF m 306 #[.val (.int p1), .val (.int off), .val (.ref b), .val (.int s1), .val (.int lo), .val (.int hi), .val (.long (((hi.toInt64) - (lo.toInt64)) + (1 : Int64))), .second, .val (.long ((((off.toInt64) % (((hi.toInt64) - (lo.toInt64)) + (1 : Int64))) + (((hi.toInt64) - (lo.toInt64)) + (1 : Int64))) % (((hi.toInt64) - (lo.toInt64)) + (1 : Int64)))), .second, .val (.int mid), .val (.int ex)] [(.int hi)])) rfl (by rw [hml]; rfl) (argsL := [(.int hi)]) (rest := []) (lenOf pd_0 rfl) rfl (by show 2 * 0 + _ ≤ _; exact Nat.le_of_eq rfl) (hb hby at_306) ⟨rfl, e116, (by decide : 1 + 0 ≤ _), (by decide : 33 + 0 ≤ _)⟩
    obtain ⟨hv120, N120q, e120⟩ := hQ120
    rw [hv120] at st120
    have N120 := Fr.app N116 N120q
    have S121 : Steps p.tables e below Ω (T120.setTop (mkF m 309 #[.val (.int p1), .val (.int off), .val (.ref b), .val (.int s1), .val (.int lo), .val (.int hi), .val (.long (((hi.toInt64) - (lo.toInt64)) + (1 : Int64))), .second, .val (.long ((((off.toInt64) % (((hi.toInt64) - (lo.toInt64)) + (1 : Int64))) + (((hi.toInt64) - (lo.toInt64)) + (1 : Int64))) % (((hi.toInt64) - (lo.toInt64)) + (1 : Int64)))), .second, .val (.int mid), .val (.int ex)] [(.int (own_ns hi))])) := S119.trans st120
    have S122 : Steps p.tables e below Ω (T120.setTop (mkF m 311 #[.val (.int p1), .val (.int off), .val (.ref b), .val (.int s1), .val (.int lo), .val (.int hi), .val (.long (((hi.toInt64) - (lo.toInt64)) + (1 : Int64))), .second, .val (.long ((((off.toInt64) % (((hi.toInt64) - (lo.toInt64)) + (1 : Int64))) + (((hi.toInt64) - (lo.toInt64)) + (1 : Int64))) % (((hi.toInt64) - (lo.toInt64)) + (1 : Int64)))), .second, .val (.int mid), .val (.int ex)] [(.int ex), (.int (own_ns hi))])) := by
      refine S121.trans ?_
      refine XS.iload X120.here hx rfl (hb hby at_309) rfl ?_
      exact Steps.refl _
    have S123 : Steps p.tables e below Ω (T120.setTop (mkF m 316 #[.val (.int p1), .val (.int off), .val (.ref b), .val (.int s1), .val (.int lo), .val (.int hi), .val (.long (((hi.toInt64) - (lo.toInt64)) + (1 : Int64))), .second, .val (.long ((((off.toInt64) % (((hi.toInt64) - (lo.toInt64)) + (1 : Int64))) + (((hi.toInt64) - (lo.toInt64)) + (1 : Int64))) % (((hi.toInt64) - (lo.toInt64)) + (1 : Int64)))), .second, .val (.int mid), .val (.int ex)] [(.int mid)])) := by
      refine S122.trans ?_
      refine XS.icmpNo X120.here hx rfl (hb hby at_311) rfl (XT.ii_ne_f ((hall hi hle (Int.le_refl _)).trans hex.symm)) ?_
      show Steps p.tables e below (T120.setTop (mkF m 314 #[.val (.int p1), .val (.int off), .val (.ref b), .val (.int s1), .val (.int lo), .val (.int hi), .val (.long (((hi.toInt64) - (lo.toInt64)) + (1 : Int64))), .second, .val (.long ((((off.toInt64) % (((hi.toInt64) - (lo.toInt64)) + (1 : Int64))) + (((hi.toInt64) - (lo.toInt64)) + (1 : Int64))) % (((hi.toInt64) - (lo.toInt64)) + (1 : Int64)))), .second, .val (.int mid), .val (.int ex)] [])) _
      refine XS.iload X120.here hx rfl (hb hby at_314) rfl ?_
      exact Steps.refl _
    obtain ⟨v124, T124, L124, X124, hQ124, st124⟩ := own_callS X120 hx (y := (⟨"com/example/distill_trees/distilltrees/io/XmlChars", "isNameStartChar", "(I)Z"⟩ : MethodName)) hown (mvT hZ (hw _ (List.mem_of_getElem? (i := 10) rfl))) (mvT hZ (hw _ (List.mem_of_getElem? (i := 11) rfl))) (mvT hZ (hw _ (List.mem_of_getElem? (i := 12) rfl))) (mvT hZ (hw _ (List.mem_of_getElem? (i := 13) rfl))) (by decide) (backOf (W := 0) (rm1 l Z a0 hw [] mid  h101 n0 (Nat.le_trans (Nat.le_trans (Nat.le_trans (Nat.le_trans (Nat.le_trans (Nat.le_trans (Nat.le_trans (Nat.le_trans (Nat.le_trans (Nat.le_trans (Nat.le_trans (Nat.le_trans (Nat.le_trans (Nat.le_trans (Nat.le_trans (Nat.le_trans (Nat.le_trans (Nat.le_trans (Nat.le_trans (Nat.le_trans (Nat.le_trans (Nat.le_trans (Nat.le_trans (Nat.le_trans (Nat.le_trans (Nat.le_trans (Nat.le_trans (Nat.le_trans (Nat.le_trans (Nat.le_trans (Nat.le_trans (Nat.le_trans (Nat.le_trans (Nat.le_trans Z0 E2.1) (Keep.of_wr W5).1) (Keep.of_wr W8).1) (Keep.of_wr W11).1) (Keep.of_wr W14).1) (Keep.of_wr W17).1) (Keep.of_wr W20).1) (Keep.of_wr W23).1) (Keep.of_wr W26).1) (Keep.of_wr W29).1) (Keep.of_wr W32).1) (Keep.of_wr W35).1) (Keep.of_wr W38).1) (Keep.of_wr W41).1) (Keep.of_wr W44).1) (Keep.of_wr W47).1) (Keep.of_wr W50).1) (Keep.of_wr W53).1) (Keep.of_wr W56).1) (Keep.of_wr W59).1) (Keep.of_wr W62).1) (Keep.of_wr W65).1) (Keep.of_wr W68).1) (Keep.of_wr W71).1) (Keep.of_wr W74).1) (Keep.of_wr W77).1) (Keep.of_wr W80).1) (Keep.of_wr W83).1) (Keep.of_wr W86).1) (Keep.of_wr W89).1) (Keep.of_wr W92).1) (Keep.of_wr W95).1) (Keep.of_wr W98).1) (Keep.of_wr W101).1) ) hZ (hw _ (List.mem_of_getElem? (i := 13) rfl)) (hw _ (List.mem_of_getElem? (i := 12) rfl)) (by decide) (by decide)) (g := (mkF m 316 #[.val (.int p1), .val (.int off), .val (.ref b), .val (.int s1), .val (.int lo), .val (.int hi), .val (.long (((hi.toInt64) - (lo.toInt64)) + (1 : Int64))), .second, .val (.long ((((off.toInt64) % (((hi.toInt64) - (lo.toInt64)) + (1 : Int64))) + (((hi.toInt64) - (lo.toInt64)) + (1 : Int64))) % (((hi.toInt64) - (lo.toInt64)) + (1 : Int64)))), .second, .val (.int mid), .val (.int ex)] [(.int mid)])) rfl (by rw [hml]; rfl) (argsL := [(.int mid)]) (rest := []) (lenOf pd_0 rfl) rfl (by show 2 * 0 + _ ≤ _; exact Nat.le_of_eq rfl) (hb hby at_316) ⟨rfl, e120, (by decide : 1 + 0 ≤ _), (by decide : 33 + 0 ≤ _)⟩
    obtain ⟨hv124, N124q, e124⟩ := hQ124
    rw [hv124] at st124
    have N124 := Fr.app N120 N124q
    have S125 : Steps p.tables e below Ω (T124.setTop (mkF m 319 #[.val (.int p1), .val (.int off), .val (.ref b), .val (.int s1), .val (.int lo), .val (.int hi), .val (.long (((hi.toInt64) - (lo.toInt64)) + (1 : Int64))), .second, .val (.long ((((off.toInt64) % (((hi.toInt64) - (lo.toInt64)) + (1 : Int64))) + (((hi.toInt64) - (lo.toInt64)) + (1 : Int64))) % (((hi.toInt64) - (lo.toInt64)) + (1 : Int64)))), .second, .val (.int mid), .val (.int ex)] [(.int (own_ns mid))])) := S123.trans st124
    have S126 : Steps p.tables e below Ω (T124.setTop (mkF m 321 #[.val (.int p1), .val (.int off), .val (.ref b), .val (.int s1), .val (.int lo), .val (.int hi), .val (.long (((hi.toInt64) - (lo.toInt64)) + (1 : Int64))), .second, .val (.long ((((off.toInt64) % (((hi.toInt64) - (lo.toInt64)) + (1 : Int64))) + (((hi.toInt64) - (lo.toInt64)) + (1 : Int64))) % (((hi.toInt64) - (lo.toInt64)) + (1 : Int64)))), .second, .val (.int mid), .val (.int ex)] [(.int ex), (.int (own_ns mid))])) := by
      refine S125.trans ?_
      refine XS.iload X124.here hx rfl (hb hby at_319) rfl ?_
      exact Steps.refl _
    have S127 : Steps p.tables e below Ω (T124.setTop (mkF m 329 #[.val (.int p1), .val (.int off), .val (.ref b), .val (.int s1), .val (.int lo), .val (.int hi), .val (.long (((hi.toInt64) - (lo.toInt64)) + (1 : Int64))), .second, .val (.long ((((off.toInt64) % (((hi.toInt64) - (lo.toInt64)) + (1 : Int64))) + (((hi.toInt64) - (lo.toInt64)) + (1 : Int64))) % (((hi.toInt64) - (lo.toInt64)) + (1 : Int64)))), .second, .val (.int mid), .val (.int ex)] [(.int (1 : Int32))])) := by
      refine S126.trans ?_
      refine XS.icmpNo X124.here hx rfl (hb hby at_321) rfl (XT.ii_ne_f ((hall mid hm3 hm4).trans hex.symm)) ?_
      show Steps p.tables e below (T124.setTop (mkF m 324 #[.val (.int p1), .val (.int off), .val (.ref b), .val (.int s1), .val (.int lo), .val (.int hi), .val (.long (((hi.toInt64) - (lo.toInt64)) + (1 : Int64))), .second, .val (.long ((((off.toInt64) % (((hi.toInt64) - (lo.toInt64)) + (1 : Int64))) + (((hi.toInt64) - (lo.toInt64)) + (1 : Int64))) % (((hi.toInt64) - (lo.toInt64)) + (1 : Int64)))), .second, .val (.int mid), .val (.int ex)] [])) _
      refine XS.iconst X124.here hx rfl (hb hby at_324) ?_
      show Steps p.tables e below (T124.setTop (mkF m 325 #[.val (.int p1), .val (.int off), .val (.ref b), .val (.int s1), .val (.int lo), .val (.int hi), .val (.long (((hi.toInt64) - (lo.toInt64)) + (1 : Int64))), .second, .val (.long ((((off.toInt64) % (((hi.toInt64) - (lo.toInt64)) + (1 : Int64))) + (((hi.toInt64) - (lo.toInt64)) + (1 : Int64))) % (((hi.toInt64) - (lo.toInt64)) + (1 : Int64)))), .second, .val (.int mid), .val (.int ex)] [(.int (1 : Int32))])) _
      refine XS.goto X124.here hx rfl (pc0 := 325) (pc' := 329) rfl (hb hby at_325) (by decide) (by decide) ?_
      exact Steps.refl _
    obtain ⟨fs, hr, hrun, hended, hW, hsame⟩ := X124.leave (v := some (.int (1 : Int32))) (fun h => by rw [Bd.returns] at h; cases h)
    have hfin : Steps p.tables e below Ω (T124.setFrames fs) := by
      refine S127.trans ?_
      exact own_retZ X124 hx Bd.returns (by decide) (hb hby at_329) hr
    rw [hΩ] at hfin
    refine ⟨_, _, hfin, hrun, hended, _, _, rfl, ?_, ⟨_, rfl⟩, hW, hsame.mono (by decide) (by decide)⟩
    show Q0 Z p1 off h0 n0 _ T124.heap _
    rw [e124]
    exact ⟨rfl, N124⟩
  · have qh32 : ¬ s1.toInt = 32 := fun q => h32 (Int32.toInt_inj.mp q)
    have S108 : Steps p.tables e below Ω (T101.setTop (mkF m 238 #[.val (.int p1), .val (.int off), .val (.ref b), .val (.int s1), .val (.int lo), .unset, .unset, .unset, .unset, .unset, .unset, .unset] [])) := by
      refine S106.trans ?_
      refine XS.icmpYes X101.here hx rfl (pc0 := 230) (pc' := 238) rfl (hb hby at_230) rfl (XT.ii_ne_t h32) (by decide) (by decide) ?_
      exact Steps.refl _
    obtain ⟨h2, kh1, kh2, kh3, kh4, kh5⟩ := ky1 h32
    have S109 : Steps p.tables e below Ω (T101.setTop (mkF m 242 #[.val (.int p1), .val (.int off), .val (.ref b), .val (.int s1), .val (.int lo), .unset, .unset, .unset, .unset, .unset, .unset, .unset] [(.int (s1 + (1 : Int32))), (.ref b)])) := by
      refine S108.trans ?_
      refine XS.aloadN X101.here hx rfl (hb hby at_238) rfl rfl ?_
      show Steps p.tables e below (T101.setTop (mkF m 239 #[.val (.int p1), .val (.int off), .val (.ref b), .val (.int s1), .val (.int lo), .unset, .unset, .unset, .unset, .unset, .unset, .unset] [(.ref b)])) _
      refine XS.iloadN X101.here hx rfl (hb hby at_239) rfl ?_
      show Steps p.tables e below (T101.setTop (mkF m 240 #[.val (.int p1), .val (.int off), .val (.ref b), .val (.int s1), .val (.int lo), .unset, .unset, .unset, .unset, .unset, .unset, .unset] [(.int s1), (.ref b)])) _
      refine XS.iconst X101.here hx rfl (hb hby at_240) ?_
      show Steps p.tables e below (T101.setTop (mkF m 241 #[.val (.int p1), .val (.int off), .val (.ref b), .val (.int s1), .val (.int lo), .unset, .unset, .unset, .unset, .unset, .unset, .unset] [(.int (1 : Int32)), (.int s1), (.ref b)])) _
      refine XS.iadd X101.here hx rfl (hb hby at_241) rfl ?_
      exact Steps.refl _
    have S110 : Steps p.tables e below Ω (T101.setTop (mkF m 243 #[.val (.int p1), .val (.int off), .val (.ref b), .val (.int s1), .val (.int lo), .unset, .unset, .unset, .unset, .unset, .unset, .unset] [(.int h2)])) := S109.trans (own_ldI X101 hx hZ e101 V101 (j := (s1 + (1 : Int32))) (x := h2) kh4 kh1 (g := (mkF m 242 #[.val (.int p1), .val (.int off), .val (.ref b), .val (.int s1), .val (.int lo), .unset, .unset, .unset, .unset, .unset, .unset, .unset] [(.int (s1 + (1 : Int32))), (.ref b)])) rfl rfl (hb hby at_242) _ (Steps.refl _))
    have S111 : Steps p.tables e below Ω (T101.setTop (mkF m 245 #[.val (.int p1), .val (.int off), .val (.ref b), .val (.int s1), .val (.int lo), .unset, .unset, .unset, .unset, .unset, .unset, .unset] [(.int (h2 - (1 : Int32)))])) := by
      refine S110.trans ?_
      refine XS.iconst X101.here hx rfl (hb hby at_243) ?_
      show Steps p.tables e below (T101.setTop (mkF m 244 #[.val (.int p1), .val (.int off), .val (.ref b), .val (.int s1), .val (.int lo), .unset, .unset, .unset, .unset, .unset, .unset, .unset] [(.int (1 : Int32)), (.int h2)])) _
      refine XS.isub X101.here hx rfl (hb hby at_244) rfl ?_
      exact Steps.refl _
    obtain ⟨hi, h_hi⟩ : ∃ z : Int32, z = (h2 - (1 : Int32)) := ⟨_, rfl⟩
    rw [← h_hi] at S111
    have hhi : hi.toInt = h2.toInt - 1 := by rw [h_hi]; exact own_hi h2 kh3
    have hle : lo.toInt ≤ hi.toInt := by omega
    have hall : ∀ x : Int32, lo.toInt ≤ x.toInt → x.toInt ≤ hi.toInt → own_ns x = own_par s1 := fun x a b => kh5 x a (by omega)
    obtain ⟨hm1, hm3, hm4⟩ := own_mid lo hi off hle
    have S128 : Steps p.tables e below Ω (T101.setTop (mkF m 284 #[.val (.int p1), .val (.int off), .val (.ref b), .val (.int s1), .val (.int lo), .val (.int hi), .val (.long (((hi.toInt64) - (lo.toInt64)) + (1 : Int64))), .second, .val (.long ((((off.toInt64) % (((hi.toInt64) - (lo.toInt64)) + (1 : Int64))) + (((hi.toInt64) - (lo.toInt64)) + (1 : Int64))) % (((hi.toInt64) - (lo.toInt64)) + (1 : Int64)))), .second, .val (.int (((lo.toInt64) + ((((off.toInt64) % (((hi.toInt64) - (lo.toInt64)) + (1 : Int64))) + (((hi.toInt64) - (lo.toInt64)) + (1 : Int64))) % (((hi.toInt64) - (lo.toInt64)) + (1 : Int64)))).toInt32)), .unset] [(.int (1 : Int32)), (.int (s1 &&& (1 : Int32)))])) := by
      refine S111.trans ?_
      refine XS.istore X101.here hx rfl (hb hby at_245) rfl (l' := #[.val (.int p1), .val (.int off), .val (.ref b), .val (.int s1), .val (.int lo), .val (.int hi), .unset, .unset, .unset, .unset, .unset, .unset]) rfl ?_
      show Steps p.tables e below (T101.setTop (mkF m 247 #[.val (.int p1), .val (.int off), .val (.ref b), .val (.int s1), .val (.int lo), .val (.int hi), .unset, .unset, .unset, .unset, .unset, .unset] [])) _
      refine XS.iload X101.here hx rfl (hb hby at_247) rfl ?_
      show Steps p.tables e below (T101.setTop (mkF m 249 #[.val (.int p1), .val (.int off), .val (.ref b), .val (.int s1), .val (.int lo), .val (.int hi), .unset, .unset, .unset, .unset, .unset, .unset] [(.int hi)])) _
      refine XS.i2l X101.here hx rfl (hb hby at_249) rfl ?_
      show Steps p.tables e below (T101.setTop (mkF m 250 #[.val (.int p1), .val (.int off), .val (.ref b), .val (.int s1), .val (.int lo), .val (.int hi), .unset, .unset, .unset, .unset, .unset, .unset] [(.long (hi.toInt64))])) _
      refine XS.iload X101.here hx rfl (hb hby at_250) rfl ?_
      show Steps p.tables e below (T101.setTop (mkF m 252 #[.val (.int p1), .val (.int off), .val (.ref b), .val (.int s1), .val (.int lo), .val (.int hi), .unset, .unset, .unset, .unset, .unset, .unset] [(.int lo), (.long (hi.toInt64))])) _
      refine XS.i2l X101.here hx rfl (hb hby at_252) rfl ?_
      show Steps p.tables e below (T101.setTop (mkF m 253 #[.val (.int p1), .val (.int off), .val (.ref b), .val (.int s1), .val (.int lo), .val (.int hi), .unset, .unset, .unset, .unset, .unset, .unset] [(.long (lo.toInt64)), (.long (hi.toInt64))])) _
      refine XS.lsub X101.here hx rfl (hb hby at_253) rfl ?_
      show Steps p.tables e below (T101.setTop (mkF m 254 #[.val (.int p1), .val (.int off), .val (.ref b), .val (.int s1), .val (.int lo), .val (.int hi), .unset, .unset, .unset, .unset, .unset, .unset] [(.long ((hi.toInt64) - (lo.toInt64)))])) _
      refine XS.lconst X101.here hx rfl (hb hby at_254) ?_
      show Steps p.tables e below (T101.setTop (mkF m 255 #[.val (.int p1), .val (.int off), .val (.ref b), .val (.int s1), .val (.int lo), .val (.int hi), .unset, .unset, .unset, .unset, .unset, .unset] [(.long (1 : Int64)), (.long ((hi.toInt64) - (lo.toInt64)))])) _
      refine XS.ladd X101.here hx rfl (hb hby at_255) rfl ?_
      show Steps p.tables e below (T101.setTop (mkF m 256 #[.val (.int p1), .val (.int off), .val (.ref b), .val (.int s1), .val (.int lo), .val (.int hi), .unset, .unset, .unset, .unset, .unset, .unset] [(.long (((hi.toInt64) - (lo.toInt64)) + (1 : Int64)))])) _
      refine XS.lstore X101.here hx rfl (hb hby at_256) rfl (l' := #[.val (.int p1), .val (.int off), .val (.ref b), .val (.int s1), .val (.int lo), .val (.int hi), .val (.long (((hi.toInt64) - (lo.toInt64)) + (1 : Int64))), .second, .unset, .unset, .unset, .unset]) rfl ?_
      show Steps p.tables e below (T101.setTop (mkF m 258 #[.val (.int p1), .val (.int off), .val (.ref b), .val (.int s1), .val (.int lo), .val (.int hi), .val (.long (((hi.toInt64) - (lo.toInt64)) + (1 : Int64))), .second, .unset, .unset, .unset, .unset] [])) _
      refine XS.iloadN X101.here hx rfl (hb hby at_258) rfl ?_
      show Steps p.tables e below (T101.setTop (mkF m 259 #[.val (.int p1), .val (.int off), .val (.ref b), .val (.int s1), .val (.int lo), .val (.int hi), .val (.long (((hi.toInt64) - (lo.toInt64)) + (1 : Int64))), .second, .unset, .unset, .unset, .unset] [(.int off)])) _
      refine XS.i2l X101.here hx rfl (hb hby at_259) rfl ?_
      show Steps p.tables e below (T101.setTop (mkF m 260 #[.val (.int p1), .val (.int off), .val (.ref b), .val (.int s1), .val (.int lo), .val (.int hi), .val (.long (((hi.toInt64) - (lo.toInt64)) + (1 : Int64))), .second, .unset, .unset, .unset, .unset] [(.long (off.toInt64))])) _
      refine XS.lload X101.here hx rfl (hb hby at_260) rfl ?_
      show Steps p.tables e below (T101.setTop (mkF m 262 #[.val (.int p1), .val (.int off), .val (.ref b), .val (.int s1), .val (.int lo), .val (.int hi), .val (.long (((hi.toInt64) - (lo.toInt64)) + (1 : Int64))), .second, .unset, .unset, .unset, .unset] [(.long (((hi.toInt64) - (lo.toInt64)) + (1 : Int64))), (.long (off.toInt64))])) _
      refine own_lrem X101 hx rfl (hb hby at_262) rfl hm1 ?_
      show Steps p.tables e below (T101.setTop (mkF m 263 #[.val (.int p1), .val (.int off), .val (.ref b), .val (.int s1), .val (.int lo), .val (.int hi), .val (.long (((hi.toInt64) - (lo.toInt64)) + (1 : Int64))), .second, .unset, .unset, .unset, .unset] [(.long ((off.toInt64) % (((hi.toInt64) - (lo.toInt64)) + (1 : Int64))))])) _
      refine XS.lload X101.here hx rfl (hb hby at_263) rfl ?_
      show Steps p.tables e below (T101.setTop (mkF m 265 #[.val (.int p1), .val (.int off), .val (.ref b), .val (.int s1), .val (.int lo), .val (.int hi), .val (.long (((hi.toInt64) - (lo.toInt64)) + (1 : Int64))), .second, .unset, .unset, .unset, .unset] [(.long (((hi.toInt64) - (lo.toInt64)) + (1 : Int64))), (.long ((off.toInt64) % (((hi.toInt64) - (lo.toInt64)) + (1 : Int64))))])) _
      refine XS.ladd X101.here hx rfl (hb hby at_265) rfl ?_
      show Steps p.tables e below (T101.setTop (mkF m 266 #[.val (.int p1), .val (.int off), .val (.ref b), .val (.int s1), .val (.int lo), .val (.int hi), .val (.long (((hi.toInt64) - (lo.toInt64)) + (1 : Int64))), .second, .unset, .unset, .unset, .unset] [(.long (((off.toInt64) % (((hi.toInt64) - (lo.toInt64)) + (1 : Int64))) + (((hi.toInt64) - (lo.toInt64)) + (1 : Int64))))])) _
      refine XS.lload X101.here hx rfl (hb hby at_266) rfl ?_
      show Steps p.tables e below (T101.setTop (mkF m 268 #[.val (.int p1), .val (.int off), .val (.ref b), .val (.int s1), .val (.int lo), .val (.int hi), .val (.long (((hi.toInt64) - (lo.toInt64)) + (1 : Int64))), .second, .unset, .unset, .unset, .unset] [(.long (((hi.toInt64) - (lo.toInt64)) + (1 : Int64))), (.long (((off.toInt64) % (((hi.toInt64) - (lo.toInt64)) + (1 : Int64))) + (((hi.toInt64) - (lo.toInt64)) + (1 : Int64))))])) _
      refine own_lrem X101 hx rfl (hb hby at_268) rfl hm1 ?_
      show Steps p.tables e below (T101.setTop (mkF m 269 #[.val (.int p1), .val (.int off), .val (.ref b), .val (.int s1), .val (.int lo), .val (.int hi), .val (.long (((hi.toInt64) - (lo.toInt64)) + (1 : Int64))), .second, .unset, .unset, .unset, .unset] [(.long ((((off.toInt64) % (((hi.toInt64) - (lo.toInt64)) + (1 : Int64))) + (((hi.toInt64) - (lo.toInt64)) + (1 : Int64))) % (((hi.toInt64) - (lo.toInt64)) + (1 : Int64))))])) _
      refine XS.lstore X101.here hx rfl (hb hby at_269) rfl (l' := #[.val (.int p1), .val (.int off), .val (.ref b), .val (.int s1), .val (.int lo), .val (.int hi), .val (.long (((hi.toInt64) - (lo.toInt64)) + (1 : Int64))), .second, .val (.long ((((off.toInt64) % (((hi.toInt64) - (lo.toInt64)) + (1 : Int64))) + (((hi.toInt64) - (lo.toInt64)) + (1 : Int64))) % (((hi.toInt64) - (lo.toInt64)) + (1 : Int64)))), .second, .unset, .unset]) rfl ?_
      show Steps p.tables e below (T101.setTop (mkF m 271 #[.val (.int p1), .val (.int off), .val (.ref b), .val (.int s1), .val (.int lo), .val (.int hi), .val (.long (((hi.toInt64) - (lo.toInt64)) + (1 : Int64))), .second, .val (.long ((((off.toInt64) % (((hi.toInt64) - (lo.toInt64)) + (1 : Int64))) + (((hi.toInt64) - (lo.toInt64)) + (1 : Int64))) % (((hi.toInt64) - (lo.toInt64)) + (1 : Int64)))), .second, .unset, .unset] [])) _
      refine XS.iload X101.here hx rfl (hb hby at_271) rfl ?_
      show Steps p.tables e below (T101.setTop (mkF m 273 #[.val (.int p1), .val (.int off), .val (.ref b), .val (.int s1), .val (.int lo), .val (.int hi), .val (.long (((hi.toInt64) - (lo.toInt64)) + (1 : Int64))), .second, .val (.long ((((off.toInt64) % (((hi.toInt64) - (lo.toInt64)) + (1 : Int64))) + (((hi.toInt64) - (lo.toInt64)) + (1 : Int64))) % (((hi.toInt64) - (lo.toInt64)) + (1 : Int64)))), .second, .unset, .unset] [(.int lo)])) _
      refine XS.i2l X101.here hx rfl (hb hby at_273) rfl ?_
      show Steps p.tables e below (T101.setTop (mkF m 274 #[.val (.int p1), .val (.int off), .val (.ref b), .val (.int s1), .val (.int lo), .val (.int hi), .val (.long (((hi.toInt64) - (lo.toInt64)) + (1 : Int64))), .second, .val (.long ((((off.toInt64) % (((hi.toInt64) - (lo.toInt64)) + (1 : Int64))) + (((hi.toInt64) - (lo.toInt64)) + (1 : Int64))) % (((hi.toInt64) - (lo.toInt64)) + (1 : Int64)))), .second, .unset, .unset] [(.long (lo.toInt64))])) _
      refine XS.lload X101.here hx rfl (hb hby at_274) rfl ?_
      show Steps p.tables e below (T101.setTop (mkF m 276 #[.val (.int p1), .val (.int off), .val (.ref b), .val (.int s1), .val (.int lo), .val (.int hi), .val (.long (((hi.toInt64) - (lo.toInt64)) + (1 : Int64))), .second, .val (.long ((((off.toInt64) % (((hi.toInt64) - (lo.toInt64)) + (1 : Int64))) + (((hi.toInt64) - (lo.toInt64)) + (1 : Int64))) % (((hi.toInt64) - (lo.toInt64)) + (1 : Int64)))), .second, .unset, .unset] [(.long ((((off.toInt64) % (((hi.toInt64) - (lo.toInt64)) + (1 : Int64))) + (((hi.toInt64) - (lo.toInt64)) + (1 : Int64))) % (((hi.toInt64) - (lo.toInt64)) + (1 : Int64)))), (.long (lo.toInt64))])) _
      refine XS.ladd X101.here hx rfl (hb hby at_276) rfl ?_
      show Steps p.tables e below (T101.setTop (mkF m 277 #[.val (.int p1), .val (.int off), .val (.ref b), .val (.int s1), .val (.int lo), .val (.int hi), .val (.long (((hi.toInt64) - (lo.toInt64)) + (1 : Int64))), .second, .val (.long ((((off.toInt64) % (((hi.toInt64) - (lo.toInt64)) + (1 : Int64))) + (((hi.toInt64) - (lo.toInt64)) + (1 : Int64))) % (((hi.toInt64) - (lo.toInt64)) + (1 : Int64)))), .second, .unset, .unset] [(.long ((lo.toInt64) + ((((off.toInt64) % (((hi.toInt64) - (lo.toInt64)) + (1 : Int64))) + (((hi.toInt64) - (lo.toInt64)) + (1 : Int64))) % (((hi.toInt64) - (lo.toInt64)) + (1 : Int64)))))])) _
      refine XS.l2i X101.here hx rfl (hb hby at_277) rfl ?_
      show Steps p.tables e below (T101.setTop (mkF m 278 #[.val (.int p1), .val (.int off), .val (.ref b), .val (.int s1), .val (.int lo), .val (.int hi), .val (.long (((hi.toInt64) - (lo.toInt64)) + (1 : Int64))), .second, .val (.long ((((off.toInt64) % (((hi.toInt64) - (lo.toInt64)) + (1 : Int64))) + (((hi.toInt64) - (lo.toInt64)) + (1 : Int64))) % (((hi.toInt64) - (lo.toInt64)) + (1 : Int64)))), .second, .unset, .unset] [(.int (((lo.toInt64) + ((((off.toInt64) % (((hi.toInt64) - (lo.toInt64)) + (1 : Int64))) + (((hi.toInt64) - (lo.toInt64)) + (1 : Int64))) % (((hi.toInt64) - (lo.toInt64)) + (1 : Int64)))).toInt32))])) _
      refine XS.istore X101.here hx rfl (hb hby at_278) rfl (l' := #[.val (.int p1), .val (.int off), .val (.ref b), .val (.int s1), .val (.int lo), .val (.int hi), .val (.long (((hi.toInt64) - (lo.toInt64)) + (1 : Int64))), .second, .val (.long ((((off.toInt64) % (((hi.toInt64) - (lo.toInt64)) + (1 : Int64))) + (((hi.toInt64) - (lo.toInt64)) + (1 : Int64))) % (((hi.toInt64) - (lo.toInt64)) + (1 : Int64)))), .second, .val (.int (((lo.toInt64) + ((((off.toInt64) % (((hi.toInt64) - (lo.toInt64)) + (1 : Int64))) + (((hi.toInt64) - (lo.toInt64)) + (1 : Int64))) % (((hi.toInt64) - (lo.toInt64)) + (1 : Int64)))).toInt32)), .unset]) rfl ?_
      show Steps p.tables e below (T101.setTop (mkF m 280 #[.val (.int p1), .val (.int off), .val (.ref b), .val (.int s1), .val (.int lo), .val (.int hi), .val (.long (((hi.toInt64) - (lo.toInt64)) + (1 : Int64))), .second, .val (.long ((((off.toInt64) % (((hi.toInt64) - (lo.toInt64)) + (1 : Int64))) + (((hi.toInt64) - (lo.toInt64)) + (1 : Int64))) % (((hi.toInt64) - (lo.toInt64)) + (1 : Int64)))), .second, .val (.int (((lo.toInt64) + ((((off.toInt64) % (((hi.toInt64) - (lo.toInt64)) + (1 : Int64))) + (((hi.toInt64) - (lo.toInt64)) + (1 : Int64))) % (((hi.toInt64) - (lo.toInt64)) + (1 : Int64)))).toInt32)), .unset] [])) _
      refine XS.iloadN X101.here hx rfl (hb hby at_280) rfl ?_
      show Steps p.tables e below (T101.setTop (mkF m 281 #[.val (.int p1), .val (.int off), .val (.ref b), .val (.int s1), .val (.int lo), .val (.int hi), .val (.long (((hi.toInt64) - (lo.toInt64)) + (1 : Int64))), .second, .val (.long ((((off.toInt64) % (((hi.toInt64) - (lo.toInt64)) + (1 : Int64))) + (((hi.toInt64) - (lo.toInt64)) + (1 : Int64))) % (((hi.toInt64) - (lo.toInt64)) + (1 : Int64)))), .second, .val (.int (((lo.toInt64) + ((((off.toInt64) % (((hi.toInt64) - (lo.toInt64)) + (1 : Int64))) + (((hi.toInt64) - (lo.toInt64)) + (1 : Int64))) % (((hi.toInt64) - (lo.toInt64)) + (1 : Int64)))).toInt32)), .unset] [(.int s1)])) _
      refine XS.iconst X101.here hx rfl (hb hby at_281) ?_
      show Steps p.tables e below (T101.setTop (mkF m 282 #[.val (.int p1), .val (.int off), .val (.ref b), .val (.int s1), .val (.int lo), .val (.int hi), .val (.long (((hi.toInt64) - (lo.toInt64)) + (1 : Int64))), .second, .val (.long ((((off.toInt64) % (((hi.toInt64) - (lo.toInt64)) + (1 : Int64))) + (((hi.toInt64) - (lo.toInt64)) + (1 : Int64))) % (((hi.toInt64) - (lo.toInt64)) + (1 : Int64)))), .second, .val (.int (((lo.toInt64) + ((((off.toInt64) % (((hi.toInt64) - (lo.toInt64)) + (1 : Int64))) + (((hi.toInt64) - (lo.toInt64)) + (1 : Int64))) % (((hi.toInt64) - (lo.toInt64)) + (1 : Int64)))).toInt32)), .unset] [(.int (1 : Int32)), (.int s1)])) _
      refine XS.iand X101.here hx rfl (hb hby at_282) rfl ?_
      show Steps p.tables e below (T101.setTop (mkF m 283 #[.val (.int p1), .val (.int off), .val (.ref b), .val (.int s1), .val (.int lo), .val (.int hi), .val (.long (((hi.toInt64) - (lo.toInt64)) + (1 : Int64))), .second, .val (.long ((((off.toInt64) % (((hi.toInt64) - (lo.toInt64)) + (1 : Int64))) + (((hi.toInt64) - (lo.toInt64)) + (1 : Int64))) % (((hi.toInt64) - (lo.toInt64)) + (1 : Int64)))), .second, .val (.int (((lo.toInt64) + ((((off.toInt64) % (((hi.toInt64) - (lo.toInt64)) + (1 : Int64))) + (((hi.toInt64) - (lo.toInt64)) + (1 : Int64))) % (((hi.toInt64) - (lo.toInt64)) + (1 : Int64)))).toInt32)), .unset] [(.int (s1 &&& (1 : Int32)))])) _
      refine XS.iconst X101.here hx rfl (hb hby at_283) ?_
      exact Steps.refl _
    obtain ⟨mid, h_mid⟩ : ∃ z : Int32, z = (((lo.toInt64) + ((((off.toInt64) % (((hi.toInt64) - (lo.toInt64)) + (1 : Int64))) + (((hi.toInt64) - (lo.toInt64)) + (1 : Int64))) % (((hi.toInt64) - (lo.toInt64)) + (1 : Int64)))).toInt32) := ⟨_, rfl⟩
    rw [← h_mid] at S128
    rw [← h_mid] at hm3 hm4
    obtain ⟨ex, h_ex, S130⟩ : ∃ (ex : Int32), ex = (if (s1 &&& (1 : Int32)) = (1 : Int32) then (1 : Int32) else (0 : Int32)) ∧ Steps p.tables e below Ω (T101.setTop (mkF m 292 #[.val (.int p1), .val (.int off), .val (.ref b), .val (.int s1), .val (.int lo), .val (.int hi), .val (.long (((hi.toInt64) - (lo.toInt64)) + (1 : Int64))), .second, .val (.long ((((off.toInt64) % (((hi.toInt64) - (lo.toInt64)) + (1 : Int64))) + (((hi.toInt64) - (lo.toInt64)) + (1 : Int64))) % (((hi.toInt64) - (lo.toInt64)) + (1 : Int64)))), .second, .val (.int mid), .unset] [(.int ex)])) := by
      by_cases cz129 : (s1 &&& (1 : Int32)) = (1 : Int32)
      · refine ⟨(1 : Int32), (by rw [if_pos cz129]), S128.trans ?_⟩
        refine XS.icmpNo X101.here hx rfl (hb hby at_284) rfl (XT.ii_ne_f cz129) ?_
        show Steps p.tables e below (T101.setTop (mkF m 287 #[.val (.int p1), .val (.int off), .val (.ref b), .val (.int s1), .val (.int lo), .val (.int hi), .val (.long (((hi.toInt64) - (lo.toInt64)) + (1 : Int64))), .second, .val (.long ((((off.toInt64) % (((hi.toInt64) - (lo.toInt64)) + (1 : Int64))) + (((hi.toInt64) - (lo.toInt64)) + (1 : Int64))) % (((hi.toInt64) - (lo.toInt64)) + (1 : Int64)))), .second, .val (.int mid), .unset] [])) _
        refine XS.iconst X101.here hx rfl (hb hby at_287) ?_
        show Steps p.tables e below (T101.setTop (mkF m 288 #[.val (.int p1), .val (.int off), .val (.ref b), .val (.int s1), .val (.int lo), .val (.int hi), .val (.long (((hi.toInt64) - (lo.toInt64)) + (1 : Int64))), .second, .val (.long ((((off.toInt64) % (((hi.toInt64) - (lo.toInt64)) + (1 : Int64))) + (((hi.toInt64) - (lo.toInt64)) + (1 : Int64))) % (((hi.toInt64) - (lo.toInt64)) + (1 : Int64)))), .second, .val (.int mid), .unset] [(.int (1 : Int32))])) _
        refine XS.goto X101.here hx rfl (pc0 := 288) (pc' := 292) rfl (hb hby at_288) (by decide) (by decide) ?_
        exact Steps.refl _
      · refine ⟨(0 : Int32), (by rw [if_neg cz129]), S128.trans ?_⟩
        refine XS.icmpYes X101.here hx rfl (pc0 := 284) (pc' := 291) rfl (hb hby at_284) rfl (XT.ii_ne_t cz129) (by decide) (by decide) ?_
        show Steps p.tables e below (T101.setTop (mkF m 291 #[.val (.int p1), .val (.int off), .val (.ref b), .val (.int s1), .val (.int lo), .val (.int hi), .val (.long (((hi.toInt64) - (lo.toInt64)) + (1 : Int64))), .second, .val (.long ((((off.toInt64) % (((hi.toInt64) - (lo.toInt64)) + (1 : Int64))) + (((hi.toInt64) - (lo.toInt64)) + (1 : Int64))) % (((hi.toInt64) - (lo.toInt64)) + (1 : Int64)))), .second, .val (.int mid), .unset] [])) _
        refine XS.iconst X101.here hx rfl (hb hby at_291) ?_
        exact Steps.refl _
    have S131 : Steps p.tables e below Ω (T101.setTop (mkF m 296 #[.val (.int p1), .val (.int off), .val (.ref b), .val (.int s1), .val (.int lo), .val (.int hi), .val (.long (((hi.toInt64) - (lo.toInt64)) + (1 : Int64))), .second, .val (.long ((((off.toInt64) % (((hi.toInt64) - (lo.toInt64)) + (1 : Int64))) + (((hi.toInt64) - (lo.toInt64)) + (1 : Int64))) % (((hi.toInt64) - (lo.toInt64)) + (1 : Int64)))), .second, .val (.int mid), .val (.int ex)] [(.int lo)])) := by
      refine S130.trans ?_
      refine XS.istore X101.here hx rfl (hb hby at_292) rfl (l' := #[.val (.int p1), .val (.int off), .val (.ref b), .val (.int s1), .val (.int lo), .val (.int hi), .val (.long (((hi.toInt64) - (lo.toInt64)) + (1 : Int64))), .second, .val (.long ((((off.toInt64) % (((hi.toInt64) - (lo.toInt64)) + (1 : Int64))) + (((hi.toInt64) - (lo.toInt64)) + (1 : Int64))) % (((hi.toInt64) - (lo.toInt64)) + (1 : Int64)))), .second, .val (.int mid), .val (.int ex)]) rfl ?_
      show Steps p.tables e below (T101.setTop (mkF m 294 #[.val (.int p1), .val (.int off), .val (.ref b), .val (.int s1), .val (.int lo), .val (.int hi), .val (.long (((hi.toInt64) - (lo.toInt64)) + (1 : Int64))), .second, .val (.long ((((off.toInt64) % (((hi.toInt64) - (lo.toInt64)) + (1 : Int64))) + (((hi.toInt64) - (lo.toInt64)) + (1 : Int64))) % (((hi.toInt64) - (lo.toInt64)) + (1 : Int64)))), .second, .val (.int mid), .val (.int ex)] [])) _
      refine XS.iload X101.here hx rfl (hb hby at_294) rfl ?_
      exact Steps.refl _
    have hex : ex = own_par s1 := h_ex
    obtain ⟨v132, T132, L132, X132, hQ132, st132⟩ := own_callS X101 hx (y := (⟨"com/example/distill_trees/distilltrees/io/XmlChars", "isNameStartChar", "(I)Z"⟩ : MethodName)) hown (mvT hZ (hw _ (List.mem_of_getElem? (i := 10) rfl))) (mvT hZ (hw _ (List.mem_of_getElem? (i := 11) rfl))) (mvT hZ (hw _ (List.mem_of_getElem? (i := 12) rfl))) (mvT hZ (hw _ (List.mem_of_getElem? (i := 13) rfl))) (by decide) (backOf (W := 0) (rm1 l Z a0 hw [] lo  h101 n0 (Nat.le_trans (Nat.le_trans (Nat.le_trans (Nat.le_trans (Nat.le_trans (Nat.le_trans (Nat.le_trans (Nat.le_trans (Nat.le_trans (Nat.le_trans (Nat.le_trans (Nat.le_trans (Nat.le_trans (Nat.le_trans (Nat.le_trans (Nat.le_trans (Nat.le_trans (Nat.le_trans (Nat.le_trans (Nat.le_trans (Nat.le_trans (Nat.le_trans (Nat.le_trans (Nat.le_trans (Nat.le_trans (Nat.le_trans (Nat.le_trans (Nat.le_trans (Nat.le_trans (Nat.le_trans (Nat.le_trans (Nat.le_trans (Nat.le_trans (Nat.le_trans Z0 E2.1) (Keep.of_wr W5).1) (Keep.of_wr W8).1) (Keep.of_wr W11).1) (Keep.of_wr W14).1) (Keep.of_wr W17).1) (Keep.of_wr W20).1) (Keep.of_wr W23).1) (Keep.of_wr W26).1) (Keep.of_wr W29).1) (Keep.of_wr W32).1) (Keep.of_wr W35).1) (Keep.of_wr W38).1) (Keep.of_wr W41).1) (Keep.of_wr W44).1) (Keep.of_wr W47).1) (Keep.of_wr W50).1) (Keep.of_wr W53).1) (Keep.of_wr W56).1) (Keep.of_wr W59).1) (Keep.of_wr W62).1) (Keep.of_wr W65).1) (Keep.of_wr W68).1) (Keep.of_wr W71).1) (Keep.of_wr W74).1) (Keep.of_wr W77).1) (Keep.of_wr W80).1) (Keep.of_wr W83).1) (Keep.of_wr W86).1) (Keep.of_wr W89).1) (Keep.of_wr W92).1) (Keep.of_wr W95).1) (Keep.of_wr W98).1) (Keep.of_wr W101).1) ) hZ (hw _ (List.mem_of_getElem? (i := 13) rfl)) (hw _ (List.mem_of_getElem? (i := 12) rfl)) (by decide) (by decide)) (g := (mkF m 296 #[.val (.int p1), .val (.int off), .val (.ref b), .val (.int s1), .val (.int lo), .val (.int hi), .val (.long (((hi.toInt64) - (lo.toInt64)) + (1 : Int64))), .second, .val (.long ((((off.toInt64) % (((hi.toInt64) - (lo.toInt64)) + (1 : Int64))) + (((hi.toInt64) - (lo.toInt64)) + (1 : Int64))) % (((hi.toInt64) - (lo.toInt64)) + (1 : Int64)))), .second, .val (.int mid), .val (.int ex)] [(.int lo)])) rfl (by rw [hml]; rfl) (argsL := [(.int lo)]) (rest := []) (lenOf pd_0 rfl) rfl (by show 2 * 0 + _ ≤ _; exact Nat.le_of_eq rfl) (hb hby at_296) ⟨rfl, e101, (by decide : 1 + 0 ≤ _), (by decide : 33 + 0 ≤ _)⟩
    obtain ⟨hv132, N132q, e132⟩ := hQ132
    rw [hv132] at st132
    have N132 := Fr.app N101 N132q
    have S133 : Steps p.tables e below Ω (T132.setTop (mkF m 299 #[.val (.int p1), .val (.int off), .val (.ref b), .val (.int s1), .val (.int lo), .val (.int hi), .val (.long (((hi.toInt64) - (lo.toInt64)) + (1 : Int64))), .second, .val (.long ((((off.toInt64) % (((hi.toInt64) - (lo.toInt64)) + (1 : Int64))) + (((hi.toInt64) - (lo.toInt64)) + (1 : Int64))) % (((hi.toInt64) - (lo.toInt64)) + (1 : Int64)))), .second, .val (.int mid), .val (.int ex)] [(.int (own_ns lo))])) := S131.trans st132
    have S134 : Steps p.tables e below Ω (T132.setTop (mkF m 301 #[.val (.int p1), .val (.int off), .val (.ref b), .val (.int s1), .val (.int lo), .val (.int hi), .val (.long (((hi.toInt64) - (lo.toInt64)) + (1 : Int64))), .second, .val (.long ((((off.toInt64) % (((hi.toInt64) - (lo.toInt64)) + (1 : Int64))) + (((hi.toInt64) - (lo.toInt64)) + (1 : Int64))) % (((hi.toInt64) - (lo.toInt64)) + (1 : Int64)))), .second, .val (.int mid), .val (.int ex)] [(.int ex), (.int (own_ns lo))])) := by
      refine S133.trans ?_
      refine XS.iload X132.here hx rfl (hb hby at_299) rfl ?_
      exact Steps.refl _
    have S135 : Steps p.tables e below Ω (T132.setTop (mkF m 306 #[.val (.int p1), .val (.int off), .val (.ref b), .val (.int s1), .val (.int lo), .val (.int hi), .val (.long (((hi.toInt64) - (lo.toInt64)) + (1 : Int64))), .second, .val (.long ((((off.toInt64) % (((hi.toInt64) - (lo.toInt64)) + (1 : Int64))) + (((hi.toInt64) - (lo.toInt64)) + (1 : Int64))) % (((hi.toInt64) - (lo.toInt64)) + (1 : Int64)))), .second, .val (.int mid), .val (.int ex)] [(.int hi)])) := by
      refine S134.trans ?_
      refine XS.icmpNo X132.here hx rfl (hb hby at_301) rfl (XT.ii_ne_f ((hall lo (Int.le_refl _) hle).trans hex.symm)) ?_
      show Steps p.tables e below (T132.setTop (mkF m 304 #[.val (.int p1), .val (.int off), .val (.ref b), .val (.int s1), .val (.int lo), .val (.int hi), .val (.long (((hi.toInt64) - (lo.toInt64)) + (1 : Int64))), .second, .val (.long ((((off.toInt64) % (((hi.toInt64) - (lo.toInt64)) + (1 : Int64))) + (((hi.toInt64) - (lo.toInt64)) + (1 : Int64))) % (((hi.toInt64) - (lo.toInt64)) + (1 : Int64)))), .second, .val (.int mid), .val (.int ex)] [])) _
      refine XS.iload X132.here hx rfl (hb hby at_304) rfl ?_
      exact Steps.refl _
    obtain ⟨v136, T136, L136, X136, hQ136, st136⟩ := own_callS X132 hx (y := (⟨"com/example/distill_trees/distilltrees/io/XmlChars", "isNameStartChar", "(I)Z"⟩ : MethodName)) hown (mvT hZ (hw _ (List.mem_of_getElem? (i := 10) rfl))) (mvT hZ (hw _ (List.mem_of_getElem? (i := 11) rfl))) (mvT hZ (hw _ (List.mem_of_getElem? (i := 12) rfl))) (mvT hZ (hw _ (List.mem_of_getElem? (i := 13) rfl))) (by decide) (backOf (W := 0) (rm1 l Z a0 hw [] hi  h101 n0 (Nat.le_trans (Nat.le_trans (Nat.le_trans (Nat.le_trans (Nat.le_trans (Nat.le_trans (Nat.le_trans (Nat.le_trans (Nat.le_trans (Nat.le_trans (Nat.le_trans (Nat.le_trans (Nat.le_trans (Nat.le_trans (Nat.le_trans (Nat.le_trans (Nat.le_trans (Nat.le_trans (Nat.le_trans (Nat.le_trans (Nat.le_trans (Nat.le_trans (Nat.le_trans (Nat.le_trans (Nat.le_trans (Nat.le_trans (Nat.le_trans (Nat.le_trans (Nat.le_trans (Nat.le_trans (Nat.le_trans (Nat.le_trans (Nat.le_trans (Nat.le_trans Z0 E2.1) (Keep.of_wr W5).1) (Keep.of_wr W8).1) (Keep.of_wr W11).1) (Keep.of_wr W14).1) (Keep.of_wr W17).1) (Keep.of_wr W20).1) (Keep.of_wr W23).1) (Keep.of_wr W26).1) (Keep.of_wr W29).1) (Keep.of_wr W32).1) (Keep.of_wr W35).1) (Keep.of_wr W38).1) (Keep.of_wr W41).1) (Keep.of_wr W44).1) (Keep.of_wr W47).1) (Keep.of_wr W50).1) (Keep.of_wr W53).1) (Keep.of_wr W56).1) (Keep.of_wr W59).1) (Keep.of_wr W62).1) (Keep.of_wr W65).1) (Keep.of_wr W68).1) (Keep.of_wr W71).1) (Keep.of_wr W74).1) (Keep.of_wr W77).1) (Keep.of_wr W80).1) (Keep.of_wr W83).1) (Keep.of_wr W86).1) (Keep.of_wr W89).1) (Keep.of_wr W92).1) (Keep.of_wr W95).1) (Keep.of_wr W98).1) (Keep.of_wr W101).1) ) hZ (hw _ (List.mem_of_getElem? (i := 13) rfl)) (hw _ (List.mem_of_getElem? (i := 12) rfl)) (by decide) (by decide)) (g := (mkF m 306 #[.val (.int p1), .val (.int off), .val (.ref b), .val (.int s1), .val (.int lo), .val (.int hi), .val (.long (((hi.toInt64) - (lo.toInt64)) + (1 : Int64))), .second, .val (.long ((((off.toInt64) % (((hi.toInt64) - (lo.toInt64)) + (1 : Int64))) + (((hi.toInt64) - (lo.toInt64)) + (1 : Int64))) % (((hi.toInt64) - (lo.toInt64)) + (1 : Int64)))), .second, .val (.int mid), .val (.int ex)] [(.int hi)])) rfl (by rw [hml]; rfl) (argsL := [(.int hi)]) (rest := []) (lenOf pd_0 rfl) rfl (by show 2 * 0 + _ ≤ _; exact Nat.le_of_eq rfl) (hb hby at_306) ⟨rfl, e132, (by decide : 1 + 0 ≤ _), (by decide : 33 + 0 ≤ _)⟩
    obtain ⟨hv136, N136q, e136⟩ := hQ136
    rw [hv136] at st136
    have N136 := Fr.app N132 N136q
    have S137 : Steps p.tables e below Ω (T136.setTop (mkF m 309 #[.val (.int p1), .val (.int off), .val (.ref b), .val (.int s1), .val (.int lo), .val (.int hi), .val (.long (((hi.toInt64) - (lo.toInt64)) + (1 : Int64))), .second, .val (.long ((((off.toInt64) % (((hi.toInt64) - (lo.toInt64)) + (1 : Int64))) + (((hi.toInt64) - (lo.toInt64)) + (1 : Int64))) % (((hi.toInt64) - (lo.toInt64)) + (1 : Int64)))), .second, .val (.int mid), .val (.int ex)] [(.int (own_ns hi))])) := S135.trans st136
    have S138 : Steps p.tables e below Ω (T136.setTop (mkF m 311 #[.val (.int p1), .val (.int off), .val (.ref b), .val (.int s1), .val (.int lo), .val (.int hi), .val (.long (((hi.toInt64) - (lo.toInt64)) + (1 : Int64))), .second, .val (.long ((((off.toInt64) % (((hi.toInt64) - (lo.toInt64)) + (1 : Int64))) + (((hi.toInt64) - (lo.toInt64)) + (1 : Int64))) % (((hi.toInt64) - (lo.toInt64)) + (1 : Int64)))), .second, .val (.int mid), .val (.int ex)] [(.int ex), (.int (own_ns hi))])) := by
      refine S137.trans ?_
      refine XS.iload X136.here hx rfl (hb hby at_309) rfl ?_
      exact Steps.refl _
    have S139 : Steps p.tables e below Ω (T136.setTop (mkF m 316 #[.val (.int p1), .val (.int off), .val (.ref b), .val (.int s1), .val (.int lo), .val (.int hi), .val (.long (((hi.toInt64) - (lo.toInt64)) + (1 : Int64))), .second, .val (.long ((((off.toInt64) % (((hi.toInt64) - (lo.toInt64)) + (1 : Int64))) + (((hi.toInt64) - (lo.toInt64)) + (1 : Int64))) % (((hi.toInt64) - (lo.toInt64)) + (1 : Int64)))), .second, .val (.int mid), .val (.int ex)] [(.int mid)])) := by
      refine S138.trans ?_
      refine XS.icmpNo X136.here hx rfl (hb hby at_311) rfl (XT.ii_ne_f ((hall hi hle (Int.le_refl _)).trans hex.symm)) ?_
      show Steps p.tables e below (T136.setTop (mkF m 314 #[.val (.int p1), .val (.int off), .val (.ref b), .val (.int s1), .val (.int lo), .val (.int hi), .val (.long (((hi.toInt64) - (lo.toInt64)) + (1 : Int64))), .second, .val (.long ((((off.toInt64) % (((hi.toInt64) - (lo.toInt64)) + (1 : Int64))) + (((hi.toInt64) - (lo.toInt64)) + (1 : Int64))) % (((hi.toInt64) - (lo.toInt64)) + (1 : Int64)))), .second, .val (.int mid), .val (.int ex)] [])) _
      refine XS.iload X136.here hx rfl (hb hby at_314) rfl ?_
      exact Steps.refl _
    obtain ⟨v140, T140, L140, X140, hQ140, st140⟩ := own_callS X136 hx (y := (⟨"com/example/distill_trees/distilltrees/io/XmlChars", "isNameStartChar", "(I)Z"⟩ : MethodName)) hown (mvT hZ (hw _ (List.mem_of_getElem? (i := 10) rfl))) (mvT hZ (hw _ (List.mem_of_getElem? (i := 11) rfl))) (mvT hZ (hw _ (List.mem_of_getElem? (i := 12) rfl))) (mvT hZ (hw _ (List.mem_of_getElem? (i := 13) rfl))) (by decide) (backOf (W := 0) (rm1 l Z a0 hw [] mid  h101 n0 (Nat.le_trans (Nat.le_trans (Nat.le_trans (Nat.le_trans (Nat.le_trans (Nat.le_trans (Nat.le_trans (Nat.le_trans (Nat.le_trans (Nat.le_trans (Nat.le_trans (Nat.le_trans (Nat.le_trans (Nat.le_trans (Nat.le_trans (Nat.le_trans (Nat.le_trans (Nat.le_trans (Nat.le_trans (Nat.le_trans (Nat.le_trans (Nat.le_trans (Nat.le_trans (Nat.le_trans (Nat.le_trans (Nat.le_trans (Nat.le_trans (Nat.le_trans (Nat.le_trans (Nat.le_trans (Nat.le_trans (Nat.le_trans (Nat.le_trans (Nat.le_trans Z0 E2.1) (Keep.of_wr W5).1) (Keep.of_wr W8).1) (Keep.of_wr W11).1) (Keep.of_wr W14).1) (Keep.of_wr W17).1) (Keep.of_wr W20).1) (Keep.of_wr W23).1) (Keep.of_wr W26).1) (Keep.of_wr W29).1) (Keep.of_wr W32).1) (Keep.of_wr W35).1) (Keep.of_wr W38).1) (Keep.of_wr W41).1) (Keep.of_wr W44).1) (Keep.of_wr W47).1) (Keep.of_wr W50).1) (Keep.of_wr W53).1) (Keep.of_wr W56).1) (Keep.of_wr W59).1) (Keep.of_wr W62).1) (Keep.of_wr W65).1) (Keep.of_wr W68).1) (Keep.of_wr W71).1) (Keep.of_wr W74).1) (Keep.of_wr W77).1) (Keep.of_wr W80).1) (Keep.of_wr W83).1) (Keep.of_wr W86).1) (Keep.of_wr W89).1) (Keep.of_wr W92).1) (Keep.of_wr W95).1) (Keep.of_wr W98).1) (Keep.of_wr W101).1) ) hZ (hw _ (List.mem_of_getElem? (i := 13) rfl)) (hw _ (List.mem_of_getElem? (i := 12) rfl)) (by decide) (by decide)) (g := (mkF m 316 #[.val (.int p1), .val (.int off), .val (.ref b), .val (.int s1), .val (.int lo), .val (.int hi), .val (.long (((hi.toInt64) - (lo.toInt64)) + (1 : Int64))), .second, .val (.long ((((off.toInt64) % (((hi.toInt64) - (lo.toInt64)) + (1 : Int64))) + (((hi.toInt64) - (lo.toInt64)) + (1 : Int64))) % (((hi.toInt64) - (lo.toInt64)) + (1 : Int64)))), .second, .val (.int mid), .val (.int ex)] [(.int mid)])) rfl (by rw [hml]; rfl) (argsL := [(.int mid)]) (rest := []) (lenOf pd_0 rfl) rfl (by show 2 * 0 + _ ≤ _; exact Nat.le_of_eq rfl) (hb hby at_316) ⟨rfl, e136, (by decide : 1 + 0 ≤ _), (by decide : 33 + 0 ≤ _)⟩
    obtain ⟨hv140, N140q, e140⟩ := hQ140
    rw [hv140] at st140
    have N140 := Fr.app N136 N140q
    have S141 : Steps p.tables e below Ω (T140.setTop (mkF m 319 #[.val (.int p1), .val (.int off), .val (.ref b), .val (.int s1), .val (.int lo), .val (.int hi), .val (.long (((hi.toInt64) - (lo.toInt64)) + (1 : Int64))), .second, .val (.long ((((off.toInt64) % (((hi.toInt64) - (lo.toInt64)) + (1 : Int64))) + (((hi.toInt64) - (lo.toInt64)) + (1 : Int64))) % (((hi.toInt64) - (lo.toInt64)) + (1 : Int64)))), .second, .val (.int mid), .val (.int ex)] [(.int (own_ns mid))])) := S139.trans st140
    have S142 : Steps p.tables e below Ω (T140.setTop (mkF m 321 #[.val (.int p1), .val (.int off), .val (.ref b), .val (.int s1), .val (.int lo), .val (.int hi), .val (.long (((hi.toInt64) - (lo.toInt64)) + (1 : Int64))), .second, .val (.long ((((off.toInt64) % (((hi.toInt64) - (lo.toInt64)) + (1 : Int64))) + (((hi.toInt64) - (lo.toInt64)) + (1 : Int64))) % (((hi.toInt64) - (lo.toInt64)) + (1 : Int64)))), .second, .val (.int mid), .val (.int ex)] [(.int ex), (.int (own_ns mid))])) := by
      refine S141.trans ?_
      refine XS.iload X140.here hx rfl (hb hby at_319) rfl ?_
      exact Steps.refl _
    have S143 : Steps p.tables e below Ω (T140.setTop (mkF m 329 #[.val (.int p1), .val (.int off), .val (.ref b), .val (.int s1), .val (.int lo), .val (.int hi), .val (.long (((hi.toInt64) - (lo.toInt64)) + (1 : Int64))), .second, .val (.long ((((off.toInt64) % (((hi.toInt64) - (lo.toInt64)) + (1 : Int64))) + (((hi.toInt64) - (lo.toInt64)) + (1 : Int64))) % (((hi.toInt64) - (lo.toInt64)) + (1 : Int64)))), .second, .val (.int mid), .val (.int ex)] [(.int (1 : Int32))])) := by
      refine S142.trans ?_
      refine XS.icmpNo X140.here hx rfl (hb hby at_321) rfl (XT.ii_ne_f ((hall mid hm3 hm4).trans hex.symm)) ?_
      show Steps p.tables e below (T140.setTop (mkF m 324 #[.val (.int p1), .val (.int off), .val (.ref b), .val (.int s1), .val (.int lo), .val (.int hi), .val (.long (((hi.toInt64) - (lo.toInt64)) + (1 : Int64))), .second, .val (.long ((((off.toInt64) % (((hi.toInt64) - (lo.toInt64)) + (1 : Int64))) + (((hi.toInt64) - (lo.toInt64)) + (1 : Int64))) % (((hi.toInt64) - (lo.toInt64)) + (1 : Int64)))), .second, .val (.int mid), .val (.int ex)] [])) _
      refine XS.iconst X140.here hx rfl (hb hby at_324) ?_
      show Steps p.tables e below (T140.setTop (mkF m 325 #[.val (.int p1), .val (.int off), .val (.ref b), .val (.int s1), .val (.int lo), .val (.int hi), .val (.long (((hi.toInt64) - (lo.toInt64)) + (1 : Int64))), .second, .val (.long ((((off.toInt64) % (((hi.toInt64) - (lo.toInt64)) + (1 : Int64))) + (((hi.toInt64) - (lo.toInt64)) + (1 : Int64))) % (((hi.toInt64) - (lo.toInt64)) + (1 : Int64)))), .second, .val (.int mid), .val (.int ex)] [(.int (1 : Int32))])) _
      refine XS.goto X140.here hx rfl (pc0 := 325) (pc' := 329) rfl (hb hby at_325) (by decide) (by decide) ?_
      exact Steps.refl _
    obtain ⟨fs, hr, hrun, hended, hW, hsame⟩ := X140.leave (v := some (.int (1 : Int32))) (fun h => by rw [Bd.returns] at h; cases h)
    have hfin : Steps p.tables e below Ω (T140.setFrames fs) := by
      refine S143.trans ?_
      exact own_retZ X140 hx Bd.returns (by decide) (hb hby at_329) hr
    rw [hΩ] at hfin
    refine ⟨_, _, hfin, hrun, hended, _, _, rfl, ?_, ⟨_, rfl⟩, hW, hsame.mono (by decide) (by decide)⟩
    show Q0 Z p1 off h0 n0 _ T140.heap _
    rw [e140]
    exact ⟨rfl, N140⟩
set_option maxRecDepth 65536 in
set_option maxHeartbeats 40000000 in
theorem comes_1 {Post : Tables → Env → Array Value → State → Outcome → State → Prop} (hpost : ∀ tb e args s v u, (limb_1_1.after args s (.returned v) u = true ∧ limb_1_2.after args s (.returned v) u = true ∧ True) → FrameEnd s (.returned v) u (Jvm.fieldLocs frame_1_writes args s ++ Jvm.arrayLocs frame_1_arrays args s ++ Jvm.staticLocs frame_1_statics s) 16 192 → Post tb e args s (.returned v) u) :
    ArmFor flags0 classFile x code maxLocals ret World_1 tables_1 room_1 Calls_1 rest_1 Pre_1 Post := by
  intro l hfl _ _ p e ha hc hk s m args below hf hA hF happ hP
  obtain ⟨hcalls, hrest, hpre⟩ := hP
  obtain ⟨-, -, -, hnamed, -, -, -, hat⟩ := (Spec.applies_iff hf).mp happ
  obtain ⟨hg, hn⟩ := and_e (Cond.before_iff.mp (show (Jvm.Cond.and given_1 narrow_1).before args s = true from hpre))
  obtain ⟨gc, g0⟩ := and_e hg
  obtain ⟨k0, g1⟩ := and_e g0
  obtain ⟨w0, w1, rfl⟩ : ∃ w0 w1 : Value, args = #[w0, w1] := by
    have hs : args.size = 2 := by simpa [Cond.value, given_1] using gc
    obtain ⟨L⟩ := args
    match L, hs with
    | [w0, w1], _ => exact ⟨w0, w1, rfl⟩
  have hw := fun d (hd : d ∈ tables_1) => atoms_spec (ws := Jvm.Cond.code x code maxLocals ret :: tables_1) hat d (List.mem_cons_of_mem _ hd)
  have hfit : Fit s := fun {y c} hc i hi => by
    obtain ⟨ha, rfl⟩ := Array.getElem?_eq_some_iff.mp hc
    have q := List.all_eq_true.mp ((Array.all_eq_true_iff_forall_mem.mp hF) _ (Array.getElem_mem ha)) i (List.mem_range.mpr hi)
    simpa [Array.getElem?_eq_getElem hi] using q
  obtain ⟨i0, ei0⟩ := is_v k0
  obtain rfl : w0 = (.int i0) := Option.some.inj ei0
  obtain ⟨i1, ei1⟩ := is_v g1
  obtain rfl : w1 = (.int i1) := Option.some.inj ei1
  obtain ⟨n, o, h1, h2, h3, _, L, rfl, ⟨rfl, N⟩, hq⟩ := rm0 l s _ hw tables_1 i0 i1  s.heap s.heap.size (Nat.le_refl _)  p e ha hc hk s m _ below hf ((Spec.applies_iff_loose hf).mp happ).1 ⟨rfl, State.Warmed39.refl s, rfl⟩ trivial
  refine ⟨n, _, h1, h2, h3, hpost _ _ _ _ _ _ ⟨Cond.after_iff.mpr rfl, Cond.after_iff.mpr (eq_i res_at (Term.int_eval (1)) rfl), trivial⟩ ⟨hq.1, hq.2.1, (hq.2.2.sift fun y hy => Or.inr (N y hy)).mono (by decide) (by decide)⟩⟩
theorem main_1_1 : Claimed_1_1 := comes_1 fun _ _ _ _ _ _ h hF => ⟨h.1, hF⟩
theorem main_1_2 : Claimed_1_2 := comes_1 fun _ _ _ _ _ _ h hF => ⟨h.2.1, hF⟩
end Jvm.Pilot.@@N@@
namespace Jvm.Pilot.@@N@@
open Jvm Jvm.ClassFile Sem Op Lib Jvm.Free Jvm.Stand Jvm.Pilot.@@N@@.Jvm.D
/-! MADE BY PROGRAM (witnessworld.py) out of the Statement's table words and the real class files: 9 classes; the members and pool entries that the words name. The judged class is class 1, her method 1. -/
namespace start1
open Jvm.ClassFile
def u (s : String) : CpInfo := .utf8 (stringToUtf16 s)
/-- a pool by its gaps: so many unusable entries, then the entry; so many at the end -/
def gap : Nat → List CpInfo → List CpInfo
  | 0, r => r
  | n + 1, r => .unusable :: gap n r
def poolList (es : List (Nat × CpInfo)) (last : Nat) : List CpInfo := es.foldr (fun e r => gap e.1 (e.2 :: r)) (gap last [])
def pool (es : List (Nat × CpInfo)) (last : Nat) : Array CpInfo := ⟨poolList es last⟩
def fileOf (pool : Array CpInfo) (this : Nat) (attrs : Array Attribute := #[]) (ms : Array MethodInfo := #[]) (fl : Nat := 33) (sup : Nat := 0) (ifs : Array Nat := #[]) (fds : Array FieldInfo := #[]) : ClassFile where
  minorVersion := 0
  majorVersion := 65
  constantPool := pool
  accessFlags := fl
  thisClass := this
  superClass := sup
  interfaces := ifs
  fields := fds
  methods := ms
  attributes := attrs
def plain (name : String) (sup : Option ClassId) : Class where
  name := name
  kind := .ordinary
  loader := none
  accessFlags := 33
  super := sup
  interfaces := #[]
  cf := none
  fields := #[]
  methods := #[]
  instanceTypes := #[]
  staticTypes := #[]
  resolved := #[]
  callSites := []
  init := .initialized
  statics := none
  mirror := none

def pool0 : Array CpInfo := pool [(5, u "<init>"), (0, u "()V"), (1, .class_ 10), (1, u "java/lang/Object")] 113

def k0m0 : Method := { name := "<init>", desc := "()V", sig := { parameters := [], returnType := none }, accessFlags := 1, code := none }
/-- java/lang/Object -/
def k0 : Class := { plain "java/lang/Object" none with
  accessFlags := 33
  interfaces := #[]
  cf := some (fileOf pool0 8 #[] #[{ accessFlags := 1, nameIndex := 5, descriptorIndex := 6, attributes := #[] }] 33 0 #[] #[])
  fields := #[]
  methods := #[k0m0]
  instanceTypes := #[]
  staticTypes := #[]
  resolved := Array.replicate 124 none
  statics := none }

def pool1 : Array CpInfo := pool [(2, .class_ 4), (1, u "java/lang/Object"), (0, u "<init>"), (0, u "()V"), (2, .integer 2147483648), (0, .integer 55296), (0, .integer 63744), (0, .integer 64976), (0, .integer 65008), (0, .integer 65534), (0, .integer 65536), (0, .integer 983040), (0, .integer 2147483647), (0, .methodref 19 20), (0, .class_ 21), (0, .nameAndType 22 23), (0, u "com/example/distill_trees/distilltrees/io/XmlChars"), (0, u "isNameStartChar"), (0, u "(I)Z"), (0, .class_ 25), (0, u "com/example/distill_trees/distilltrees/io/XmlCharsIsNameStartCharPinLaw"), (2, u "law"), (0, u "(II)Z")] 5

def k1m0 : Method := { name := "<init>", desc := "()V", sig := { parameters := [], returnType := none }, accessFlags := 2, code := none }
def k1c1 : Code := { maxStack := 4, maxLocals := 12, code := code, exceptionTable := #[], attributes := #[] }
def k1m1 : Method := { name := "law", desc := "(II)Z", sig := { parameters := [.int, .int], returnType := some .boolean }, accessFlags := 9, code := some k1c1 }
/-- com/example/distill_trees/distilltrees/io/XmlCharsIsNameStartCharPinLaw -/
def k1 : Class := { plain "com/example/distill_trees/distilltrees/io/XmlCharsIsNameStartCharPinLaw" (some 0) with
  accessFlags := 49
  interfaces := #[]
  cf := some (fileOf pool1 24 #[] #[{ accessFlags := 2, nameIndex := 5, descriptorIndex := 6, attributes := #[] }, { accessFlags := 9, nameIndex := 28, descriptorIndex := 29, attributes := #[] }] 49 2 #[] #[])
  fields := #[]
  methods := #[k1m0, k1m1]
  instanceTypes := #[]
  staticTypes := #[]
  resolved := Array.replicate 35 none
  statics := none }

def pool2 : Array CpInfo := pool [(2, .class_ 4), (1, u "java/lang/Object"), (0, u "<init>"), (0, u "()V"), (0, .integer 55295), (1, .integer 65533), (0, .integer 65536), (1, .integer 63744), (0, .integer 64975), (0, .integer 65008), (0, .integer 983039), (1, .class_ 19), (1, u "com/example/distill_trees/distilltrees/io/XmlChars"), (0, u "isNameStartChar"), (0, u "(I)Z")] 53

def k2m0 : Method := { name := "<init>", desc := "()V", sig := { parameters := [], returnType := none }, accessFlags := 2, code := none }
def k2c1 : Code := { maxStack := 2, maxLocals := 1, code := prog_82_method_3_code, exceptionTable := #[], attributes := #[] }
def k2m1 : Method := { name := "isNameStartChar", desc := "(I)Z", sig := { parameters := [.int], returnType := some .boolean }, accessFlags := 9, code := some k2c1 }
/-- com/example/distill_trees/distilltrees/io/XmlChars -/
def k2 : Class := { plain "com/example/distill_trees/distilltrees/io/XmlChars" (some 0) with
  accessFlags := 49
  interfaces := #[]
  cf := some (fileOf pool2 17 #[] #[{ accessFlags := 2, nameIndex := 5, descriptorIndex := 6, attributes := #[] }, { accessFlags := 9, nameIndex := 20, descriptorIndex := 21, attributes := #[] }] 49 2 #[] #[])
  fields := #[]
  methods := #[k2m0, k2m1]
  instanceTypes := #[]
  staticTypes := #[]
  resolved := Array.replicate 75 none
  statics := none }

def pool3 : Array CpInfo := pool [(1, u "java/lang/Cloneable"), (0, .class_ 1), (0, u "java/lang/Object"), (0, .class_ 3)] 3

/-- java/lang/Cloneable -/
def k3 : Class := { plain "java/lang/Cloneable" (some 0) with
  accessFlags := 1537
  interfaces := #[]
  cf := some (fileOf pool3 2 #[] #[] 1537 4 #[] #[])
  fields := #[]
  methods := #[]
  instanceTypes := #[]
  staticTypes := #[]
  resolved := Array.replicate 8 none
  statics := none }

def pool4 : Array CpInfo := pool [(1, u "java/io/Serializable"), (0, .class_ 1), (0, u "java/lang/Object"), (0, .class_ 3)] 3

/-- java/io/Serializable -/
def k4 : Class := { plain "java/io/Serializable" (some 0) with
  accessFlags := 1537
  interfaces := #[]
  cf := some (fileOf pool4 2 #[] #[] 1537 4 #[] #[])
  fields := #[]
  methods := #[]
  instanceTypes := #[]
  staticTypes := #[]
  resolved := Array.replicate 8 none
  statics := none }

/-- the primitive byte -/
def k5 : Class := { plain "byte" none with kind := .primitive 'B', accessFlags := 0x411 }
/-- [B -/
def k6 : Class := { plain "[B" (some 0) with kind := .array 5 .byte, interfaces := #[3, 4], accessFlags := 1041 }

/-- the primitive int -/
def k7 : Class := { plain "int" none with kind := .primitive 'I', accessFlags := 0x411 }
/-- [I -/
def k8 : Class := { plain "[I" (some 0) with kind := .array 7 .int, interfaces := #[3, 4], accessFlags := 1041 }

def heap : Heap := #[]
def classes : Array Class := #[k0, k1, k2, k3, k4, k5, k6, k7, k8]
def interned : List (Array UInt16 × Addr) := []
def slotsUsed : Nat := 0
def theMethod : MethodId := ⟨1, 1⟩
def args0 : Array Value := #[.int 5, .int 300]
def aboutOver (below : List Frame) : State where
  vm := { classes := classes, interned := interned.toArray }
  heap := heap
  slotsUsed := slotsUsed
  threads := #[{ frames := .invoking theMethod args0 :: below }]
def below0 : List Frame := [.native { method := ⟨0, 0⟩, args := #[] }]
def about1 : State := aboutOver below0
def p0 : Program := .bare "" "" ""
def e0 : Env := launch0.env 0 0 0
theorem w_frames : about1.frames = Frame.invoking theMethod args0 :: below0 := rfl
set_option maxRecDepth 65536 in
theorem w_args : argsFit about1.vm theMethod args0 = true := by decide +kernel
set_option maxRecDepth 65536 in
theorem w_heap : heapFits about1 = true := by decide +kernel
set_option maxRecDepth 65536 in
theorem w_runnable : about1.curStatus? = some .runnable := by decide +kernel
set_option maxRecDepth 65536 in
theorem w_alone : about1.alone = true := by decide +kernel
set_option maxRecDepth 65536 in
theorem w_named : about1.methodNamed? x = some theMethod := by decide +kernel
set_option maxRecDepth 65536 in
theorem w_hears : about1.hears theMethod below0 = true := by decide +kernel
set_option maxRecDepth 65536 in
theorem w_ripe : about1.ripe theMethod args0 below0 = true := by decide +kernel
theorem w_running : about1.status = .running := rfl
set_option maxRecDepth 65536 in
theorem w_room : about1.hasRoom e0.platform room_1 = true :=
  launch0.hasRoom_least _ room_1 (by decide +kernel) (by decide +kernel) (by decide +kernel) (by decide +kernel) (by decide +kernel) (by decide +kernel)
theorem allAtoms_all (ts : List Jvm.Cond) (a : Array Jvm.Value) (st : Jvm.State) : (allAtoms ts).before a st = ts.all (fun c => c.before a st) := by
  induction ts with
  | nil => rfl
  | cons c t ih =>
    show (Jvm.Cond.and c (allAtoms t)).before a st = _
    rw [Jvm.Cond.before_and, ih, List.all_cons]
def words1 : List Jvm.Cond := Jvm.Cond.code x code maxLocals ret :: tables_1
/-- a 'code' word, met by the world's own term for the bytes: nothing is compared byte by byte -/
theorem code_word {y : MethodName} {bytes : ByteArray} {mx : Nat} {rt : Option FieldType} {a : Array Value} {s : State} {m : MethodId} {meth : Method} {c : Code} (h1 : s.methodNamed? y = some m) (h2 : s.vm.method? m = some meth) (h3 : meth.code = some c) (h4 : c.code = bytes)
    (h5 : (c.maxLocals == mx && c.exceptionTable.isEmpty && decide (c.maxStack ≤ mostOperands) && decide (meth.sig.returnType = rt) && !meth.locks && decide (parseMethodDescriptor y.desc = some meth.sig)) = true) : (Jvm.Cond.code y bytes mx rt).before a s = true := by
  simp only [Bool.and_eq_true, beq_iff_eq, Bool.not_eq_true', decide_eq_true_eq] at h5
  obtain ⟨⟨⟨⟨⟨g1, g2⟩, g3⟩, g4⟩, g5⟩, g6⟩ := h5
  simp [Cond.before, Cond.holds, Cond.value, h1, h2, h3, h4, g1, g2, g3, g4, g5, g6]
def isCode : Jvm.Cond → Bool
  | .code _ _ _ _ => true
  | _ => false
theorem all_split {L : List Jvm.Cond} {P : Jvm.Cond → Bool} (h1 : L.all (fun c => isCode c || P c) = true) (h2 : ∀ c ∈ L.filter isCode, P c = true) : L.all P = true := by
  refine List.all_eq_true.mpr fun c hc => ?_
  have h := List.all_eq_true.mp h1 c hc
  rcases Bool.eq_false_or_eq_true (isCode c) with hi | hi
  · exact h2 c (List.mem_filter.mpr ⟨hc, hi⟩)
  · simpa [hi] using h
set_option maxRecDepth 65536 in
theorem w_c0 : (Jvm.Cond.code x code maxLocals ret).before args0 about1 = true := code_word (m := ⟨1, 1⟩) (meth := k1m1) (c := k1c1) (by decide +kernel) rfl rfl rfl (by decide +kernel)
set_option maxRecDepth 65536 in
theorem w_c1 : (Jvm.Cond.code ({ cls := "com/example/distill_trees/distilltrees/io/XmlChars", name := "isNameStartChar", desc := "(I)Z" } : Jvm.MethodName) prog_82_method_3_code (1 : Nat) (Option.some Jvm.ClassFile.FieldType.boolean)).before args0 about1 = true := code_word (m := ⟨2, 1⟩) (meth := k2m1) (c := k2c1) (by decide +kernel) rfl rfl rfl (by decide +kernel)
def codes1 : List Jvm.Cond := [Jvm.Cond.code x code maxLocals ret, Jvm.Cond.code ({ cls := "com/example/distill_trees/distilltrees/io/XmlChars", name := "isNameStartChar", desc := "(I)Z" } : Jvm.MethodName) prog_82_method_3_code (1 : Nat) (Option.some Jvm.ClassFile.FieldType.boolean)]
set_option maxRecDepth 65536 in
theorem codes_eq : words1.filter isCode = codes1 := rfl
theorem w_codes : ∀ c ∈ words1.filter isCode, c.before args0 about1 = true := by
  rw [codes_eq]
  intro c hc
  simp only [codes1, List.mem_cons, List.not_mem_nil, or_false] at hc
  rcases hc with rfl | rfl
  · exact w_c0
  · exact w_c1
set_option maxRecDepth 65536 in
theorem w_t1 : words1.all (fun c => isCode c || c.before args0 about1) = true := by decide +kernel
theorem w_tables : (allAtoms (Jvm.Cond.code x code maxLocals ret :: tables_1)).before args0 about1 = true := by
  rw [allAtoms_all]
  show words1.all (fun c => c.before args0 about1) = true
  refine all_split ?_ w_codes
  rw [w_t1]
set_option maxRecDepth 65536 in
theorem w_case : (Jvm.Cond.and given_1 narrow_1).before args0 about1 = true := by decide +kernel
theorem w_applies : (headSpec (Jvm.Cond.code x code maxLocals ret :: tables_1) room_1).applies x e0.platform about1 = true :=
  (Spec.applies_iff w_frames).mpr ⟨w_running, w_runnable, w_alone, w_named, w_hears, w_ripe, w_room, w_tables⟩
theorem atStart : AtStart classFile x code maxLocals ret World_1 tables_1 room_1 Calls_1 rest_1 Pre_1 launch0 p0 e0 about1 theMethod args0 below0 :=
  ⟨lists_1, trivial, launch0.admits_env _ _ _, launch0.least_env, fairChoices_fair.cas, fairChoices_fair.clock, w_frames, w_args, w_heap, w_applies, trivial, trivial, w_case⟩
end start1
theorem witness_1 : WitnessClaimed_1 := ⟨start1.p0, start1.e0, start1.about1, start1.theMethod, start1.args0, start1.below0, start1.atStart⟩
end Jvm.Pilot.@@N@@
