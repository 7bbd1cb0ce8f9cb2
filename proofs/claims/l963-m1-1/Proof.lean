import JvmDerived
import JvmDerived.Pilot.@@N@@Statement
import JvmDerived.Pilot.@@N@@Code
set_option linter.unusedVariables false
set_option linter.unusedSimpArgs false
namespace Jvm.RoadKit
open Sem ClassFile Op Lib Jvm.Stand Jvm.Free Jvm.LawKit
section New
variable {p : Program} {l : Launch} {e : Env} {R : Room} {s : State} {m : MethodId} {args : Array Value} {below : List Frame} {meth : Method} {c : Code} {T : State} {locs : List Loc} {cells slots : Nat}
theorem retI (X : Stand p l e R s m args below meth c T locs cells slots) (hx : p.tables.exec = Jvm.exec) {pc : Nat} {Ls : Array Slot} {z : Int32} {rest : List Value} (hret : meth.sig.returnType = some .int) (hd : decode c.code pc = .ok (.ireturn, 1)) {fs : List Frame}
    (hl : ∀ (f : JFrame) (acts : List Action), f.method = m → f.locked = none → f.entered = [] → (doReturn e (T.setTop f) acts (some (.int z))).1 = T.setFrames fs) : Steps p.tables e below (T.setTop (mkF m pc Ls (.int z :: rest))) (T.setFrames fs) := by
  have hm' : T.vm.method? m = some meth := X.method'
  have hn : narrow .int (.int z) = .int z := rfl
  show Steps p.tables e below (T.setTop { method := m, pc := pc, locals := Ls, stack := _ :: rest, locked := none }) _
  jvm_step X.here [X.here.top, hx, hd, hm', hret, hn]
  first | (intro acts; rw [hl _ acts rfl rfl rfl]) | rw [hl _ _ rfl rfl rfl]
  exact Steps.refl _
theorem own_retZ (X : Stand p l e R s m args below meth c T locs cells slots) (hx : p.tables.exec = Jvm.exec) {pc : Nat} {Ls : Array Slot} {z : Int32} {rest : List Value} (hret : meth.sig.returnType = some .boolean) (hz : z &&& 1 = z) (hd : decode c.code pc = .ok (.ireturn, 1)) {fs : List Frame}
    (hl : ∀ (f : JFrame) (acts : List Action), f.method = m → f.locked = none → f.entered = [] → (doReturn e (T.setTop f) acts (some (.int z))).1 = T.setFrames fs) : Steps p.tables e below (T.setTop (mkF m pc Ls (.int z :: rest))) (T.setFrames fs) :=
  retN X hx (t := .boolean) hret (Or.inl rfl) hd (by have q : nar .boolean z = z := hz; rw [q]; exact hl)
theorem own_lrem {g : JFrame} {target : State} (X : Stand p l e R s m args below meth c T locs cells slots) (hx : p.tables.exec = Jvm.exec) (hg : g.method = m) {x y : Int64} {rest : List Value} (hd : decode c.code g.pc = .ok (.lrem, 1)) (hs : g.stack = .long y :: .long x :: rest) (hy : y ≠ 0)
    (hr : Steps p.tables e below (T.setTop { g with pc := g.pc + 1, stack := .long (x % y) :: rest }) target) : Steps p.tables e below (T.setTop g) target :=
  XS.lrem X.here hx hg hd hs hy (by rw [lrem_mod x y]; exact hr)
end New
end Jvm.RoadKit
namespace Jvm.Pilot.@@N@@
open Jvm Jvm.ClassFile Sem Op Lib Jvm.Free Jvm.Stand Jvm.LawKit Jvm.RoadKit Bundle Jvm.Pilot.@@N@@.Jvm.D
def own_min (x y : Int32) : Int32 := if y < x then y else x
def own_max (x y : Int32) : Int32 := if x < y then y else x
theorem own_minI (x y : Int32) : (own_min x y).toInt = min x.toInt y.toInt := by
  unfold own_min
  by_cases h : y < x
  · rw [if_pos h]; have := Int32.lt_iff_toInt_lt.mp h; omega
  · rw [if_neg h]; have : ¬ y.toInt < x.toInt := fun q => h (Int32.lt_iff_toInt_lt.mpr q); omega
theorem own_maxI (x y : Int32) : (own_max x y).toInt = max x.toInt y.toInt := by
  unfold own_max
  by_cases h : x < y
  · rw [if_pos h]; have := Int32.lt_iff_toInt_lt.mp h; omega
  · rw [if_neg h]; have : ¬ x.toInt < y.toInt := fun q => h (Int32.lt_iff_toInt_lt.mpr q); omega

def own_in (lo hi s : Int32) : Int32 := if (lo.toInt ≤ s.toInt ∧ s.toInt ≤ hi.toInt) then 1 else 0
theorem own_mask (x : Int32) : 0 ≤ (x &&& (255 : Int32)).toInt ∧ (x &&& (255 : Int32)).toInt ≤ 255 := c_and x (255 : Int32) (by decide)
theorem own_end (lo hi s : Int32) (h : lo.toInt ≤ hi.toInt) : own_in lo hi s = (if (own_max lo (own_min hi s)) = s then (1 : Int32) else (0 : Int32)) := by
  have e : (own_max lo (own_min hi s) = s) ↔ (lo.toInt ≤ s.toInt ∧ s.toInt ≤ hi.toInt) := by
    rw [← Int32.toInt_inj, own_maxI, own_minI]; omega
  unfold own_in
  by_cases q : (lo.toInt ≤ s.toInt ∧ s.toInt ≤ hi.toInt)
  · rw [if_pos q, if_pos (e.mpr q)]
  · rw [if_neg q, if_neg (fun z => q (e.mp z))]
theorem d1_0 : decode jdk_29_method_69_code 0 = .ok (.iload_n 0, 1) := by decide +kernel
theorem d1_1 : decode jdk_29_method_69_code 1 = .ok (.iload_n 1, 1) := by decide +kernel
theorem d1_2 : decode jdk_29_method_69_code 2 = .ok (.if_icmp .gt 7, 3) := by decide +kernel
theorem d1_9 : decode jdk_29_method_69_code 9 = .ok (.iload_n 1, 1) := by decide +kernel
theorem d1_10 : decode jdk_29_method_69_code 10 = .ok (.ireturn, 1) := by decide +kernel
theorem d1_5 : decode jdk_29_method_69_code 5 = .ok (.iload_n 0, 1) := by decide +kernel
theorem d1_6 : decode jdk_29_method_69_code 6 = .ok (.goto 4, 3) := by decide +kernel
theorem ef_rm1 (m : MethodId) (x0 : Int32) (x1 : Int32) : entryFrame m #[(.int x0), (.int x1)] 2 = mkF m 0 #[.val (.int x0), .val (.int x1)] [] := by first | (simp [entryFrame, mkF, argsToLocals, Value.category]; done) | rfl
def Q1 (Z : State) (x : Int32) (y : Int32) (h0 : Heap) (n0 : Nat) (v : Option Value) (h : Heap) (L : List Loc) : Prop := v = some (.int (own_min x y)) ∧ Fr n0 L ∧ h = h0
set_option maxRecDepth 65536 in
set_option maxHeartbeats 40000000 in
theorem rm1 (l : Launch) (Z : State) (a0 : Array Value) (hw : ∀ d ∈ tables_1, d.before a0 Z = true) (ws : List Jvm.Cond) (x : Int32) (y : Int32) (h0 : Heap) (n0 : Nat) (Z0 : n0 ≤ h0.size) :
    MetFree l (⟨"java/lang/Math", "min", "(II)I"⟩ : MethodName) (head1 (Jvm.Cond.code (⟨"java/lang/Math", "min", "(II)I"⟩ : MethodName) jdk_29_method_69_code 2 (some .int) :: ws) ({ frames := 0, cells := 0, slots := 0, locals := 0 } : Room)) (fun aa U => aa = #[(.int x), (.int y)] ∧ Z.Warmed39 U.vm ∧ U.heap = h0) (fun _ _ _ _ _ => True) (fun _ U o U' => ∃ v L, o = .returned v ∧ Q1 Z x y h0 n0 v U'.heap L ∧ FrameEnd U o U' L ({ frames := 0, cells := 0, slots := 0, locals := 0 } : Room).cells ({ frames := 0, cells := 0, slots := 0, locals := 0 } : Room).slots) := by
  refine MetFree.of_bodySF (Jvm.Free.JP.mathPlain rfl (by decide +kernel)) hisR ?_
  intro p e s m args below meth c s₁ Bd hml0 hP hK
  obtain ⟨rfl, hZ, hh⟩ := hP
  have hx := Bd.exec
  have hby := Bd.bytes
  have hml : c.maxLocals = 2 := hml0
  have hown : s.vm.findClass "java/lang/Math" = some m.cls := findClass_of_methodNamed Bd.named
  have hnm := (name_of_methodNamed Bd.named Bd.method).1
  have X0 : Stand p l e ({ frames := 0, cells := 0, slots := 0, locals := 0 } : Room) s m #[(.int x), (.int y)] below meth c s₁ [] 0 0 := Stand.of_body Bd
  have e0 : s₁.heap = h0 := by rw [← hh, Bd.state]; rfl
  have N0 := Fr.nil n0
  obtain ⟨Ω, hΩ⟩ : ∃ z, z = s₁.setTop (entryFrame m #[(.int x), (.int y)] 2) := ⟨_, rfl⟩
  have S0 : Steps p.tables e below Ω (s₁.setTop (mkF m 0 #[.val (.int x), .val (.int y)] [])) := by rw [hΩ]; exact castTop (ef_rm1 m x y) (Steps.refl _)
  have S1 : Steps p.tables e below Ω (s₁.setTop (mkF m 2 #[.val (.int x), .val (.int y)] [(.int y), (.int x)])) := by
    refine S0.trans ?_
    refine XS.iloadN X0.here hx rfl (hb hby d1_0) rfl ?_
    show Steps p.tables e below (s₁.setTop (mkF m 1 #[.val (.int x), .val (.int y)] [(.int x)])) _
    refine XS.iloadN X0.here hx rfl (hb hby d1_1) rfl ?_
    exact Steps.refl _
  by_cases hc : y < x
  · have qhc : y.toInt < x.toInt := Int32.lt_iff_toInt_lt.mp hc
    have S2 : Steps p.tables e below Ω (s₁.setTop (mkF m 10 #[.val (.int x), .val (.int y)] [(.int y)])) := by
      refine S1.trans ?_
      refine XS.icmpYes X0.here hx rfl (pc0 := 2) (pc' := 9) rfl (hb hby d1_2) rfl (XT.ii_gt_t hc) (by decide) (by decide) ?_
      show Steps p.tables e below (s₁.setTop (mkF m 9 #[.val (.int x), .val (.int y)] [])) _
      refine XS.iloadN X0.here hx rfl (hb hby d1_9) rfl ?_
      exact Steps.refl _
    obtain ⟨fs, hr, hrun, hended, hW, hsame⟩ := X0.leave (v := some (.int y)) (fun h => by rw [Bd.returns] at h; cases h)
    have hfin : Steps p.tables e below Ω (s₁.setFrames fs) := by
      refine S2.trans ?_
      exact retI X0 hx Bd.returns (hb hby d1_10) hr
    rw [hΩ] at hfin
    refine ⟨_, _, hfin, hrun, hended, _, _, rfl, ?_, ⟨_, rfl⟩, hW, hsame.mono (by decide) (by decide)⟩
    show Q1 Z x y h0 n0 _ s₁.heap _
    rw [e0]
    exact ⟨by rw [own_min, if_pos hc], N0, rfl⟩
  · have qhc : ¬ y.toInt < x.toInt := fun q => hc (Int32.lt_iff_toInt_lt.mpr q)
    have S3 : Steps p.tables e below Ω (s₁.setTop (mkF m 10 #[.val (.int x), .val (.int y)] [(.int x)])) := by
      refine S1.trans ?_
      refine XS.icmpNo X0.here hx rfl (hb hby d1_2) rfl (XT.ii_gt_f hc) ?_
      show Steps p.tables e below (s₁.setTop (mkF m 5 #[.val (.int x), .val (.int y)] [])) _
      refine XS.iloadN X0.here hx rfl (hb hby d1_5) rfl ?_
      show Steps p.tables e below (s₁.setTop (mkF m 6 #[.val (.int x), .val (.int y)] [(.int x)])) _
      refine XS.goto X0.here hx rfl (pc0 := 6) (pc' := 10) rfl (hb hby d1_6) (by decide) (by decide) ?_
      exact Steps.refl _
    obtain ⟨fs, hr, hrun, hended, hW, hsame⟩ := X0.leave (v := some (.int x)) (fun h => by rw [Bd.returns] at h; cases h)
    have hfin : Steps p.tables e below Ω (s₁.setFrames fs) := by
      refine S3.trans ?_
      exact retI X0 hx Bd.returns (hb hby d1_10) hr
    rw [hΩ] at hfin
    refine ⟨_, _, hfin, hrun, hended, _, _, rfl, ?_, ⟨_, rfl⟩, hW, hsame.mono (by decide) (by decide)⟩
    show Q1 Z x y h0 n0 _ s₁.heap _
    rw [e0]
    exact ⟨by rw [own_min, if_neg hc], N0, rfl⟩
theorem d2_0 : decode jdk_29_method_65_code 0 = .ok (.iload_n 0, 1) := by decide +kernel
theorem d2_1 : decode jdk_29_method_65_code 1 = .ok (.iload_n 1, 1) := by decide +kernel
theorem d2_2 : decode jdk_29_method_65_code 2 = .ok (.if_icmp .lt 7, 3) := by decide +kernel
theorem d2_9 : decode jdk_29_method_65_code 9 = .ok (.iload_n 1, 1) := by decide +kernel
theorem d2_10 : decode jdk_29_method_65_code 10 = .ok (.ireturn, 1) := by decide +kernel
theorem d2_5 : decode jdk_29_method_65_code 5 = .ok (.iload_n 0, 1) := by decide +kernel
theorem d2_6 : decode jdk_29_method_65_code 6 = .ok (.goto 4, 3) := by decide +kernel
theorem ef_rm2 (m : MethodId) (x0 : Int32) (x1 : Int32) : entryFrame m #[(.int x0), (.int x1)] 2 = mkF m 0 #[.val (.int x0), .val (.int x1)] [] := by first | (simp [entryFrame, mkF, argsToLocals, Value.category]; done) | rfl
def Q2 (Z : State) (x : Int32) (y : Int32) (h0 : Heap) (n0 : Nat) (v : Option Value) (h : Heap) (L : List Loc) : Prop := v = some (.int (own_max x y)) ∧ Fr n0 L ∧ h = h0
set_option maxRecDepth 65536 in
set_option maxHeartbeats 40000000 in
theorem rm2 (l : Launch) (Z : State) (a0 : Array Value) (hw : ∀ d ∈ tables_1, d.before a0 Z = true) (ws : List Jvm.Cond) (x : Int32) (y : Int32) (h0 : Heap) (n0 : Nat) (Z0 : n0 ≤ h0.size) :
    MetFree l (⟨"java/lang/Math", "max", "(II)I"⟩ : MethodName) (head1 (Jvm.Cond.code (⟨"java/lang/Math", "max", "(II)I"⟩ : MethodName) jdk_29_method_65_code 2 (some .int) :: ws) ({ frames := 0, cells := 0, slots := 0, locals := 0 } : Room)) (fun aa U => aa = #[(.int x), (.int y)] ∧ Z.Warmed39 U.vm ∧ U.heap = h0) (fun _ _ _ _ _ => True) (fun _ U o U' => ∃ v L, o = .returned v ∧ Q2 Z x y h0 n0 v U'.heap L ∧ FrameEnd U o U' L ({ frames := 0, cells := 0, slots := 0, locals := 0 } : Room).cells ({ frames := 0, cells := 0, slots := 0, locals := 0 } : Room).slots) := by
  refine MetFree.of_bodySF (Jvm.Free.JP.mathPlain rfl (by decide +kernel)) hisR ?_
  intro p e s m args below meth c s₁ Bd hml0 hP hK
  obtain ⟨rfl, hZ, hh⟩ := hP
  have hx := Bd.exec
  have hby := Bd.bytes
  have hml : c.maxLocals = 2 := hml0
  have hown : s.vm.findClass "java/lang/Math" = some m.cls := findClass_of_methodNamed Bd.named
  have hnm := (name_of_methodNamed Bd.named Bd.method).1
  have X0 : Stand p l e ({ frames := 0, cells := 0, slots := 0, locals := 0 } : Room) s m #[(.int x), (.int y)] below meth c s₁ [] 0 0 := Stand.of_body Bd
  have e0 : s₁.heap = h0 := by rw [← hh, Bd.state]; rfl
  have N0 := Fr.nil n0
  obtain ⟨Ω, hΩ⟩ : ∃ z, z = s₁.setTop (entryFrame m #[(.int x), (.int y)] 2) := ⟨_, rfl⟩
  have S0 : Steps p.tables e below Ω (s₁.setTop (mkF m 0 #[.val (.int x), .val (.int y)] [])) := by rw [hΩ]; exact castTop (ef_rm2 m x y) (Steps.refl _)
  have S1 : Steps p.tables e below Ω (s₁.setTop (mkF m 2 #[.val (.int x), .val (.int y)] [(.int y), (.int x)])) := by
    refine S0.trans ?_
    refine XS.iloadN X0.here hx rfl (hb hby d2_0) rfl ?_
    show Steps p.tables e below (s₁.setTop (mkF m 1 #[.val (.int x), .val (.int y)] [(.int x)])) _
    refine XS.iloadN X0.here hx rfl (hb hby d2_1) rfl ?_
    exact Steps.refl _
  by_cases hc : x < y
  · have qhc : x.toInt < y.toInt := Int32.lt_iff_toInt_lt.mp hc
    have S2 : Steps p.tables e below Ω (s₁.setTop (mkF m 10 #[.val (.int x), .val (.int y)] [(.int y)])) := by
      refine S1.trans ?_
      refine XS.icmpYes X0.here hx rfl (pc0 := 2) (pc' := 9) rfl (hb hby d2_2) rfl (XT.ii_lt_t hc) (by decide) (by decide) ?_
      show Steps p.tables e below (s₁.setTop (mkF m 9 #[.val (.int x), .val (.int y)] [])) _
      refine XS.iloadN X0.here hx rfl (hb hby d2_9) rfl ?_
      exact Steps.refl _
    obtain ⟨fs, hr, hrun, hended, hW, hsame⟩ := X0.leave (v := some (.int y)) (fun h => by rw [Bd.returns] at h; cases h)
    have hfin : Steps p.tables e below Ω (s₁.setFrames fs) := by
      refine S2.trans ?_
      exact retI X0 hx Bd.returns (hb hby d2_10) hr
    rw [hΩ] at hfin
    refine ⟨_, _, hfin, hrun, hended, _, _, rfl, ?_, ⟨_, rfl⟩, hW, hsame.mono (by decide) (by decide)⟩
    show Q2 Z x y h0 n0 _ s₁.heap _
    rw [e0]
    exact ⟨by rw [own_max, if_pos hc], N0, rfl⟩
  · have qhc : ¬ x.toInt < y.toInt := fun q => hc (Int32.lt_iff_toInt_lt.mpr q)
    have S3 : Steps p.tables e below Ω (s₁.setTop (mkF m 10 #[.val (.int x), .val (.int y)] [(.int x)])) := by
      refine S1.trans ?_
      refine XS.icmpNo X0.here hx rfl (hb hby d2_2) rfl (XT.ii_lt_f hc) ?_
      show Steps p.tables e below (s₁.setTop (mkF m 5 #[.val (.int x), .val (.int y)] [])) _
      refine XS.iloadN X0.here hx rfl (hb hby d2_5) rfl ?_
      show Steps p.tables e below (s₁.setTop (mkF m 6 #[.val (.int x), .val (.int y)] [(.int x)])) _
      refine XS.goto X0.here hx rfl (pc0 := 6) (pc' := 10) rfl (hb hby d2_6) (by decide) (by decide) ?_
      exact Steps.refl _
    obtain ⟨fs, hr, hrun, hended, hW, hsame⟩ := X0.leave (v := some (.int x)) (fun h => by rw [Bd.returns] at h; cases h)
    have hfin : Steps p.tables e below Ω (s₁.setFrames fs) := by
      refine S3.trans ?_
      exact retI X0 hx Bd.returns (hb hby d2_10) hr
    rw [hΩ] at hfin
    refine ⟨_, _, hfin, hrun, hended, _, _, rfl, ?_, ⟨_, rfl⟩, hW, hsame.mono (by decide) (by decide)⟩
    show Q2 Z x y h0 n0 _ s₁.heap _
    rw [e0]
    exact ⟨by rw [own_max, if_neg hc], N0, rfl⟩
theorem d4_0 : decode jdk_30_method_1_code 0 = .ok (.aload_n 0, 1) := by decide +kernel
theorem d4_1 : decode jdk_30_method_1_code 1 = .ok (.invokespecial 1, 3) := by decide +kernel
theorem d4_4 : decode jdk_30_method_1_code 4 = .ok (.return_, 1) := by decide +kernel
theorem pn_0 : plainName "java/lang/Record" = true := by first | (simp [plainName, overriddenIn]; done) | decide +kernel
theorem ef_rm4 (m : MethodId) (x0 : Addr) : entryFrame m #[(.ref x0)] 1 = mkF m 0 #[.val (.ref x0)] [] := by first | (simp [entryFrame, mkF, argsToLocals, Value.category]; done) | rfl
def Q4 (Z : State) (a : Addr) (h0 : Heap) (n0 : Nat) (v : Option Value) (h : Heap) (L : List Loc) : Prop := v = none ∧ Fr n0 L ∧ h = h0
set_option maxRecDepth 65536 in
set_option maxHeartbeats 40000000 in
theorem rm4 (l : Launch) (Z : State) (a0 : Array Value) (hw : ∀ d ∈ tables_1, d.before a0 Z = true) (ws : List Jvm.Cond) (a : Addr) (h0 : Heap) (n0 : Nat) (Z0 : n0 ≤ h0.size) :
    MetFree l (⟨"java/lang/Record", "<init>", "()V"⟩ : MethodName) (head1 (Jvm.Cond.code (⟨"java/lang/Record", "<init>", "()V"⟩ : MethodName) jdk_30_method_1_code 1 none :: ws) ({ frames := 1, cells := 0, slots := 0, locals := 12 } : Room)) (fun aa U => aa = #[(.ref a)] ∧ Z.Warmed39 U.vm ∧ U.heap = h0) (fun _ _ _ _ _ => True) (fun _ U o U' => ∃ v L, o = .returned v ∧ Q4 Z a h0 n0 v U'.heap L ∧ FrameEnd U o U' L ({ frames := 1, cells := 0, slots := 0, locals := 12 } : Room).cells ({ frames := 1, cells := 0, slots := 0, locals := 12 } : Room).slots) := by
  refine MetFree.of_bodySF (plainFor_of_name pn_0) hisR ?_
  intro p e s m args below meth c s₁ Bd hml0 hP hK
  obtain ⟨rfl, hZ, hh⟩ := hP
  have hx := Bd.exec
  have hby := Bd.bytes
  have hml : c.maxLocals = 1 := hml0
  have hown : s.vm.findClass "java/lang/Record" = some m.cls := findClass_of_methodNamed Bd.named
  have hnm := (name_of_methodNamed Bd.named Bd.method).1
  have X0 : Stand p l e ({ frames := 1, cells := 0, slots := 0, locals := 12 } : Room) s m #[(.ref a)] below meth c s₁ [] 0 0 := Stand.of_body Bd
  have e0 : s₁.heap = h0 := by rw [← hh, Bd.state]; rfl
  have N0 := Fr.nil n0
  obtain ⟨Ω, hΩ⟩ : ∃ z, z = s₁.setTop (entryFrame m #[(.ref a)] 1) := ⟨_, rfl⟩
  have S0 : Steps p.tables e below Ω (s₁.setTop (mkF m 0 #[.val (.ref a)] [])) := by rw [hΩ]; exact castTop (ef_rm4 m a) (Steps.refl _)
  have S1 : Steps p.tables e below Ω (s₁.setTop (mkF m 1 #[.val (.ref a)] [(.ref a)])) := by
    refine S0.trans ?_
    refine XS.aloadN X0.here hx rfl (hb hby d4_0) rfl rfl ?_
    exact Steps.refl _
  obtain ⟨T2, X2, e2, st2⟩ := initO X0 hx hZ hown (hw _ (List.mem_of_getElem? (i := 18) rfl)) (hw _ (List.mem_of_getElem? (i := 19) rfl)) (hw _ (List.mem_of_getElem? (i := 20) rfl)) e0 (g := (mkF m 1 #[.val (.ref a)] [(.ref a)])) rfl (by rw [hml]; rfl) rfl (hb hby d4_1) (by decide) (W := 0) (by show 2 * 0 + _ ≤ _; exact Nat.le_of_eq rfl) (by decide)
  have S3 : Steps p.tables e below Ω (T2.setTop (mkF m 4 #[.val (.ref a)] [])) := S1.trans (st2 _ (Steps.refl _))
  obtain ⟨fs, hr, hrun, hended, hW, hsame⟩ := X2.leave (v := none) (fun _ => rfl)
  have hfin : Steps p.tables e below Ω (T2.setFrames fs) := by
    refine S3.trans ?_
    exact X2.returnOut hx Bd.returns (hb hby d4_4) hr
  rw [hΩ] at hfin
  refine ⟨_, _, hfin, hrun, hended, _, _, rfl, ?_, ⟨_, rfl⟩, hW, hsame.mono (by decide) (by decide)⟩
  show Q4 Z a h0 n0 _ T2.heap _
  rw [e2]
  exact ⟨rfl, N0, rfl⟩
theorem d3_0 : decode prog_92_method_1_code 0 = .ok (.aload_n 0, 1) := by decide +kernel
theorem pd_0 : parseMethodDescriptor "()V" = some ⟨[], none⟩ := by decide +kernel
theorem d3_1 : decode prog_92_method_1_code 1 = .ok (.invokespecial 1, 3) := by decide +kernel
theorem d3_4 : decode prog_92_method_1_code 4 = .ok (.iload_n 1, 1) := by decide +kernel
theorem d3_5 : decode prog_92_method_1_code 5 = .ok (.ifCond .lt 15, 3) := by decide +kernel
theorem d3_8 : decode prog_92_method_1_code 8 = .ok (.iload_n 1, 1) := by decide +kernel
theorem d3_9 : decode prog_92_method_1_code 9 = .ok (.iload_n 2, 1) := by decide +kernel
theorem d3_10 : decode prog_92_method_1_code 10 = .ok (.if_icmp .gt 10, 3) := by decide +kernel
theorem d3_13 : decode prog_92_method_1_code 13 = .ok (.iload_n 2, 1) := by decide +kernel
theorem d3_14 : decode prog_92_method_1_code 14 = .ok (.sipush 255, 3) := by decide +kernel
theorem d3_17 : decode prog_92_method_1_code 17 = .ok (.if_icmp .le 18, 3) := by decide +kernel
theorem d3_35 : decode prog_92_method_1_code 35 = .ok (.aload_n 0, 1) := by decide +kernel
theorem d3_36 : decode prog_92_method_1_code 36 = .ok (.iload_n 1, 1) := by decide +kernel
theorem d3_37 : decode prog_92_method_1_code 37 = .ok (.putfield 16, 3) := by decide +kernel
theorem d3_40 : decode prog_92_method_1_code 40 = .ok (.aload_n 0, 1) := by decide +kernel
theorem d3_41 : decode prog_92_method_1_code 41 = .ok (.iload_n 2, 1) := by decide +kernel
theorem d3_42 : decode prog_92_method_1_code 42 = .ok (.putfield 22, 3) := by decide +kernel
theorem d3_45 : decode prog_92_method_1_code 45 = .ok (.return_, 1) := by decide +kernel
theorem pn_1 : plainName "com/example/pathsmith/pathsmith/session/PeerTimers$Range" = true := by first | (simp [plainName, overriddenIn]; done) | decide +kernel
theorem ef_rm3 (m : MethodId) (x0 : Addr) (x1 : Int32) (x2 : Int32) : entryFrame m #[(.ref x0), (.int x1), (.int x2)] 3 = mkF m 0 #[.val (.ref x0), .val (.int x1), .val (.int x2)] [] := by first | (simp [entryFrame, mkF, argsToLocals, Value.category]; done) | rfl
def Q3 (Z : State) (a : Addr) (p1 : Int32) (p2 : Int32) (h0 : Heap) (n0 : Nat) (v : Option Value) (h : Heap) (L : List Loc) : Prop := v = none ∧ Fr n0 L ∧ Keep h0 h [a] ∧ Exa Z h a "com/example/pathsmith/pathsmith/session/PeerTimers$Range" ∧ Fld Z h a "com/example/pathsmith/pathsmith/session/PeerTimers$Range" "min" "I" (.int p1) ∧ Fld Z h a "com/example/pathsmith/pathsmith/session/PeerTimers$Range" "max" "I" (.int p2)
set_option maxRecDepth 65536 in
set_option maxHeartbeats 40000000 in
theorem rm3 (l : Launch) (Z : State) (a0 : Array Value) (hw : ∀ d ∈ tables_1, d.before a0 Z = true) (ws : List Jvm.Cond) (a : Addr) (p1 : Int32) (p2 : Int32) (h0 : Heap) (n0 : Nat) (Z0 : n0 ≤ h0.size) (E0 : Exa Z h0 a "com/example/pathsmith/pathsmith/session/PeerTimers$Range") (F1 : Fld Z h0 a "com/example/pathsmith/pathsmith/session/PeerTimers$Range" "min" "I" (.int (0 : Int32))) (F2 : Fld Z h0 a "com/example/pathsmith/pathsmith/session/PeerTimers$Range" "max" "I" (.int (0 : Int32))) (g : n0 ≤ a) (b1 : ¬ p1 < 0) (b2 : ¬ p2 < p1) (b3 : ¬ (255 : Int32) < p2) :
    MetFree l (⟨"com/example/pathsmith/pathsmith/session/PeerTimers$Range", "<init>", "(II)V"⟩ : MethodName) (head1 (Jvm.Cond.code (⟨"com/example/pathsmith/pathsmith/session/PeerTimers$Range", "<init>", "(II)V"⟩ : MethodName) prog_92_method_1_code 3 none :: ws) ({ frames := 2, cells := 0, slots := 0, locals := 24 } : Room)) (fun aa U => aa = #[(.ref a), (.int p1), (.int p2)] ∧ Z.Warmed39 U.vm ∧ U.heap = h0) (fun _ _ _ _ _ => True) (fun _ U o U' => ∃ v L, o = .returned v ∧ Q3 Z a p1 p2 h0 n0 v U'.heap L ∧ FrameEnd U o U' L ({ frames := 2, cells := 0, slots := 0, locals := 24 } : Room).cells ({ frames := 2, cells := 0, slots := 0, locals := 24 } : Room).slots) := by
  refine MetFree.of_bodySF (plainFor_of_name pn_1) hisR ?_
  intro p e s m args below meth c s₁ Bd hml0 hP hK
  obtain ⟨rfl, hZ, hh⟩ := hP
  have hx := Bd.exec
  have hby := Bd.bytes
  have hml : c.maxLocals = 3 := hml0
  have hown : s.vm.findClass "com/example/pathsmith/pathsmith/session/PeerTimers$Range" = some m.cls := findClass_of_methodNamed Bd.named
  have hnm := (name_of_methodNamed Bd.named Bd.method).1
  have X0 : Stand p l e ({ frames := 2, cells := 0, slots := 0, locals := 24 } : Room) s m #[(.ref a), (.int p1), (.int p2)] below meth c s₁ [] 0 0 := Stand.of_body Bd
  have e0 : s₁.heap = h0 := by rw [← hh, Bd.state]; rfl
  have N0 := Fr.nil n0
  obtain ⟨Ω, hΩ⟩ : ∃ z, z = s₁.setTop (entryFrame m #[(.ref a), (.int p1), (.int p2)] 3) := ⟨_, rfl⟩
  have S0 : Steps p.tables e below Ω (s₁.setTop (mkF m 0 #[.val (.ref a), .val (.int p1), .val (.int p2)] [])) := by rw [hΩ]; exact castTop (ef_rm3 m a p1 p2) (Steps.refl _)
  have S1 : Steps p.tables e below Ω (s₁.setTop (mkF m 1 #[.val (.ref a), .val (.int p1), .val (.int p2)] [(.ref a)])) := by
    refine S0.trans ?_
    refine XS.aloadN X0.here hx rfl (hb hby d3_0) rfl rfl ?_
    exact Steps.refl _
  obtain ⟨_, _, ⟨T2, L2, k2, n2⟩, -, X2, ⟨Lc2, hQ2, l2, y2, z2⟩, st2⟩ := X0.specialBack hx (y := (⟨"java/lang/Record", "<init>", "()V"⟩ : MethodName)) rfl hown (mvT hZ (hw _ (List.mem_of_getElem? (i := 13) rfl))) (mvT hZ (hw _ (List.mem_of_getElem? (i := 14) rfl))) (mvT hZ (hw _ (List.mem_of_getElem? (i := 17) rfl))) (by decide) (backOf (W := 0) (rm4 l Z a0 hw [] a  h0 n0 Z0 ) hZ (hw _ (List.mem_of_getElem? (i := 17) rfl)) (hw _ (List.mem_of_getElem? (i := 16) rfl)) (by decide) (by decide)) (g := (mkF m 1 #[.val (.ref a), .val (.int p1), .val (.int p2)] [(.ref a)])) rfl (by rw [hml]; rfl) (Steps.refl _) (a := a) (argsL := []) (rest := []) (lenOf pd_0 rfl) rfl (by show 2 * 0 + _ ≤ _; exact Nat.le_of_eq rfl) (hb hby d3_1) (fun _ _ => ⟨rfl, e0, (by decide : 0 + 0 ≤ _), (by decide : 0 + 0 ≤ _)⟩)
  dsimp only [Pt.U, Pt.locs, Pt.cells, Pt.slots] at X2 l2 y2 z2 st2 hQ2
  subst l2 y2 z2
  obtain ⟨rfl, N2q, e2⟩ := hQ2
  have N2 := Fr.app N0 N2q
  have S3 : Steps p.tables e below Ω (T2.setTop (mkF m 4 #[.val (.ref a), .val (.int p1), .val (.int p2)] [])) := S1.trans st2
  have S4 : Steps p.tables e below Ω (T2.setTop (mkF m 37 #[.val (.ref a), .val (.int p1), .val (.int p2)] [(.int p1), (.ref a)])) := by
    refine S3.trans ?_
    refine XS.iloadN X2.here hx rfl (hb hby d3_4) rfl ?_
    show Steps p.tables e below (T2.setTop (mkF m 5 #[.val (.ref a), .val (.int p1), .val (.int p2)] [(.int p1)])) _
    refine XS.ifNo X2.here hx rfl (hb hby d3_5) rfl (XT.i0_lt_f b1) ?_
    show Steps p.tables e below (T2.setTop (mkF m 8 #[.val (.ref a), .val (.int p1), .val (.int p2)] [])) _
    refine XS.iloadN X2.here hx rfl (hb hby d3_8) rfl ?_
    show Steps p.tables e below (T2.setTop (mkF m 9 #[.val (.ref a), .val (.int p1), .val (.int p2)] [(.int p1)])) _
    refine XS.iloadN X2.here hx rfl (hb hby d3_9) rfl ?_
    show Steps p.tables e below (T2.setTop (mkF m 10 #[.val (.ref a), .val (.int p1), .val (.int p2)] [(.int p2), (.int p1)])) _
    refine XS.icmpNo X2.here hx rfl (hb hby d3_10) rfl (XT.ii_gt_f b2) ?_
    show Steps p.tables e below (T2.setTop (mkF m 13 #[.val (.ref a), .val (.int p1), .val (.int p2)] [])) _
    refine XS.iloadN X2.here hx rfl (hb hby d3_13) rfl ?_
    show Steps p.tables e below (T2.setTop (mkF m 14 #[.val (.ref a), .val (.int p1), .val (.int p2)] [(.int p2)])) _
    refine XS.sipush X2.here hx rfl (hb hby d3_14) ?_
    show Steps p.tables e below (T2.setTop (mkF m 17 #[.val (.ref a), .val (.int p1), .val (.int p2)] [(.int (255 : Int32)), (.int p2)])) _
    refine XS.icmpYes X2.here hx rfl (pc0 := 17) (pc' := 35) rfl (hb hby d3_17) rfl (XT.ii_le_t b3) (by decide) (by decide) ?_
    show Steps p.tables e below (T2.setTop (mkF m 35 #[.val (.ref a), .val (.int p1), .val (.int p2)] [])) _
    refine XS.aloadN X2.here hx rfl (hb hby d3_35) rfl rfl ?_
    show Steps p.tables e below (T2.setTop (mkF m 36 #[.val (.ref a), .val (.int p1), .val (.int p2)] [(.ref a)])) _
    refine XS.iloadN X2.here hx rfl (hb hby d3_36) rfl ?_
    exact Steps.refl _
  obtain ⟨T5, h5, X5, e5, W5, st5⟩ := putF X2 hx hZ hown (host := "") (Or.inl (hw _ (List.mem_of_getElem? (i := 21) rfl))) Via.refl e2 F1 E0 (Or.inr ⟨(hw _ (List.mem_of_getElem? (i := 22) rfl)), rfl, hnm⟩) (hw _ (List.mem_of_getElem? (i := 8) rfl)) (ty := .int) (by decide) rfl rfl (g := (mkF m 37 #[.val (.ref a), .val (.int p1), .val (.int p2)] [(.int p1), (.ref a)])) rfl rfl (hb hby d3_37)
  have S6 : Steps p.tables e below Ω (T5.setTop (mkF m 40 #[.val (.ref a), .val (.int p1), .val (.int p2)] [])) := S4.trans (st5 _ (Steps.refl _))
  have N5 := Fr.snoc X5 N2 g
  have E1 := E0.wr W5
  have F1' : Fld Z h5 a "com/example/pathsmith/pathsmith/session/PeerTimers$Range" "min" "I" (.int p1) := F1.same W5
  have F2' : Fld Z h5 a "com/example/pathsmith/pathsmith/session/PeerTimers$Range" "max" "I" (.int (0 : Int32)) := F2.other W5 (Or.inr (slot_ne (Or.inr (hw _ (List.mem_of_getElem? (i := 24) rfl))) (Or.inr (hw _ (List.mem_of_getElem? (i := 22) rfl))) (by decide) (t := .int) (t' := .int) (by decide) (by decide)))
  have S7 : Steps p.tables e below Ω (T5.setTop (mkF m 42 #[.val (.ref a), .val (.int p1), .val (.int p2)] [(.int p2), (.ref a)])) := by
    refine S6.trans ?_
    refine XS.aloadN X5.here hx rfl (hb hby d3_40) rfl rfl ?_
    show Steps p.tables e below (T5.setTop (mkF m 41 #[.val (.ref a), .val (.int p1), .val (.int p2)] [(.ref a)])) _
    refine XS.iloadN X5.here hx rfl (hb hby d3_41) rfl ?_
    exact Steps.refl _
  obtain ⟨T8, h8, X8, e8, W8, st8⟩ := putF X5 hx hZ hown (host := "") (Or.inl (hw _ (List.mem_of_getElem? (i := 23) rfl))) Via.refl e5 F2' E1 (Or.inr ⟨(hw _ (List.mem_of_getElem? (i := 24) rfl)), rfl, hnm⟩) (hw _ (List.mem_of_getElem? (i := 8) rfl)) (ty := .int) (by decide) rfl rfl (g := (mkF m 42 #[.val (.ref a), .val (.int p1), .val (.int p2)] [(.int p2), (.ref a)])) rfl rfl (hb hby d3_42)
  have S9 : Steps p.tables e below Ω (T8.setTop (mkF m 45 #[.val (.ref a), .val (.int p1), .val (.int p2)] [])) := S7.trans (st8 _ (Steps.refl _))
  have N8 := Fr.snoc X8 N5 g
  have E2 := E1.wr W8
  have F1'' : Fld Z h8 a "com/example/pathsmith/pathsmith/session/PeerTimers$Range" "min" "I" (.int p1) := F1'.other W8 (Or.inr (slot_ne (Or.inr (hw _ (List.mem_of_getElem? (i := 22) rfl))) (Or.inr (hw _ (List.mem_of_getElem? (i := 24) rfl))) (by decide) (t := .int) (t' := .int) (by decide) (by decide)))
  have F2'' : Fld Z h8 a "com/example/pathsmith/pathsmith/session/PeerTimers$Range" "max" "I" (.int p2) := F2'.same W8
  have KK : Keep h0 h8 [a] := ((Keep.refl h0 [a]).wr W5 (Or.inl (List.mem_of_getElem? (i := 0) rfl))).wr W8 (Or.inl (List.mem_of_getElem? (i := 0) rfl))
  obtain ⟨fs, hr, hrun, hended, hW, hsame⟩ := X8.leave (v := none) (fun _ => rfl)
  have hfin : Steps p.tables e below Ω (T8.setFrames fs) := by
    refine S9.trans ?_
    exact X8.returnOut hx Bd.returns (hb hby d3_45) hr
  rw [hΩ] at hfin
  refine ⟨_, _, hfin, hrun, hended, _, _, rfl, ?_, ⟨_, rfl⟩, hW, hsame.mono (by decide) (by decide)⟩
  show Q3 Z a p1 p2 h0 n0 _ T8.heap _
  rw [e8]
  exact ⟨rfl, N8, KK, E2, F1'', F2''⟩
theorem d6_0 : decode prog_92_method_2_code 0 = .ok (.aload_n 0, 1) := by decide +kernel
theorem d6_1 : decode prog_92_method_2_code 1 = .ok (.getfield 16, 3) := by decide +kernel
theorem d6_4 : decode prog_92_method_2_code 4 = .ok (.iload_n 1, 1) := by decide +kernel
theorem d6_5 : decode prog_92_method_2_code 5 = .ok (.if_icmp .gt 15, 3) := by decide +kernel
theorem d6_20 : decode prog_92_method_2_code 20 = .ok (.iconst 0, 1) := by decide +kernel
theorem d6_21 : decode prog_92_method_2_code 21 = .ok (.ireturn, 1) := by decide +kernel
theorem d6_8 : decode prog_92_method_2_code 8 = .ok (.iload_n 1, 1) := by decide +kernel
theorem d6_9 : decode prog_92_method_2_code 9 = .ok (.aload_n 0, 1) := by decide +kernel
theorem d6_10 : decode prog_92_method_2_code 10 = .ok (.getfield 22, 3) := by decide +kernel
theorem d6_13 : decode prog_92_method_2_code 13 = .ok (.if_icmp .gt 7, 3) := by decide +kernel
theorem d6_16 : decode prog_92_method_2_code 16 = .ok (.iconst 1, 1) := by decide +kernel
theorem d6_17 : decode prog_92_method_2_code 17 = .ok (.goto 4, 3) := by decide +kernel
theorem ef_rm6 (m : MethodId) (x0 : Addr) (x1 : Int32) : entryFrame m #[(.ref x0), (.int x1)] 2 = mkF m 0 #[.val (.ref x0), .val (.int x1)] [] := by first | (simp [entryFrame, mkF, argsToLocals, Value.category]; done) | rfl
def Q6 (Z : State) (a : Addr) (s1 : Int32) (p1 : Int32) (p2 : Int32) (h0 : Heap) (n0 : Nat) (v : Option Value) (h : Heap) (L : List Loc) : Prop := v = some (.int (own_in p1 p2 s1)) ∧ Fr n0 L ∧ h = h0
set_option maxRecDepth 65536 in
set_option maxHeartbeats 40000000 in
theorem rm6 (l : Launch) (Z : State) (a0 : Array Value) (hw : ∀ d ∈ tables_1, d.before a0 Z = true) (ws : List Jvm.Cond) (a : Addr) (s1 : Int32) (p1 : Int32) (p2 : Int32) (h0 : Heap) (n0 : Nat) (Z0 : n0 ≤ h0.size) (F1 : Fld Z h0 a "com/example/pathsmith/pathsmith/session/PeerTimers$Range" "min" "I" (.int p1)) (F2 : Fld Z h0 a "com/example/pathsmith/pathsmith/session/PeerTimers$Range" "max" "I" (.int p2)) :
    MetFree l (⟨"com/example/pathsmith/pathsmith/session/PeerTimers$Range", "contains", "(I)Z"⟩ : MethodName) (head1 (Jvm.Cond.code (⟨"com/example/pathsmith/pathsmith/session/PeerTimers$Range", "contains", "(I)Z"⟩ : MethodName) prog_92_method_2_code 2 (some .boolean) :: ws) ({ frames := 0, cells := 0, slots := 0, locals := 0 } : Room)) (fun aa U => aa = #[(.ref a), (.int s1)] ∧ Z.Warmed39 U.vm ∧ U.heap = h0) (fun _ _ _ _ _ => True) (fun _ U o U' => ∃ v L, o = .returned v ∧ Q6 Z a s1 p1 p2 h0 n0 v U'.heap L ∧ FrameEnd U o U' L ({ frames := 0, cells := 0, slots := 0, locals := 0 } : Room).cells ({ frames := 0, cells := 0, slots := 0, locals := 0 } : Room).slots) := by
  refine MetFree.of_bodySF (plainFor_of_name pn_1) hisR ?_
  intro p e s m args below meth c s₁ Bd hml0 hP hK
  obtain ⟨rfl, hZ, hh⟩ := hP
  have hx := Bd.exec
  have hby := Bd.bytes
  have hml : c.maxLocals = 2 := hml0
  have hown : s.vm.findClass "com/example/pathsmith/pathsmith/session/PeerTimers$Range" = some m.cls := findClass_of_methodNamed Bd.named
  have hnm := (name_of_methodNamed Bd.named Bd.method).1
  have X0 : Stand p l e ({ frames := 0, cells := 0, slots := 0, locals := 0 } : Room) s m #[(.ref a), (.int s1)] below meth c s₁ [] 0 0 := Stand.of_body Bd
  have e0 : s₁.heap = h0 := by rw [← hh, Bd.state]; rfl
  have N0 := Fr.nil n0
  obtain ⟨Ω, hΩ⟩ : ∃ z, z = s₁.setTop (entryFrame m #[(.ref a), (.int s1)] 2) := ⟨_, rfl⟩
  have S0 : Steps p.tables e below Ω (s₁.setTop (mkF m 0 #[.val (.ref a), .val (.int s1)] [])) := by rw [hΩ]; exact castTop (ef_rm6 m a s1) (Steps.refl _)
  have S1 : Steps p.tables e below Ω (s₁.setTop (mkF m 1 #[.val (.ref a), .val (.int s1)] [(.ref a)])) := by
    refine S0.trans ?_
    refine XS.aloadN X0.here hx rfl (hb hby d6_0) rfl rfl ?_
    exact Steps.refl _
  obtain ⟨T2, X2, e2, st2⟩ := getF X0 hx hZ hown (host := "") (Or.inl (hw _ (List.mem_of_getElem? (i := 21) rfl))) Via.refl e0 F1 (g := (mkF m 1 #[.val (.ref a), .val (.int s1)] [(.ref a)])) rfl rfl (hb hby d6_1)
  have S3 : Steps p.tables e below Ω (T2.setTop (mkF m 4 #[.val (.ref a), .val (.int s1)] [(.int p1)])) := S1.trans (st2 _ (Steps.refl _))
  have S4 : Steps p.tables e below Ω (T2.setTop (mkF m 5 #[.val (.ref a), .val (.int s1)] [(.int s1), (.int p1)])) := by
    refine S3.trans ?_
    refine XS.iloadN X2.here hx rfl (hb hby d6_4) rfl ?_
    exact Steps.refl _
  by_cases hc1 : s1 < p1
  · have qhc1 : s1.toInt < p1.toInt := Int32.lt_iff_toInt_lt.mp hc1
    have S5 : Steps p.tables e below Ω (T2.setTop (mkF m 21 #[.val (.ref a), .val (.int s1)] [(.int (0 : Int32))])) := by
      refine S4.trans ?_
      refine XS.icmpYes X2.here hx rfl (pc0 := 5) (pc' := 20) rfl (hb hby d6_5) rfl (XT.ii_gt_t hc1) (by decide) (by decide) ?_
      show Steps p.tables e below (T2.setTop (mkF m 20 #[.val (.ref a), .val (.int s1)] [])) _
      refine XS.iconst X2.here hx rfl (hb hby d6_20) ?_
      exact Steps.refl _
    obtain ⟨fs, hr, hrun, hended, hW, hsame⟩ := X2.leave (v := some (.int (0 : Int32))) (fun h => by rw [Bd.returns] at h; cases h)
    have hfin : Steps p.tables e below Ω (T2.setFrames fs) := by
      refine S5.trans ?_
      exact own_retZ X2 hx Bd.returns (by decide) (hb hby d6_21) hr
    rw [hΩ] at hfin
    refine ⟨_, _, hfin, hrun, hended, _, _, rfl, ?_, ⟨_, rfl⟩, hW, hsame.mono (by decide) (by decide)⟩
    show Q6 Z a s1 p1 p2 h0 n0 _ T2.heap _
    rw [e2]
    exact ⟨by rw [own_in, if_neg (by omega)], N0, rfl⟩
  · have qhc1 : ¬ s1.toInt < p1.toInt := fun q => hc1 (Int32.lt_iff_toInt_lt.mpr q)
    have S6 : Steps p.tables e below Ω (T2.setTop (mkF m 10 #[.val (.ref a), .val (.int s1)] [(.ref a), (.int s1)])) := by
      refine S4.trans ?_
      refine XS.icmpNo X2.here hx rfl (hb hby d6_5) rfl (XT.ii_gt_f hc1) ?_
      show Steps p.tables e below (T2.setTop (mkF m 8 #[.val (.ref a), .val (.int s1)] [])) _
      refine XS.iloadN X2.here hx rfl (hb hby d6_8) rfl ?_
      show Steps p.tables e below (T2.setTop (mkF m 9 #[.val (.ref a), .val (.int s1)] [(.int s1)])) _
      refine XS.aloadN X2.here hx rfl (hb hby d6_9) rfl rfl ?_
      exact Steps.refl _
    obtain ⟨T7, X7, e7, st7⟩ := getF X2 hx hZ hown (host := "") (Or.inl (hw _ (List.mem_of_getElem? (i := 23) rfl))) Via.refl e2 F2 (g := (mkF m 10 #[.val (.ref a), .val (.int s1)] [(.ref a), (.int s1)])) rfl rfl (hb hby d6_10)
    have S8 : Steps p.tables e below Ω (T7.setTop (mkF m 13 #[.val (.ref a), .val (.int s1)] [(.int p2), (.int s1)])) := S6.trans (st7 _ (Steps.refl _))
    by_cases hc2 : p2 < s1
    · have qhc2 : p2.toInt < s1.toInt := Int32.lt_iff_toInt_lt.mp hc2
      have S9 : Steps p.tables e below Ω (T7.setTop (mkF m 21 #[.val (.ref a), .val (.int s1)] [(.int (0 : Int32))])) := by
        refine S8.trans ?_
        refine XS.icmpYes X7.here hx rfl (pc0 := 13) (pc' := 20) rfl (hb hby d6_13) rfl (XT.ii_gt_t hc2) (by decide) (by decide) ?_
        show Steps p.tables e below (T7.setTop (mkF m 20 #[.val (.ref a), .val (.int s1)] [])) _
        refine XS.iconst X7.here hx rfl (hb hby d6_20) ?_
        exact Steps.refl _
      obtain ⟨fs, hr, hrun, hended, hW, hsame⟩ := X7.leave (v := some (.int (0 : Int32))) (fun h => by rw [Bd.returns] at h; cases h)
      have hfin : Steps p.tables e below Ω (T7.setFrames fs) := by
        refine S9.trans ?_
        exact own_retZ X7 hx Bd.returns (by decide) (hb hby d6_21) hr
      rw [hΩ] at hfin
      refine ⟨_, _, hfin, hrun, hended, _, _, rfl, ?_, ⟨_, rfl⟩, hW, hsame.mono (by decide) (by decide)⟩
      show Q6 Z a s1 p1 p2 h0 n0 _ T7.heap _
      rw [e7]
      exact ⟨by rw [own_in, if_neg (by omega)], N0, rfl⟩
    · have qhc2 : ¬ p2.toInt < s1.toInt := fun q => hc2 (Int32.lt_iff_toInt_lt.mpr q)
      have S10 : Steps p.tables e below Ω (T7.setTop (mkF m 21 #[.val (.ref a), .val (.int s1)] [(.int (1 : Int32))])) := by
        refine S8.trans ?_
        refine XS.icmpNo X7.here hx rfl (hb hby d6_13) rfl (XT.ii_gt_f hc2) ?_
        show Steps p.tables e below (T7.setTop (mkF m 16 #[.val (.ref a), .val (.int s1)] [])) _
        refine XS.iconst X7.here hx rfl (hb hby d6_16) ?_
        show Steps p.tables e below (T7.setTop (mkF m 17 #[.val (.ref a), .val (.int s1)] [(.int (1 : Int32))])) _
        refine XS.goto X7.here hx rfl (pc0 := 17) (pc' := 21) rfl (hb hby d6_17) (by decide) (by decide) ?_
        exact Steps.refl _
      obtain ⟨fs, hr, hrun, hended, hW, hsame⟩ := X7.leave (v := some (.int (1 : Int32))) (fun h => by rw [Bd.returns] at h; cases h)
      have hfin : Steps p.tables e below Ω (T7.setFrames fs) := by
        refine S10.trans ?_
        exact own_retZ X7 hx Bd.returns (by decide) (hb hby d6_21) hr
      rw [hΩ] at hfin
      refine ⟨_, _, hfin, hrun, hended, _, _, rfl, ?_, ⟨_, rfl⟩, hW, hsame.mono (by decide) (by decide)⟩
      show Q6 Z a s1 p1 p2 h0 n0 _ T7.heap _
      rw [e7]
      exact ⟨by rw [own_in, if_pos (by omega)], N0, rfl⟩
theorem pd_1 : parseMethodDescriptor "(II)I" = some ⟨[.int, .int], some .int⟩ := by decide +kernel
theorem pd_2 : parseMethodDescriptor "(II)V" = some ⟨[.int, .int], none⟩ := by decide +kernel
theorem pd_3 : parseMethodDescriptor "(I)Z" = some ⟨[.int], some .boolean⟩ := by decide +kernel
theorem pn_2 : plainName "com/example/pathsmith/pathsmith/session/RangeContainsPinLaw" = true := by first | (simp [plainName, overriddenIn]; done) | decide +kernel
theorem ef_rm0 (m : MethodId) (x0 : Int32) (x1 : Int32) (x2 : Int32) (x3 : Int32) : entryFrame m #[(.int x0), (.int x1), (.int x2), (.int x3)] maxLocals = mkF m 0 #[.val (.int x0), .val (.int x1), .val (.int x2), .val (.int x3), .unset, .unset, .unset, .unset, .unset, .unset, .unset, .unset, .unset] [] := by first | (simp [entryFrame, mkF, argsToLocals, Value.category, maxLocals]; done) | rfl
def Q0 (Z : State) (pp : Int32) (qq : Int32) (c1 : Int32) (md : Int32) (h0 : Heap) (n0 : Nat) (v : Option Value) (h : Heap) (L : List Loc) : Prop := v = some (.int 1) ∧ Fr n0 L
set_option maxRecDepth 65536 in
set_option maxHeartbeats 40000000 in
theorem rm0 (l : Launch) (Z : State) (a0 : Array Value) (hw : ∀ d ∈ tables_1, d.before a0 Z = true) (ws : List Jvm.Cond) (pp : Int32) (qq : Int32) (c1 : Int32) (md : Int32) (h0 : Heap) (n0 : Nat) (Z0 : n0 ≤ h0.size) :
    MetFree l x (head1 (Jvm.Cond.code x code maxLocals ret :: ws) room_1) (fun aa U => aa = #[(.int pp), (.int qq), (.int c1), (.int md)] ∧ Z.Warmed39 U.vm ∧ U.heap = h0) (fun _ _ _ _ _ => True) (fun _ U o U' => ∃ v L, o = .returned v ∧ Q0 Z pp qq c1 md h0 n0 v U'.heap L ∧ FrameEnd U o U' L room_1.cells room_1.slots) := by
  refine MetFree.of_bodySF (plainFor_of_name pn_2) hisR ?_
  intro p e s m args below meth c s₁ Bd hml0 hP hK
  obtain ⟨rfl, hZ, hh⟩ := hP
  have hx := Bd.exec
  have hby := Bd.bytes
  have hml : c.maxLocals = 13 := hml0
  have hown : s.vm.findClass "com/example/pathsmith/pathsmith/session/RangeContainsPinLaw" = some m.cls := findClass_of_methodNamed Bd.named
  have hnm := (name_of_methodNamed Bd.named Bd.method).1
  have X0 : Stand p l e room_1 s m #[(.int pp), (.int qq), (.int c1), (.int md)] below meth c s₁ [] 0 0 := Stand.of_body Bd
  have e0 : s₁.heap = h0 := by rw [← hh, Bd.state]; rfl
  have N0 := Fr.nil n0
  obtain ⟨Ω, hΩ⟩ : ∃ z, z = s₁.setTop (entryFrame m #[(.int pp), (.int qq), (.int c1), (.int md)] maxLocals) := ⟨_, rfl⟩
  have S0 : Steps p.tables e below Ω (s₁.setTop (mkF m 0 #[.val (.int pp), .val (.int qq), .val (.int c1), .val (.int md), .unset, .unset, .unset, .unset, .unset, .unset, .unset, .unset, .unset] [])) := by rw [hΩ]; exact castTop (ef_rm0 m pp qq c1 md) (Steps.refl _)
  have S1 : Steps p.tables e below Ω (s₁.setTop (mkF m 14 #[.val (.int pp), .val (.int qq), .val (.int c1), .val (.int md), .val (.int (pp &&& (255 : Int32))), .val (.int (qq &&& (255 : Int32))), .unset, .unset, .unset, .unset, .unset, .unset, .unset] [])) := by
    refine S0.trans ?_
    refine XS.iloadN X0.here hx rfl (hb hby at_0) rfl ?_
    show Steps p.tables e below (s₁.setTop (mkF m 1 #[.val (.int pp), .val (.int qq), .val (.int c1), .val (.int md), .unset, .unset, .unset, .unset, .unset, .unset, .unset, .unset, .unset] [(.int pp)])) _
    refine XS.sipush X0.here hx rfl (hb hby at_1) ?_
    show Steps p.tables e below (s₁.setTop (mkF m 4 #[.val (.int pp), .val (.int qq), .val (.int c1), .val (.int md), .unset, .unset, .unset, .unset, .unset, .unset, .unset, .unset, .unset] [(.int (255 : Int32)), (.int pp)])) _
    refine XS.iand X0.here hx rfl (hb hby at_4) rfl ?_
    show Steps p.tables e below (s₁.setTop (mkF m 5 #[.val (.int pp), .val (.int qq), .val (.int c1), .val (.int md), .unset, .unset, .unset, .unset, .unset, .unset, .unset, .unset, .unset] [(.int (pp &&& (255 : Int32)))])) _
    refine XS.istore X0.here hx rfl (hb hby at_5) rfl (l' := #[.val (.int pp), .val (.int qq), .val (.int c1), .val (.int md), .val (.int (pp &&& (255 : Int32))), .unset, .unset, .unset, .unset, .unset, .unset, .unset, .unset]) rfl ?_
    show Steps p.tables e below (s₁.setTop (mkF m 7 #[.val (.int pp), .val (.int qq), .val (.int c1), .val (.int md), .val (.int (pp &&& (255 : Int32))), .unset, .unset, .unset, .unset, .unset, .unset, .unset, .unset] [])) _
    refine XS.iloadN X0.here hx rfl (hb hby at_7) rfl ?_
    show Steps p.tables e below (s₁.setTop (mkF m 8 #[.val (.int pp), .val (.int qq), .val (.int c1), .val (.int md), .val (.int (pp &&& (255 : Int32))), .unset, .unset, .unset, .unset, .unset, .unset, .unset, .unset] [(.int qq)])) _
    refine XS.sipush X0.here hx rfl (hb hby at_8) ?_
    show Steps p.tables e below (s₁.setTop (mkF m 11 #[.val (.int pp), .val (.int qq), .val (.int c1), .val (.int md), .val (.int (pp &&& (255 : Int32))), .unset, .unset, .unset, .unset, .unset, .unset, .unset, .unset] [(.int (255 : Int32)), (.int qq)])) _
    refine XS.iand X0.here hx rfl (hb hby at_11) rfl ?_
    show Steps p.tables e below (s₁.setTop (mkF m 12 #[.val (.int pp), .val (.int qq), .val (.int c1), .val (.int md), .val (.int (pp &&& (255 : Int32))), .unset, .unset, .unset, .unset, .unset, .unset, .unset, .unset] [(.int (qq &&& (255 : Int32)))])) _
    refine XS.istore X0.here hx rfl (hb hby at_12) rfl (l' := #[.val (.int pp), .val (.int qq), .val (.int c1), .val (.int md), .val (.int (pp &&& (255 : Int32))), .val (.int (qq &&& (255 : Int32))), .unset, .unset, .unset, .unset, .unset, .unset, .unset]) rfl ?_
    exact Steps.refl _
  obtain ⟨x, h_x⟩ : ∃ z : Int32, z = (pp &&& (255 : Int32)) := ⟨_, rfl⟩
  rw [← h_x] at S1
  obtain ⟨y, h_y⟩ : ∃ z : Int32, z = (qq &&& (255 : Int32)) := ⟨_, rfl⟩
  rw [← h_y] at S1
  have S2 : Steps p.tables e below Ω (s₁.setTop (mkF m 18 #[.val (.int pp), .val (.int qq), .val (.int c1), .val (.int md), .val (.int x), .val (.int y), .unset, .unset, .unset, .unset, .unset, .unset, .unset] [(.int y), (.int x)])) := by
    refine S1.trans ?_
    refine XS.iload X0.here hx rfl (hb hby at_14) rfl ?_
    show Steps p.tables e below (s₁.setTop (mkF m 16 #[.val (.int pp), .val (.int qq), .val (.int c1), .val (.int md), .val (.int x), .val (.int y), .unset, .unset, .unset, .unset, .unset, .unset, .unset] [(.int x)])) _
    refine XS.iload X0.here hx rfl (hb hby at_16) rfl ?_
    exact Steps.refl _
  obtain ⟨_, _, ⟨T3, L3, k3, n3⟩, -, X3, ⟨Lc3, hQ3, l3, y3, z3⟩, st3⟩ := Jvm.LawKit.callS X0 hx (y := (⟨"java/lang/Math", "min", "(II)I"⟩ : MethodName)) hown (mvT hZ (hw _ (List.mem_of_getElem? (i := 0) rfl))) (mvT hZ (hw _ (List.mem_of_getElem? (i := 1) rfl))) (mvT hZ (hw _ (List.mem_of_getElem? (i := 2) rfl))) (mvT hZ (hw _ (List.mem_of_getElem? (i := 3) rfl))) (by decide) (backOf (W := 0) (rm1 l Z a0 hw [] x y  h0 n0 Z0 ) hZ (hw _ (List.mem_of_getElem? (i := 3) rfl)) (hw _ (List.mem_of_getElem? (i := 2) rfl)) (by decide) (by decide)) (g := (mkF m 18 #[.val (.int pp), .val (.int qq), .val (.int c1), .val (.int md), .val (.int x), .val (.int y), .unset, .unset, .unset, .unset, .unset, .unset, .unset] [(.int y), (.int x)])) rfl (by rw [hml]; rfl) (argsL := [(.int x), (.int y)]) (rest := []) (lenOf pd_1 rfl) rfl (by show 2 * 0 + _ ≤ _; exact Nat.le_of_eq rfl) (hb hby at_18) (fun _ _ => ⟨rfl, e0, (by decide : 0 + 0 ≤ _), (by decide : 0 + 0 ≤ _)⟩)
  dsimp only [Pt.U, Pt.locs, Pt.cells, Pt.slots] at X3 l3 y3 z3 st3 hQ3
  subst l3 y3 z3
  obtain ⟨rfl, N3q, e3⟩ := hQ3
  have N3 := Fr.app N0 N3q
  have S4 : Steps p.tables e below Ω (T3.setTop (mkF m 21 #[.val (.int pp), .val (.int qq), .val (.int c1), .val (.int md), .val (.int x), .val (.int y), .unset, .unset, .unset, .unset, .unset, .unset, .unset] [(.int (own_min x y))])) := S2.trans (st3 _ (Steps.refl _))
  have S5 : Steps p.tables e below Ω (T3.setTop (mkF m 23 #[.val (.int pp), .val (.int qq), .val (.int c1), .val (.int md), .val (.int x), .val (.int y), .val (.int (own_min x y)), .unset, .unset, .unset, .unset, .unset, .unset] [])) := by
    refine S4.trans ?_
    refine XS.istore X3.here hx rfl (hb hby at_21) rfl (l' := #[.val (.int pp), .val (.int qq), .val (.int c1), .val (.int md), .val (.int x), .val (.int y), .val (.int (own_min x y)), .unset, .unset, .unset, .unset, .unset, .unset]) rfl ?_
    exact Steps.refl _
  obtain ⟨lo, h_lo⟩ : ∃ z : Int32, z = (own_min x y) := ⟨_, rfl⟩
  rw [← h_lo] at S5
  have S6 : Steps p.tables e below Ω (T3.setTop (mkF m 27 #[.val (.int pp), .val (.int qq), .val (.int c1), .val (.int md), .val (.int x), .val (.int y), .val (.int lo), .unset, .unset, .unset, .unset, .unset, .unset] [(.int y), (.int x)])) := by
    refine S5.trans ?_
    refine XS.iload X3.here hx rfl (hb hby at_23) rfl ?_
    show Steps p.tables e below (T3.setTop (mkF m 25 #[.val (.int pp), .val (.int qq), .val (.int c1), .val (.int md), .val (.int x), .val (.int y), .val (.int lo), .unset, .unset, .unset, .unset, .unset, .unset] [(.int x)])) _
    refine XS.iload X3.here hx rfl (hb hby at_25) rfl ?_
    exact Steps.refl _
  obtain ⟨_, _, ⟨T7, L7, k7, n7⟩, -, X7, ⟨Lc7, hQ7, l7, y7, z7⟩, st7⟩ := Jvm.LawKit.callS X3 hx (y := (⟨"java/lang/Math", "max", "(II)I"⟩ : MethodName)) hown (mvT hZ (hw _ (List.mem_of_getElem? (i := 4) rfl))) (mvT hZ (hw _ (List.mem_of_getElem? (i := 5) rfl))) (mvT hZ (hw _ (List.mem_of_getElem? (i := 2) rfl))) (mvT hZ (hw _ (List.mem_of_getElem? (i := 6) rfl))) (by decide) (backOf (W := 0) (rm2 l Z a0 hw [] x y  h0 n0 Z0 ) hZ (hw _ (List.mem_of_getElem? (i := 6) rfl)) (hw _ (List.mem_of_getElem? (i := 2) rfl)) (by decide) (by decide)) (g := (mkF m 27 #[.val (.int pp), .val (.int qq), .val (.int c1), .val (.int md), .val (.int x), .val (.int y), .val (.int lo), .unset, .unset, .unset, .unset, .unset, .unset] [(.int y), (.int x)])) rfl (by rw [hml]; rfl) (argsL := [(.int x), (.int y)]) (rest := []) (lenOf pd_1 rfl) rfl (by show 2 * 0 + _ ≤ _; exact Nat.le_of_eq rfl) (hb hby at_27) (fun _ _ => ⟨rfl, e3, (by decide : 0 + 0 ≤ _), (by decide : 0 + 0 ≤ _)⟩)
  dsimp only [Pt.U, Pt.locs, Pt.cells, Pt.slots] at X7 l7 y7 z7 st7 hQ7
  subst l7 y7 z7
  obtain ⟨rfl, N7q, e7⟩ := hQ7
  have N7 := Fr.app N3 N7q
  have S8 : Steps p.tables e below Ω (T7.setTop (mkF m 30 #[.val (.int pp), .val (.int qq), .val (.int c1), .val (.int md), .val (.int x), .val (.int y), .val (.int lo), .unset, .unset, .unset, .unset, .unset, .unset] [(.int (own_max x y))])) := S6.trans (st7 _ (Steps.refl _))
  have S9 : Steps p.tables e below Ω (T7.setTop (mkF m 32 #[.val (.int pp), .val (.int qq), .val (.int c1), .val (.int md), .val (.int x), .val (.int y), .val (.int lo), .val (.int (own_max x y)), .unset, .unset, .unset, .unset, .unset] [])) := by
    refine S8.trans ?_
    refine XS.istore X7.here hx rfl (hb hby at_30) rfl (l' := #[.val (.int pp), .val (.int qq), .val (.int c1), .val (.int md), .val (.int x), .val (.int y), .val (.int lo), .val (.int (own_max x y)), .unset, .unset, .unset, .unset, .unset]) rfl ?_
    exact Steps.refl _
  obtain ⟨hi, h_hi⟩ : ∃ z : Int32, z = (own_max x y) := ⟨_, rfl⟩
  rw [← h_hi] at S9
  have m1 := own_mask pp
  rw [← h_x] at m1
  have m2 := own_mask qq
  rw [← h_y] at m2
  have m3 := own_minI x y
  rw [← h_lo] at m3
  have m4 := own_maxI x y
  rw [← h_hi] at m4
  obtain ⟨T10, h10, X10, e10, E10, A10, D10, -, st10⟩ := newO X7 hx hZ hown (hw _ (List.mem_of_getElem? (i := 7) rfl)) (hw _ (List.mem_of_getElem? (i := 8) rfl)) (hw _ (List.mem_of_getElem? (i := 9) rfl)) e7 (g := (mkF m 32 #[.val (.int pp), .val (.int qq), .val (.int c1), .val (.int md), .val (.int x), .val (.int y), .val (.int lo), .val (.int hi), .unset, .unset, .unset, .unset, .unset] [])) rfl (hb hby at_32) (by decide) (by decide)
  obtain ⟨b, s_b⟩ : ∃ z, z = h0.size := ⟨_, rfl⟩
  rw [← s_b] at A10 D10 st10
  have g_b : n0 ≤ b := Nat.le_trans Z0 (Nat.le_of_eq s_b.symm)
  have F_min_b : Fld Z h10 b "com/example/pathsmith/pathsmith/session/PeerTimers$Range" "min" "I" (.int (0 : Int32)) := D10 (Or.inr (hw _ (List.mem_of_getElem? (i := 22) rfl))) (ty := .int) (by decide)
  have F_max_b : Fld Z h10 b "com/example/pathsmith/pathsmith/session/PeerTimers$Range" "max" "I" (.int (0 : Int32)) := D10 (Or.inr (hw _ (List.mem_of_getElem? (i := 24) rfl))) (ty := .int) (by decide)
  have S11 : Steps p.tables e below Ω (T10.setTop (mkF m 35 #[.val (.int pp), .val (.int qq), .val (.int c1), .val (.int md), .val (.int x), .val (.int y), .val (.int lo), .val (.int hi), .unset, .unset, .unset, .unset, .unset] [(.ref b)])) := S9.trans (st10 _ (Steps.refl _))
  have S12 : Steps p.tables e below Ω (T10.setTop (mkF m 40 #[.val (.int pp), .val (.int qq), .val (.int c1), .val (.int md), .val (.int x), .val (.int y), .val (.int lo), .val (.int hi), .unset, .unset, .unset, .unset, .unset] [(.int hi), (.int lo), (.ref b), (.ref b)])) := by
    refine S11.trans ?_
    refine XS.dup X10.here hx rfl (hb hby at_35) rfl rfl ?_
    show Steps p.tables e below (T10.setTop (mkF m 36 #[.val (.int pp), .val (.int qq), .val (.int c1), .val (.int md), .val (.int x), .val (.int y), .val (.int lo), .val (.int hi), .unset, .unset, .unset, .unset, .unset] [(.ref b), (.ref b)])) _
    refine XS.iload X10.here hx rfl (hb hby at_36) rfl ?_
    show Steps p.tables e below (T10.setTop (mkF m 38 #[.val (.int pp), .val (.int qq), .val (.int c1), .val (.int md), .val (.int x), .val (.int y), .val (.int lo), .val (.int hi), .unset, .unset, .unset, .unset, .unset] [(.int lo), (.ref b), (.ref b)])) _
    refine XS.iload X10.here hx rfl (hb hby at_38) rfl ?_
    exact Steps.refl _
  have b1 : ¬ lo < 0 := fun z => by have := Int32.lt_iff_toInt_lt.mp z; have z0 : (0 : Int32).toInt = 0 := (by decide); omega
  have b2 : ¬ hi < lo := fun z => by have := Int32.lt_iff_toInt_lt.mp z; omega
  have b3 : ¬ (255 : Int32) < hi := fun z => by have := Int32.lt_iff_toInt_lt.mp z; have z0 : (255 : Int32).toInt = 255 := (by decide); omega
  obtain ⟨_, _, ⟨T13, L13, k13, n13⟩, -, X13, ⟨Lc13, hQ13, l13, y13, z13⟩, st13⟩ := X10.specialBack hx (y := (⟨"com/example/pathsmith/pathsmith/session/PeerTimers$Range", "<init>", "(II)V"⟩ : MethodName)) rfl hown (mvT hZ (hw _ (List.mem_of_getElem? (i := 10) rfl))) (mvT hZ (hw _ (List.mem_of_getElem? (i := 11) rfl))) (mvT hZ (hw _ (List.mem_of_getElem? (i := 12) rfl))) (by decide) (backOf (W := 1) (rm3 l Z a0 hw [] b lo hi  h10 n0 (Nat.le_trans Z0 E10.1) A10 F_min_b F_max_b g_b b1 b2 b3) hZ (hw _ (List.mem_of_getElem? (i := 12) rfl)) (hw _ (List.mem_of_getElem? (i := 9) rfl)) (by decide) (by decide)) (g := (mkF m 40 #[.val (.int pp), .val (.int qq), .val (.int c1), .val (.int md), .val (.int x), .val (.int y), .val (.int lo), .val (.int hi), .unset, .unset, .unset, .unset, .unset] [(.int hi), (.int lo), (.ref b), (.ref b)])) rfl (by rw [hml]; rfl) (Steps.refl _) (a := b) (argsL := [(.int lo), (.int hi)]) (rest := [(.ref b)]) (lenOf pd_2 rfl) rfl (by show 2 * 0 + _ ≤ _; exact Nat.le_of_eq rfl) (hb hby at_40) (fun _ _ => ⟨rfl, e10, (by decide : 1 + 0 ≤ _), (by decide : 2 + 0 ≤ _)⟩)
  dsimp only [Pt.U, Pt.locs, Pt.cells, Pt.slots] at X13 l13 y13 z13 st13 hQ13
  subst l13 y13 z13
  obtain ⟨rfl, N13q, K13, E13, F1, F2⟩ := hQ13
  have N13 := Fr.app N7 N13q
  have S14 : Steps p.tables e below Ω (T13.setTop (mkF m 43 #[.val (.int pp), .val (.int qq), .val (.int c1), .val (.int md), .val (.int x), .val (.int y), .val (.int lo), .val (.int hi), .unset, .unset, .unset, .unset, .unset] [(.ref b)])) := S12.trans st13
  have S15 : Steps p.tables e below Ω (T13.setTop (mkF m 50 #[.val (.int pp), .val (.int qq), .val (.int c1), .val (.int md), .val (.int x), .val (.int y), .val (.int lo), .val (.int hi), .val (.ref b), .val (.int (md &&& (3 : Int32))), .unset, .unset, .unset] [])) := by
    refine S14.trans ?_
    refine XS.astore X13.here hx rfl (hb hby at_43) rfl rfl (l' := #[.val (.int pp), .val (.int qq), .val (.int c1), .val (.int md), .val (.int x), .val (.int y), .val (.int lo), .val (.int hi), .val (.ref b), .unset, .unset, .unset, .unset]) rfl ?_
    show Steps p.tables e below (T13.setTop (mkF m 45 #[.val (.int pp), .val (.int qq), .val (.int c1), .val (.int md), .val (.int x), .val (.int y), .val (.int lo), .val (.int hi), .val (.ref b), .unset, .unset, .unset, .unset] [])) _
    refine XS.iloadN X13.here hx rfl (hb hby at_45) rfl ?_
    show Steps p.tables e below (T13.setTop (mkF m 46 #[.val (.int pp), .val (.int qq), .val (.int c1), .val (.int md), .val (.int x), .val (.int y), .val (.int lo), .val (.int hi), .val (.ref b), .unset, .unset, .unset, .unset] [(.int md)])) _
    refine XS.iconst X13.here hx rfl (hb hby at_46) ?_
    show Steps p.tables e below (T13.setTop (mkF m 47 #[.val (.int pp), .val (.int qq), .val (.int c1), .val (.int md), .val (.int x), .val (.int y), .val (.int lo), .val (.int hi), .val (.ref b), .unset, .unset, .unset, .unset] [(.int (3 : Int32)), (.int md)])) _
    refine XS.iand X13.here hx rfl (hb hby at_47) rfl ?_
    show Steps p.tables e below (T13.setTop (mkF m 48 #[.val (.int pp), .val (.int qq), .val (.int c1), .val (.int md), .val (.int x), .val (.int y), .val (.int lo), .val (.int hi), .val (.ref b), .unset, .unset, .unset, .unset] [(.int (md &&& (3 : Int32)))])) _
    refine XS.istore X13.here hx rfl (hb hby at_48) rfl (l' := #[.val (.int pp), .val (.int qq), .val (.int c1), .val (.int md), .val (.int x), .val (.int y), .val (.int lo), .val (.int hi), .val (.ref b), .val (.int (md &&& (3 : Int32))), .unset, .unset, .unset]) rfl ?_
    exact Steps.refl _
  obtain ⟨se, h_se⟩ : ∃ z : Int32, z = (md &&& (3 : Int32)) := ⟨_, rfl⟩
  rw [← h_se] at S15
  obtain ⟨s1, h_s1, S18⟩ : ∃ (s1 : Int32), s1 = (if se = (1 : Int32) then (lo + (c1 % (3 : Int32))) else (if se = (2 : Int32) then (hi + (c1 % (3 : Int32))) else c1)) ∧ Steps p.tables e below Ω (T13.setTop (mkF m 87 #[.val (.int pp), .val (.int qq), .val (.int c1), .val (.int md), .val (.int x), .val (.int y), .val (.int lo), .val (.int hi), .val (.ref b), .val (.int se), .val (.int s1), .unset, .unset] [])) := by
    by_cases c16 : se = (1 : Int32)
    · refine ⟨(lo + (c1 % (3 : Int32))), (by rw [if_pos c16]), S15.trans ?_⟩
      refine XS.iload X13.here hx rfl (hb hby at_50) rfl ?_
      show Steps p.tables e below (T13.setTop (mkF m 52 #[.val (.int pp), .val (.int qq), .val (.int c1), .val (.int md), .val (.int x), .val (.int y), .val (.int lo), .val (.int hi), .val (.ref b), .val (.int se), .unset, .unset, .unset] [(.int se)])) _
      refine XS.iconst X13.here hx rfl (hb hby at_52) ?_
      show Steps p.tables e below (T13.setTop (mkF m 53 #[.val (.int pp), .val (.int qq), .val (.int c1), .val (.int md), .val (.int x), .val (.int y), .val (.int lo), .val (.int hi), .val (.ref b), .val (.int se), .unset, .unset, .unset] [(.int (1 : Int32)), (.int se)])) _
      refine XS.icmpNo X13.here hx rfl (hb hby at_53) rfl (XT.ii_ne_f c16) ?_
      show Steps p.tables e below (T13.setTop (mkF m 56 #[.val (.int pp), .val (.int qq), .val (.int c1), .val (.int md), .val (.int x), .val (.int y), .val (.int lo), .val (.int hi), .val (.ref b), .val (.int se), .unset, .unset, .unset] [])) _
      refine XS.iload X13.here hx rfl (hb hby at_56) rfl ?_
      show Steps p.tables e below (T13.setTop (mkF m 58 #[.val (.int pp), .val (.int qq), .val (.int c1), .val (.int md), .val (.int x), .val (.int y), .val (.int lo), .val (.int hi), .val (.ref b), .val (.int se), .unset, .unset, .unset] [(.int lo)])) _
      refine XS.iloadN X13.here hx rfl (hb hby at_58) rfl ?_
      show Steps p.tables e below (T13.setTop (mkF m 59 #[.val (.int pp), .val (.int qq), .val (.int c1), .val (.int md), .val (.int x), .val (.int y), .val (.int lo), .val (.int hi), .val (.ref b), .val (.int se), .unset, .unset, .unset] [(.int c1), (.int lo)])) _
      refine XS.iconst X13.here hx rfl (hb hby at_59) ?_
      show Steps p.tables e below (T13.setTop (mkF m 60 #[.val (.int pp), .val (.int qq), .val (.int c1), .val (.int md), .val (.int x), .val (.int y), .val (.int lo), .val (.int hi), .val (.ref b), .val (.int se), .unset, .unset, .unset] [(.int (3 : Int32)), (.int c1), (.int lo)])) _
      refine iremM X13 hx rfl (hb hby at_60) rfl (by decide) ?_
      show Steps p.tables e below (T13.setTop (mkF m 61 #[.val (.int pp), .val (.int qq), .val (.int c1), .val (.int md), .val (.int x), .val (.int y), .val (.int lo), .val (.int hi), .val (.ref b), .val (.int se), .unset, .unset, .unset] [(.int (c1 % (3 : Int32))), (.int lo)])) _
      refine XS.iadd X13.here hx rfl (hb hby at_61) rfl ?_
      show Steps p.tables e below (T13.setTop (mkF m 62 #[.val (.int pp), .val (.int qq), .val (.int c1), .val (.int md), .val (.int x), .val (.int y), .val (.int lo), .val (.int hi), .val (.ref b), .val (.int se), .unset, .unset, .unset] [(.int (lo + (c1 % (3 : Int32))))])) _
      refine XS.istore X13.here hx rfl (hb hby at_62) rfl (l' := #[.val (.int pp), .val (.int qq), .val (.int c1), .val (.int md), .val (.int x), .val (.int y), .val (.int lo), .val (.int hi), .val (.ref b), .val (.int se), .val (.int (lo + (c1 % (3 : Int32)))), .unset, .unset]) rfl ?_
      show Steps p.tables e below (T13.setTop (mkF m 64 #[.val (.int pp), .val (.int qq), .val (.int c1), .val (.int md), .val (.int x), .val (.int y), .val (.int lo), .val (.int hi), .val (.ref b), .val (.int se), .val (.int (lo + (c1 % (3 : Int32)))), .unset, .unset] [])) _
      refine XS.goto X13.here hx rfl (pc0 := 64) (pc' := 87) rfl (hb hby at_64) (by decide) (by decide) ?_
      exact Steps.refl _
    · by_cases c17 : se = (2 : Int32)
      · refine ⟨(hi + (c1 % (3 : Int32))), (by rw [if_neg c16, if_pos c17]), S15.trans ?_⟩
        refine XS.iload X13.here hx rfl (hb hby at_50) rfl ?_
        show Steps p.tables e below (T13.setTop (mkF m 52 #[.val (.int pp), .val (.int qq), .val (.int c1), .val (.int md), .val (.int x), .val (.int y), .val (.int lo), .val (.int hi), .val (.ref b), .val (.int se), .unset, .unset, .unset] [(.int se)])) _
        refine XS.iconst X13.here hx rfl (hb hby at_52) ?_
        show Steps p.tables e below (T13.setTop (mkF m 53 #[.val (.int pp), .val (.int qq), .val (.int c1), .val (.int md), .val (.int x), .val (.int y), .val (.int lo), .val (.int hi), .val (.ref b), .val (.int se), .unset, .unset, .unset] [(.int (1 : Int32)), (.int se)])) _
        refine XS.icmpYes X13.here hx rfl (pc0 := 53) (pc' := 67) rfl (hb hby at_53) rfl (XT.ii_ne_t c16) (by decide) (by decide) ?_
        show Steps p.tables e below (T13.setTop (mkF m 67 #[.val (.int pp), .val (.int qq), .val (.int c1), .val (.int md), .val (.int x), .val (.int y), .val (.int lo), .val (.int hi), .val (.ref b), .val (.int se), .unset, .unset, .unset] [])) _
        refine XS.iload X13.here hx rfl (hb hby at_67) rfl ?_
        show Steps p.tables e below (T13.setTop (mkF m 69 #[.val (.int pp), .val (.int qq), .val (.int c1), .val (.int md), .val (.int x), .val (.int y), .val (.int lo), .val (.int hi), .val (.ref b), .val (.int se), .unset, .unset, .unset] [(.int se)])) _
        refine XS.iconst X13.here hx rfl (hb hby at_69) ?_
        show Steps p.tables e below (T13.setTop (mkF m 70 #[.val (.int pp), .val (.int qq), .val (.int c1), .val (.int md), .val (.int x), .val (.int y), .val (.int lo), .val (.int hi), .val (.ref b), .val (.int se), .unset, .unset, .unset] [(.int (2 : Int32)), (.int se)])) _
        refine XS.icmpNo X13.here hx rfl (hb hby at_70) rfl (XT.ii_ne_f c17) ?_
        show Steps p.tables e below (T13.setTop (mkF m 73 #[.val (.int pp), .val (.int qq), .val (.int c1), .val (.int md), .val (.int x), .val (.int y), .val (.int lo), .val (.int hi), .val (.ref b), .val (.int se), .unset, .unset, .unset] [])) _
        refine XS.iload X13.here hx rfl (hb hby at_73) rfl ?_
        show Steps p.tables e below (T13.setTop (mkF m 75 #[.val (.int pp), .val (.int qq), .val (.int c1), .val (.int md), .val (.int x), .val (.int y), .val (.int lo), .val (.int hi), .val (.ref b), .val (.int se), .unset, .unset, .unset] [(.int hi)])) _
        refine XS.iloadN X13.here hx rfl (hb hby at_75) rfl ?_
        show Steps p.tables e below (T13.setTop (mkF m 76 #[.val (.int pp), .val (.int qq), .val (.int c1), .val (.int md), .val (.int x), .val (.int y), .val (.int lo), .val (.int hi), .val (.ref b), .val (.int se), .unset, .unset, .unset] [(.int c1), (.int hi)])) _
        refine XS.iconst X13.here hx rfl (hb hby at_76) ?_
        show Steps p.tables e below (T13.setTop (mkF m 77 #[.val (.int pp), .val (.int qq), .val (.int c1), .val (.int md), .val (.int x), .val (.int y), .val (.int lo), .val (.int hi), .val (.ref b), .val (.int se), .unset, .unset, .unset] [(.int (3 : Int32)), (.int c1), (.int hi)])) _
        refine iremM X13 hx rfl (hb hby at_77) rfl (by decide) ?_
        show Steps p.tables e below (T13.setTop (mkF m 78 #[.val (.int pp), .val (.int qq), .val (.int c1), .val (.int md), .val (.int x), .val (.int y), .val (.int lo), .val (.int hi), .val (.ref b), .val (.int se), .unset, .unset, .unset] [(.int (c1 % (3 : Int32))), (.int hi)])) _
        refine XS.iadd X13.here hx rfl (hb hby at_78) rfl ?_
        show Steps p.tables e below (T13.setTop (mkF m 79 #[.val (.int pp), .val (.int qq), .val (.int c1), .val (.int md), .val (.int x), .val (.int y), .val (.int lo), .val (.int hi), .val (.ref b), .val (.int se), .unset, .unset, .unset] [(.int (hi + (c1 % (3 : Int32))))])) _
        refine XS.istore X13.here hx rfl (hb hby at_79) rfl (l' := #[.val (.int pp), .val (.int qq), .val (.int c1), .val (.int md), .val (.int x), .val (.int y), .val (.int lo), .val (.int hi), .val (.ref b), .val (.int se), .val (.int (hi + (c1 % (3 : Int32)))), .unset, .unset]) rfl ?_
        show Steps p.tables e below (T13.setTop (mkF m 81 #[.val (.int pp), .val (.int qq), .val (.int c1), .val (.int md), .val (.int x), .val (.int y), .val (.int lo), .val (.int hi), .val (.ref b), .val (.int se), .val (.int (hi + (c1 % (3 : Int32)))), .unset, .unset] [])) _
        refine XS.goto X13.here hx rfl (pc0 := 81) (pc' := 87) rfl (hb hby at_81) (by decide) (by decide) ?_
        exact Steps.refl _
      · refine ⟨c1, (by rw [if_neg c16, if_neg c17]), S15.trans ?_⟩
        refine XS.iload X13.here hx rfl (hb hby at_50) rfl ?_
        show Steps p.tables e below (T13.setTop (mkF m 52 #[.val (.int pp), .val (.int qq), .val (.int c1), .val (.int md), .val (.int x), .val (.int y), .val (.int lo), .val (.int hi), .val (.ref b), .val (.int se), .unset, .unset, .unset] [(.int se)])) _
        refine XS.iconst X13.here hx rfl (hb hby at_52) ?_
        show Steps p.tables e below (T13.setTop (mkF m 53 #[.val (.int pp), .val (.int qq), .val (.int c1), .val (.int md), .val (.int x), .val (.int y), .val (.int lo), .val (.int hi), .val (.ref b), .val (.int se), .unset, .unset, .unset] [(.int (1 : Int32)), (.int se)])) _
        refine XS.icmpYes X13.here hx rfl (pc0 := 53) (pc' := 67) rfl (hb hby at_53) rfl (XT.ii_ne_t c16) (by decide) (by decide) ?_
        show Steps p.tables e below (T13.setTop (mkF m 67 #[.val (.int pp), .val (.int qq), .val (.int c1), .val (.int md), .val (.int x), .val (.int y), .val (.int lo), .val (.int hi), .val (.ref b), .val (.int se), .unset, .unset, .unset] [])) _
        refine XS.iload X13.here hx rfl (hb hby at_67) rfl ?_
        show Steps p.tables e below (T13.setTop (mkF m 69 #[.val (.int pp), .val (.int qq), .val (.int c1), .val (.int md), .val (.int x), .val (.int y), .val (.int lo), .val (.int hi), .val (.ref b), .val (.int se), .unset, .unset, .unset] [(.int se)])) _
        refine XS.iconst X13.here hx rfl (hb hby at_69) ?_
        show Steps p.tables e below (T13.setTop (mkF m 70 #[.val (.int pp), .val (.int qq), .val (.int c1), .val (.int md), .val (.int x), .val (.int y), .val (.int lo), .val (.int hi), .val (.ref b), .val (.int se), .unset, .unset, .unset] [(.int (2 : Int32)), (.int se)])) _
        refine XS.icmpYes X13.here hx rfl (pc0 := 70) (pc' := 84) rfl (hb hby at_70) rfl (XT.ii_ne_t c17) (by decide) (by decide) ?_
        show Steps p.tables e below (T13.setTop (mkF m 84 #[.val (.int pp), .val (.int qq), .val (.int c1), .val (.int md), .val (.int x), .val (.int y), .val (.int lo), .val (.int hi), .val (.ref b), .val (.int se), .unset, .unset, .unset] [])) _
        refine XS.iloadN X13.here hx rfl (hb hby at_84) rfl ?_
        show Steps p.tables e below (T13.setTop (mkF m 85 #[.val (.int pp), .val (.int qq), .val (.int c1), .val (.int md), .val (.int x), .val (.int y), .val (.int lo), .val (.int hi), .val (.ref b), .val (.int se), .unset, .unset, .unset] [(.int c1)])) _
        refine XS.istore X13.here hx rfl (hb hby at_85) rfl (l' := #[.val (.int pp), .val (.int qq), .val (.int c1), .val (.int md), .val (.int x), .val (.int y), .val (.int lo), .val (.int hi), .val (.ref b), .val (.int se), .val (.int c1), .unset, .unset]) rfl ?_
        exact Steps.refl _
  have S19 : Steps p.tables e below Ω (T13.setTop (mkF m 91 #[.val (.int pp), .val (.int qq), .val (.int c1), .val (.int md), .val (.int x), .val (.int y), .val (.int lo), .val (.int hi), .val (.ref b), .val (.int se), .val (.int s1), .unset, .unset] [(.int s1), (.ref b)])) := by
    refine S18.trans ?_
    refine XS.aload X13.here hx rfl (hb hby at_87) rfl rfl ?_
    show Steps p.tables e below (T13.setTop (mkF m 89 #[.val (.int pp), .val (.int qq), .val (.int c1), .val (.int md), .val (.int x), .val (.int y), .val (.int lo), .val (.int hi), .val (.ref b), .val (.int se), .val (.int s1), .unset, .unset] [(.ref b)])) _
    refine XS.iload X13.here hx rfl (hb hby at_89) rfl ?_
    exact Steps.refl _
  obtain ⟨cq20, kq20, q20a, q20b, q20c⟩ := isOf hZ rfl E13
  obtain ⟨_, _, ⟨T20, L20, k20, n20⟩, -, X20, ⟨Lc20, hQ20, l20, y20, z20⟩, st20⟩ := X13.virtualBack hx (y := (⟨"com/example/pathsmith/pathsmith/session/PeerTimers$Range", "contains", "(I)Z"⟩ : MethodName)) (z := (⟨"com/example/pathsmith/pathsmith/session/PeerTimers$Range", "contains", "(I)Z"⟩ : MethodName)) hown (mvT hZ (hw _ (List.mem_of_getElem? (i := 25) rfl))) (mvT hZ (hw _ (List.mem_of_getElem? (i := 26) rfl))) (notFace_of_selects (args := #[]) (mvT hZ (hw _ (List.mem_of_getElem? (i := 28) rfl)))) (mvT hZ (hw _ (List.mem_of_getElem? (i := 28) rfl))) (mvT hZ (hw _ (List.mem_of_getElem? (i := 27) rfl))) (by decide) (backOf (W := 0) (rm6 l Z a0 hw [] b s1 lo hi T13.heap n0 (Nat.le_trans (Nat.le_trans Z0 E10.1) K13.1) F1 F2) hZ (hw _ (List.mem_of_getElem? (i := 29) rfl)) (hw _ (List.mem_of_getElem? (i := 9) rfl)) (by decide) (by decide)) q20a q20c (g := (mkF m 91 #[.val (.int pp), .val (.int qq), .val (.int c1), .val (.int md), .val (.int x), .val (.int y), .val (.int lo), .val (.int hi), .val (.ref b), .val (.int se), .val (.int s1), .unset, .unset] [(.int s1), (.ref b)])) rfl (by rw [hml]; rfl) (Steps.refl _) (argsL := [(.int s1)]) (rest := []) (lenOf pd_3 rfl) rfl (by show 2 * 0 + _ ≤ _; exact Nat.le_of_eq rfl) (hb hby at_91) (fun _ _ => ⟨rfl, rfl, (by decide : 1 + 0 ≤ _), (by decide : 2 + 0 ≤ _)⟩)
  dsimp only [Pt.U, Pt.locs, Pt.cells, Pt.slots] at X20 l20 y20 z20 st20 hQ20
  subst l20 y20 z20
  obtain ⟨rfl, N20q, e20⟩ := hQ20
  have N20 := Fr.app N13 N20q
  have S21 : Steps p.tables e below Ω (T20.setTop (mkF m 94 #[.val (.int pp), .val (.int qq), .val (.int c1), .val (.int md), .val (.int x), .val (.int y), .val (.int lo), .val (.int hi), .val (.ref b), .val (.int se), .val (.int s1), .unset, .unset] [(.int (own_in lo hi s1))])) := S19.trans st20
  have S22 : Steps p.tables e below Ω (T20.setTop (mkF m 102 #[.val (.int pp), .val (.int qq), .val (.int c1), .val (.int md), .val (.int x), .val (.int y), .val (.int lo), .val (.int hi), .val (.ref b), .val (.int se), .val (.int s1), .val (.int (own_in lo hi s1)), .unset] [(.int s1), (.int hi), (.int lo)])) := by
    refine S21.trans ?_
    refine XS.istore X20.here hx rfl (hb hby at_94) rfl (l' := #[.val (.int pp), .val (.int qq), .val (.int c1), .val (.int md), .val (.int x), .val (.int y), .val (.int lo), .val (.int hi), .val (.ref b), .val (.int se), .val (.int s1), .val (.int (own_in lo hi s1)), .unset]) rfl ?_
    show Steps p.tables e below (T20.setTop (mkF m 96 #[.val (.int pp), .val (.int qq), .val (.int c1), .val (.int md), .val (.int x), .val (.int y), .val (.int lo), .val (.int hi), .val (.ref b), .val (.int se), .val (.int s1), .val (.int (own_in lo hi s1)), .unset] [])) _
    refine XS.iload X20.here hx rfl (hb hby at_96) rfl ?_
    show Steps p.tables e below (T20.setTop (mkF m 98 #[.val (.int pp), .val (.int qq), .val (.int c1), .val (.int md), .val (.int x), .val (.int y), .val (.int lo), .val (.int hi), .val (.ref b), .val (.int se), .val (.int s1), .val (.int (own_in lo hi s1)), .unset] [(.int lo)])) _
    refine XS.iload X20.here hx rfl (hb hby at_98) rfl ?_
    show Steps p.tables e below (T20.setTop (mkF m 100 #[.val (.int pp), .val (.int qq), .val (.int c1), .val (.int md), .val (.int x), .val (.int y), .val (.int lo), .val (.int hi), .val (.ref b), .val (.int se), .val (.int s1), .val (.int (own_in lo hi s1)), .unset] [(.int hi), (.int lo)])) _
    refine XS.iload X20.here hx rfl (hb hby at_100) rfl ?_
    exact Steps.refl _
  obtain ⟨_, _, ⟨T23, L23, k23, n23⟩, -, X23, ⟨Lc23, hQ23, l23, y23, z23⟩, st23⟩ := Jvm.LawKit.callS X20 hx (y := (⟨"java/lang/Math", "min", "(II)I"⟩ : MethodName)) hown (mvT hZ (hw _ (List.mem_of_getElem? (i := 0) rfl))) (mvT hZ (hw _ (List.mem_of_getElem? (i := 1) rfl))) (mvT hZ (hw _ (List.mem_of_getElem? (i := 2) rfl))) (mvT hZ (hw _ (List.mem_of_getElem? (i := 3) rfl))) (by decide) (backOf (W := 1) (rm1 l Z a0 hw [] hi s1  T13.heap n0 (Nat.le_trans (Nat.le_trans Z0 E10.1) K13.1) ) hZ (hw _ (List.mem_of_getElem? (i := 3) rfl)) (hw _ (List.mem_of_getElem? (i := 2) rfl)) (by decide) (by decide)) (g := (mkF m 102 #[.val (.int pp), .val (.int qq), .val (.int c1), .val (.int md), .val (.int x), .val (.int y), .val (.int lo), .val (.int hi), .val (.ref b), .val (.int se), .val (.int s1), .val (.int (own_in lo hi s1)), .unset] [(.int s1), (.int hi), (.int lo)])) rfl (by rw [hml]; rfl) (argsL := [(.int hi), (.int s1)]) (rest := [(.int lo)]) (lenOf pd_1 rfl) rfl (by show 2 * 0 + _ ≤ _; exact Nat.le_of_eq rfl) (hb hby at_102) (fun _ _ => ⟨rfl, e20, (by decide : 1 + 0 ≤ _), (by decide : 2 + 0 ≤ _)⟩)
  dsimp only [Pt.U, Pt.locs, Pt.cells, Pt.slots] at X23 l23 y23 z23 st23 hQ23
  subst l23 y23 z23
  obtain ⟨rfl, N23q, e23⟩ := hQ23
  have N23 := Fr.app N20 N23q
  have S24 : Steps p.tables e below Ω (T23.setTop (mkF m 105 #[.val (.int pp), .val (.int qq), .val (.int c1), .val (.int md), .val (.int x), .val (.int y), .val (.int lo), .val (.int hi), .val (.ref b), .val (.int se), .val (.int s1), .val (.int (own_in lo hi s1)), .unset] [(.int (own_min hi s1)), (.int lo)])) := S22.trans (st23 _ (Steps.refl _))
  obtain ⟨_, _, ⟨T25, L25, k25, n25⟩, -, X25, ⟨Lc25, hQ25, l25, y25, z25⟩, st25⟩ := Jvm.LawKit.callS X23 hx (y := (⟨"java/lang/Math", "max", "(II)I"⟩ : MethodName)) hown (mvT hZ (hw _ (List.mem_of_getElem? (i := 4) rfl))) (mvT hZ (hw _ (List.mem_of_getElem? (i := 5) rfl))) (mvT hZ (hw _ (List.mem_of_getElem? (i := 2) rfl))) (mvT hZ (hw _ (List.mem_of_getElem? (i := 6) rfl))) (by decide) (backOf (W := 0) (rm2 l Z a0 hw [] lo (own_min hi s1)  T13.heap n0 (Nat.le_trans (Nat.le_trans Z0 E10.1) K13.1) ) hZ (hw _ (List.mem_of_getElem? (i := 6) rfl)) (hw _ (List.mem_of_getElem? (i := 2) rfl)) (by decide) (by decide)) (g := (mkF m 105 #[.val (.int pp), .val (.int qq), .val (.int c1), .val (.int md), .val (.int x), .val (.int y), .val (.int lo), .val (.int hi), .val (.ref b), .val (.int se), .val (.int s1), .val (.int (own_in lo hi s1)), .unset] [(.int (own_min hi s1)), (.int lo)])) rfl (by rw [hml]; rfl) (argsL := [(.int lo), (.int (own_min hi s1))]) (rest := []) (lenOf pd_1 rfl) rfl (by show 2 * 0 + _ ≤ _; exact Nat.le_of_eq rfl) (hb hby at_105) (fun _ _ => ⟨rfl, e23, (by decide : 1 + 0 ≤ _), (by decide : 2 + 0 ≤ _)⟩)
  dsimp only [Pt.U, Pt.locs, Pt.cells, Pt.slots] at X25 l25 y25 z25 st25 hQ25
  subst l25 y25 z25
  obtain ⟨rfl, N25q, e25⟩ := hQ25
  have N25 := Fr.app N23 N25q
  have S26 : Steps p.tables e below Ω (T25.setTop (mkF m 108 #[.val (.int pp), .val (.int qq), .val (.int c1), .val (.int md), .val (.int x), .val (.int y), .val (.int lo), .val (.int hi), .val (.ref b), .val (.int se), .val (.int s1), .val (.int (own_in lo hi s1)), .unset] [(.int (own_max lo (own_min hi s1)))])) := S24.trans (st25 _ (Steps.refl _))
  have S27 : Steps p.tables e below Ω (T25.setTop (mkF m 110 #[.val (.int pp), .val (.int qq), .val (.int c1), .val (.int md), .val (.int x), .val (.int y), .val (.int lo), .val (.int hi), .val (.ref b), .val (.int se), .val (.int s1), .val (.int (own_in lo hi s1)), .unset] [(.int s1), (.int (own_max lo (own_min hi s1)))])) := by
    refine S26.trans ?_
    refine XS.iload X25.here hx rfl (hb hby at_108) rfl ?_
    exact Steps.refl _
  obtain ⟨ex, h_ex, S29⟩ : ∃ (ex : Int32), ex = (if (own_max lo (own_min hi s1)) = s1 then (1 : Int32) else (0 : Int32)) ∧ Steps p.tables e below Ω (T25.setTop (mkF m 118 #[.val (.int pp), .val (.int qq), .val (.int c1), .val (.int md), .val (.int x), .val (.int y), .val (.int lo), .val (.int hi), .val (.ref b), .val (.int se), .val (.int s1), .val (.int (own_in lo hi s1)), .unset] [(.int ex)])) := by
    by_cases c28 : (own_max lo (own_min hi s1)) = s1
    · refine ⟨(1 : Int32), (by rw [if_pos c28]), S27.trans ?_⟩
      refine XS.icmpNo X25.here hx rfl (hb hby at_110) rfl (XT.ii_ne_f c28) ?_
      show Steps p.tables e below (T25.setTop (mkF m 113 #[.val (.int pp), .val (.int qq), .val (.int c1), .val (.int md), .val (.int x), .val (.int y), .val (.int lo), .val (.int hi), .val (.ref b), .val (.int se), .val (.int s1), .val (.int (own_in lo hi s1)), .unset] [])) _
      refine XS.iconst X25.here hx rfl (hb hby at_113) ?_
      show Steps p.tables e below (T25.setTop (mkF m 114 #[.val (.int pp), .val (.int qq), .val (.int c1), .val (.int md), .val (.int x), .val (.int y), .val (.int lo), .val (.int hi), .val (.ref b), .val (.int se), .val (.int s1), .val (.int (own_in lo hi s1)), .unset] [(.int (1 : Int32))])) _
      refine XS.goto X25.here hx rfl (pc0 := 114) (pc' := 118) rfl (hb hby at_114) (by decide) (by decide) ?_
      exact Steps.refl _
    · refine ⟨(0 : Int32), (by rw [if_neg c28]), S27.trans ?_⟩
      refine XS.icmpYes X25.here hx rfl (pc0 := 110) (pc' := 117) rfl (hb hby at_110) rfl (XT.ii_ne_t c28) (by decide) (by decide) ?_
      show Steps p.tables e below (T25.setTop (mkF m 117 #[.val (.int pp), .val (.int qq), .val (.int c1), .val (.int md), .val (.int x), .val (.int y), .val (.int lo), .val (.int hi), .val (.ref b), .val (.int se), .val (.int s1), .val (.int (own_in lo hi s1)), .unset] [])) _
      refine XS.iconst X25.here hx rfl (hb hby at_117) ?_
      exact Steps.refl _
  have S30 : Steps p.tables e below Ω (T25.setTop (mkF m 124 #[.val (.int pp), .val (.int qq), .val (.int c1), .val (.int md), .val (.int x), .val (.int y), .val (.int lo), .val (.int hi), .val (.ref b), .val (.int se), .val (.int s1), .val (.int (own_in lo hi s1)), .val (.int ex)] [(.int ex), (.int (own_in lo hi s1))])) := by
    refine S29.trans ?_
    refine XS.istore X25.here hx rfl (hb hby at_118) rfl (l' := #[.val (.int pp), .val (.int qq), .val (.int c1), .val (.int md), .val (.int x), .val (.int y), .val (.int lo), .val (.int hi), .val (.ref b), .val (.int se), .val (.int s1), .val (.int (own_in lo hi s1)), .val (.int ex)]) rfl ?_
    show Steps p.tables e below (T25.setTop (mkF m 120 #[.val (.int pp), .val (.int qq), .val (.int c1), .val (.int md), .val (.int x), .val (.int y), .val (.int lo), .val (.int hi), .val (.ref b), .val (.int se), .val (.int s1), .val (.int (own_in lo hi s1)), .val (.int ex)] [])) _
    refine XS.iload X25.here hx rfl (hb hby at_120) rfl ?_
    show Steps p.tables e below (T25.setTop (mkF m 122 #[.val (.int pp), .val (.int qq), .val (.int c1), .val (.int md), .val (.int x), .val (.int y), .val (.int lo), .val (.int hi), .val (.ref b), .val (.int se), .val (.int s1), .val (.int (own_in lo hi s1)), .val (.int ex)] [(.int (own_in lo hi s1))])) _
    refine XS.iload X25.here hx rfl (hb hby at_122) rfl ?_
    exact Steps.refl _
  have S31 : Steps p.tables e below Ω (T25.setTop (mkF m 132 #[.val (.int pp), .val (.int qq), .val (.int c1), .val (.int md), .val (.int x), .val (.int y), .val (.int lo), .val (.int hi), .val (.ref b), .val (.int se), .val (.int s1), .val (.int (own_in lo hi s1)), .val (.int ex)] [(.int (1 : Int32))])) := by
    refine S30.trans ?_
    refine XS.icmpNo X25.here hx rfl (hb hby at_124) rfl (XT.ii_ne_f ((own_end lo hi s1 (by omega)).trans h_ex.symm)) ?_
    show Steps p.tables e below (T25.setTop (mkF m 127 #[.val (.int pp), .val (.int qq), .val (.int c1), .val (.int md), .val (.int x), .val (.int y), .val (.int lo), .val (.int hi), .val (.ref b), .val (.int se), .val (.int s1), .val (.int (own_in lo hi s1)), .val (.int ex)] [])) _
    refine XS.iconst X25.here hx rfl (hb hby at_127) ?_
    show Steps p.tables e below (T25.setTop (mkF m 128 #[.val (.int pp), .val (.int qq), .val (.int c1), .val (.int md), .val (.int x), .val (.int y), .val (.int lo), .val (.int hi), .val (.ref b), .val (.int se), .val (.int s1), .val (.int (own_in lo hi s1)), .val (.int ex)] [(.int (1 : Int32))])) _
    refine XS.goto X25.here hx rfl (pc0 := 128) (pc' := 132) rfl (hb hby at_128) (by decide) (by decide) ?_
    exact Steps.refl _
  obtain ⟨fs, hr, hrun, hended, hW, hsame⟩ := X25.leave (v := some (.int (1 : Int32))) (fun h => by rw [Bd.returns] at h; cases h)
  have hfin : Steps p.tables e below Ω (T25.setFrames fs) := by
    refine S31.trans ?_
    exact own_retZ X25 hx Bd.returns (by decide) (hb hby at_132) hr
  rw [hΩ] at hfin
  refine ⟨_, _, hfin, hrun, hended, _, _, rfl, ?_, ⟨_, rfl⟩, hW, hsame.mono (by decide) (by decide)⟩
  show Q0 Z pp qq c1 md h0 n0 _ T25.heap _
  rw [e25]
  exact ⟨rfl, N25⟩
set_option maxRecDepth 65536 in
set_option maxHeartbeats 40000000 in
theorem comes_1 {Post : Tables → Env → Array Value → State → Outcome → State → Prop} (hpost : ∀ tb e args s v u, (limb_1_1.after args s (.returned v) u = true ∧ limb_1_2.after args s (.returned v) u = true ∧ True) → FrameEnd s (.returned v) u (Jvm.fieldLocs frame_1_writes args s ++ Jvm.arrayLocs frame_1_arrays args s ++ Jvm.staticLocs frame_1_statics s) 16 128 → Post tb e args s (.returned v) u) :
    ArmFor flags0 classFile x code maxLocals ret World_1 tables_1 room_1 Calls_1 rest_1 Pre_1 Post := by
  intro l hfl _ _ p e ha hc hk s m args below hf hA hF happ hP
  obtain ⟨hcalls, hrest, hpre⟩ := hP
  obtain ⟨-, -, -, hnamed, -, -, -, hat⟩ := (Spec.applies_iff hf).mp happ
  obtain ⟨hg, hn⟩ := and_e (Cond.before_iff.mp (show (Jvm.Cond.and given_1 narrow_1).before args s = true from hpre))
  obtain ⟨gc, g0⟩ := and_e hg
  obtain ⟨k0, g1⟩ := and_e g0
  obtain ⟨k1, g2⟩ := and_e g1
  obtain ⟨k2, g3⟩ := and_e g2
  obtain ⟨w0, w1, w2, w3, rfl⟩ : ∃ w0 w1 w2 w3 : Value, args = #[w0, w1, w2, w3] := by
    have hs : args.size = 4 := by simpa [Cond.value, given_1] using gc
    obtain ⟨L⟩ := args
    match L, hs with
    | [w0, w1, w2, w3], _ => exact ⟨w0, w1, w2, w3, rfl⟩
  have hw := fun d (hd : d ∈ tables_1) => atoms_spec (ws := Jvm.Cond.code x code maxLocals ret :: tables_1) hat d (List.mem_cons_of_mem _ hd)
  have hfit : Fit s := fun {y c} hc i hi => by
    obtain ⟨ha, rfl⟩ := Array.getElem?_eq_some_iff.mp hc
    have q := List.all_eq_true.mp ((Array.all_eq_true_iff_forall_mem.mp hF) _ (Array.getElem_mem ha)) i (List.mem_range.mpr hi)
    simpa [Array.getElem?_eq_getElem hi] using q
  obtain ⟨i0, ei0⟩ := is_v k0
  obtain rfl : w0 = (.int i0) := Option.some.inj ei0
  obtain ⟨i1, ei1⟩ := is_v k1
  obtain rfl : w1 = (.int i1) := Option.some.inj ei1
  obtain ⟨i2, ei2⟩ := is_v k2
  obtain rfl : w2 = (.int i2) := Option.some.inj ei2
  obtain ⟨i3, ei3⟩ := is_v g3
  obtain rfl : w3 = (.int i3) := Option.some.inj ei3
  obtain ⟨n, o, h1, h2, h3, _, L, rfl, ⟨rfl, N⟩, hq⟩ := rm0 l s _ hw tables_1 i0 i1 i2 i3  s.heap s.heap.size (Nat.le_refl _)  p e ha hc hk s m _ below hf ((Spec.applies_iff_loose hf).mp happ).1 ⟨rfl, State.Warmed39.refl s, rfl⟩ trivial
  refine ⟨n, _, h1, h2, h3, hpost _ _ _ _ _ _ ⟨Cond.after_iff.mpr rfl, Cond.after_iff.mpr (eq_i res_at (Term.int_eval (1)) rfl), trivial⟩ ⟨hq.1, hq.2.1, (hq.2.2.sift fun y hy => Or.inr (N y hy)).mono (by decide) (by decide)⟩⟩
theorem main_1_1 : Claimed_1_1 := comes_1 fun _ _ _ _ _ _ h hF => ⟨h.1, hF⟩
theorem main_1_2 : Claimed_1_2 := comes_1 fun _ _ _ _ _ _ h hF => ⟨h.2.1, hF⟩
end Jvm.Pilot.@@N@@
namespace Jvm.Pilot.@@N@@
open Jvm Jvm.ClassFile Sem Op Lib Jvm.Free Jvm.Stand Jvm.Pilot.@@N@@.Jvm.D
/-! MADE BY PROGRAM (witnessworld.py) out of the Statement's table words and the real class files: 11 classes; the members and pool entries that the words name. The judged class is class 1, her method 1. -/
namespace start1
open Jvm.ClassFile
def u (s : String) : CpInfo := .utf8 (stringToUtf16 s)
/-- a pool by its gaps: so many unusable entries, then the entry; so many at the end -/
def gap : Nat → List CpInfo → List CpInfo
  | 0, r => r
  | n + 1, r => .unusable :: gap n r
def poolList (es : List (Nat × CpInfo)) (last : Nat) : List CpInfo := es.foldr (fun e r => gap e.1 (e.2 :: r)) (gap last [])
def pool (es : List (Nat × CpInfo)) (last : Nat) : Array CpInfo := ⟨poolList es last⟩
def fileOf (pool : Array CpInfo) (this : Nat) (attrs : Array Attribute := #[]) (ms : Array MethodInfo := #[]) (fl : Nat := 33) (sup : Nat := 0) (ifs : Array Nat := #[]) (fds : Array FieldInfo := #[]) : ClassFile where
  minorVersion := 0
  majorVersion := 65
  constantPool := pool
  accessFlags := fl
  thisClass := this
  superClass := sup
  interfaces := ifs
  fields := fds
  methods := ms
  attributes := attrs
def plain (name : String) (sup : Option ClassId) : Class where
  name := name
  kind := .ordinary
  loader := none
  accessFlags := 33
  super := sup
  interfaces := #[]
  cf := none
  fields := #[]
  methods := #[]
  instanceTypes := #[]
  staticTypes := #[]
  resolved := #[]
  callSites := []
  init := .initialized
  statics := none
  mirror := none

def pool0 : Array CpInfo := pool [(5, u "<init>"), (0, u "()V"), (1, .class_ 10), (1, u "java/lang/Object")] 113

def k0c0 : Code := { maxStack := 0, maxLocals := 1, code := object_method_1_code, exceptionTable := #[], attributes := #[] }
def k0m0 : Method := { name := "<init>", desc := "()V", sig := { parameters := [], returnType := none }, accessFlags := 1, code := some k0c0 }
/-- java/lang/Object -/
def k0 : Class := { plain "java/lang/Object" none with
  accessFlags := 33
  interfaces := #[]
  cf := some (fileOf pool0 8 #[] #[{ accessFlags := 1, nameIndex := 5, descriptorIndex := 6, attributes := #[] }] 33 0 #[] #[])
  fields := #[]
  methods := #[k0m0]
  instanceTypes := #[]
  staticTypes := #[]
  resolved := Array.replicate 124 none
  statics := none }

def pool1 : Array CpInfo := pool [(2, .class_ 4), (1, u "java/lang/Object"), (0, u "<init>"), (0, u "()V"), (0, .methodref 8 9), (0, .class_ 10), (0, .nameAndType 11 12), (0, u "java/lang/Math"), (0, u "min"), (0, u "(II)I"), (0, .methodref 8 14), (0, .nameAndType 15 12), (0, u "max"), (0, .class_ 17), (0, u "com/example/pathsmith/pathsmith/session/PeerTimers$Range"), (0, .methodref 16 19), (0, .nameAndType 5 20), (0, u "(II)V"), (0, .methodref 16 22), (0, .nameAndType 23 24), (0, u "contains"), (0, u "(I)Z"), (0, .class_ 26), (0, u "com/example/pathsmith/pathsmith/session/RangeContainsPinLaw"), (2, u "law"), (0, u "(IIII)Z")] 7

def k1m0 : Method := { name := "<init>", desc := "()V", sig := { parameters := [], returnType := none }, accessFlags := 2, code := none }
def k1c1 : Code := { maxStack := 4, maxLocals := 13, code := code, exceptionTable := #[], attributes := #[] }
def k1m1 : Method := { name := "law", desc := "(IIII)Z", sig := { parameters := [.int, .int, .int, .int], returnType := some .boolean }, accessFlags := 9, code := some k1c1 }
/-- com/example/pathsmith/pathsmith/session/RangeContainsPinLaw -/
def k1 : Class := { plain "com/example/pathsmith/pathsmith/session/RangeContainsPinLaw" (some 0) with
  accessFlags := 49
  interfaces := #[]
  cf := some (fileOf pool1 25 #[] #[{ accessFlags := 2, nameIndex := 5, descriptorIndex := 6, attributes := #[] }, { accessFlags := 9, nameIndex := 29, descriptorIndex := 30, attributes := #[] }] 49 2 #[] #[])
  fields := #[]
  methods := #[k1m0, k1m1]
  instanceTypes := #[]
  staticTypes := #[]
  resolved := Array.replicate 38 none
  statics := none }

def pool2 : Array CpInfo := pool [(1, .class_ 2), (0, u "java/lang/Math"), (1, .class_ 6), (1, u "java/lang/Object"), (0, u "<init>"), (0, u "()V"), (89, .class_ 100), (1, u "java/lang/Math$RandomNumberGeneratorHolder"), (71, u "negativeZeroFloatBits"), (0, u "J"), (2, u "negativeZeroDoubleBits"), (21, u "max"), (2, u "min"), (43, u "$assertionsDisabled"), (0, u "Z"), (88, u "(II)I"), (2, u "twoToTheDoubleScaleDown"), (0, u "D"), (4, u "twoToTheDoubleScaleUp"), (9, u "E"), (3, u "PI"), (2, u "TAU"), (2, u "DEGREES_TO_RADIANS"), (0, u "RADIANS_TO_DEGREES")] 94

def k2m0 : Method := { name := "<init>", desc := "()V", sig := { parameters := [], returnType := none }, accessFlags := 2, code := none }
def k2c1 : Code := { maxStack := 2, maxLocals := 2, code := jdk_29_method_65_code, exceptionTable := #[], attributes := #[] }
def k2m1 : Method := { name := "max", desc := "(II)I", sig := { parameters := [.int, .int], returnType := some .int }, accessFlags := 9, code := some k2c1 }
def k2c2 : Code := { maxStack := 2, maxLocals := 2, code := jdk_29_method_69_code, exceptionTable := #[], attributes := #[] }
def k2m2 : Method := { name := "min", desc := "(II)I", sig := { parameters := [.int, .int], returnType := some .int }, accessFlags := 9, code := some k2c2 }
/-- java/lang/Math -/
def k2 : Class := { plain "java/lang/Math" (some 0) with
  accessFlags := 49
  interfaces := #[]
  cf := some (fileOf pool2 1 #[.nestMembers #[98]] #[{ accessFlags := 2, nameIndex := 7, descriptorIndex := 8, attributes := #[] }, { accessFlags := 9, nameIndex := 198, descriptorIndex := 335, attributes := #[] }, { accessFlags := 9, nameIndex := 201, descriptorIndex := 335, attributes := #[] }] 49 4 #[] #[{ accessFlags := 25, nameIndex := 354, descriptorIndex := 339, attributes := #[] }, { accessFlags := 25, nameIndex := 358, descriptorIndex := 339, attributes := #[] }, { accessFlags := 25, nameIndex := 361, descriptorIndex := 339, attributes := #[] }, { accessFlags := 26, nameIndex := 364, descriptorIndex := 339, attributes := #[] }, { accessFlags := 26, nameIndex := 365, descriptorIndex := 339, attributes := #[] }, { accessFlags := 26, nameIndex := 172, descriptorIndex := 173, attributes := #[] }, { accessFlags := 26, nameIndex := 176, descriptorIndex := 173, attributes := #[] }, { accessFlags := 8, nameIndex := 344, descriptorIndex := 339, attributes := #[] }, { accessFlags := 8, nameIndex := 338, descriptorIndex := 339, attributes := #[] }, { accessFlags := 4120, nameIndex := 245, descriptorIndex := 246, attributes := #[] }])
  fields := #[{ name := "E", type := .double, accessFlags := 25, slot := 0, constantValue := 0 }, { name := "PI", type := .double, accessFlags := 25, slot := 1, constantValue := 0 }, { name := "TAU", type := .double, accessFlags := 25, slot := 2, constantValue := 0 }, { name := "DEGREES_TO_RADIANS", type := .double, accessFlags := 26, slot := 3, constantValue := 0 }, { name := "RADIANS_TO_DEGREES", type := .double, accessFlags := 26, slot := 4, constantValue := 0 }, { name := "negativeZeroFloatBits", type := .long, accessFlags := 26, slot := 5, constantValue := 0 }, { name := "negativeZeroDoubleBits", type := .long, accessFlags := 26, slot := 6, constantValue := 0 }, { name := "twoToTheDoubleScaleUp", type := .double, accessFlags := 8, slot := 7, constantValue := 0 }, { name := "twoToTheDoubleScaleDown", type := .double, accessFlags := 8, slot := 8, constantValue := 0 }, { name := "$assertionsDisabled", type := .boolean, accessFlags := 4120, slot := 9, constantValue := 0 }]
  methods := #[k2m0, k2m1, k2m2]
  instanceTypes := #[]
  staticTypes := #[.double, .double, .double, .double, .double, .long, .long, .double, .double, .boolean]
  resolved := Array.replicate 460 none
  statics := none }

def pool3 : Array CpInfo := pool [(1, .methodref 2 3), (0, .class_ 4), (0, .nameAndType 5 6), (0, u "java/lang/Object"), (0, u "<init>"), (0, u "()V"), (0, .class_ 8), (0, u "java/lang/Record")] 13

def k3c0 : Code := { maxStack := 1, maxLocals := 1, code := jdk_30_method_1_code, exceptionTable := #[], attributes := #[] }
def k3m0 : Method := { name := "<init>", desc := "()V", sig := { parameters := [], returnType := none }, accessFlags := 4, code := some k3c0 }
/-- java/lang/Record -/
def k3 : Class := { plain "java/lang/Record" (some 0) with
  accessFlags := 1057
  interfaces := #[]
  cf := some (fileOf pool3 7 #[] #[{ accessFlags := 4, nameIndex := 5, descriptorIndex := 6, attributes := #[] }] 1057 2 #[] #[])
  fields := #[]
  methods := #[k3m0]
  instanceTypes := #[]
  staticTypes := #[]
  resolved := Array.replicate 22 none
  statics := none }

def pool4 : Array CpInfo := pool [(1, .methodref 2 3), (0, .class_ 4), (0, .nameAndType 5 6), (0, u "java/lang/Record"), (0, u "<init>"), (0, u "()V"), (9, .fieldref 17 18), (0, .class_ 19), (0, .nameAndType 20 21), (0, u "com/example/pathsmith/pathsmith/session/PeerTimers$Range"), (0, u "min"), (0, u "I"), (0, .fieldref 17 23), (0, .nameAndType 24 21), (0, u "max"), (21, u "(II)V"), (2, u "ANY"), (0, u "Lcom/example/pathsmith/pathsmith/session/PeerTimers$Range;"), (4, u "contains"), (0, u "(I)Z"), (9, .class_ 67), (0, u "com/example/pathsmith/pathsmith/session/PeerTimers")] 28

def k4c0 : Code := { maxStack := 4, maxLocals := 3, code := prog_92_method_1_code, exceptionTable := #[], attributes := #[] }
def k4m0 : Method := { name := "<init>", desc := "(II)V", sig := { parameters := [.int, .int], returnType := none }, accessFlags := 1, code := some k4c0 }
def k4c1 : Code := { maxStack := 2, maxLocals := 2, code := prog_92_method_2_code, exceptionTable := #[], attributes := #[] }
def k4m1 : Method := { name := "contains", desc := "(I)Z", sig := { parameters := [.int], returnType := some .boolean }, accessFlags := 0, code := some k4c1 }
/-- com/example/pathsmith/pathsmith/session/PeerTimers$Range -/
def k4 : Class := { plain "com/example/pathsmith/pathsmith/session/PeerTimers$Range" (some 3) with
  accessFlags := 49
  interfaces := #[]
  cf := some (fileOf pool4 17 #[.nestHost 66] #[{ accessFlags := 1, nameIndex := 5, descriptorIndex := 46, attributes := #[] }, { accessFlags := 0, nameIndex := 55, descriptorIndex := 56, attributes := #[] }] 49 2 #[] #[{ accessFlags := 18, nameIndex := 20, descriptorIndex := 21, attributes := #[] }, { accessFlags := 18, nameIndex := 24, descriptorIndex := 21, attributes := #[] }, { accessFlags := 25, nameIndex := 49, descriptorIndex := 50, attributes := #[] }])
  fields := #[{ name := "min", type := .int, accessFlags := 18, slot := 0, constantValue := 0 }, { name := "max", type := .int, accessFlags := 18, slot := 1, constantValue := 0 }, { name := "ANY", type := (.object "com/example/pathsmith/pathsmith/session/PeerTimers$Range"), accessFlags := 25, slot := 0, constantValue := 0 }]
  methods := #[k4m0, k4m1]
  instanceTypes := #[.int, .int]
  staticTypes := #[(.object "com/example/pathsmith/pathsmith/session/PeerTimers$Range")]
  resolved := Array.replicate 96 none
  statics := none }

def pool5 : Array CpInfo := pool [(1, u "java/lang/Cloneable"), (0, .class_ 1), (0, u "java/lang/Object"), (0, .class_ 3)] 3

/-- java/lang/Cloneable -/
def k5 : Class := { plain "java/lang/Cloneable" (some 0) with
  accessFlags := 1537
  interfaces := #[]
  cf := some (fileOf pool5 2 #[] #[] 1537 4 #[] #[])
  fields := #[]
  methods := #[]
  instanceTypes := #[]
  staticTypes := #[]
  resolved := Array.replicate 8 none
  statics := none }

def pool6 : Array CpInfo := pool [(1, u "java/io/Serializable"), (0, .class_ 1), (0, u "java/lang/Object"), (0, .class_ 3)] 3

/-- java/io/Serializable -/
def k6 : Class := { plain "java/io/Serializable" (some 0) with
  accessFlags := 1537
  interfaces := #[]
  cf := some (fileOf pool6 2 #[] #[] 1537 4 #[] #[])
  fields := #[]
  methods := #[]
  instanceTypes := #[]
  staticTypes := #[]
  resolved := Array.replicate 8 none
  statics := none }

/-- the primitive byte -/
def k7 : Class := { plain "byte" none with kind := .primitive 'B', accessFlags := 0x411 }
/-- [B -/
def k8 : Class := { plain "[B" (some 0) with kind := .array 7 .byte, interfaces := #[5, 6], accessFlags := 1041 }

/-- the primitive int -/
def k9 : Class := { plain "int" none with kind := .primitive 'I', accessFlags := 0x411 }
/-- [I -/
def k10 : Class := { plain "[I" (some 0) with kind := .array 9 .int, interfaces := #[5, 6], accessFlags := 1041 }

def heap : Heap := #[]
def classes : Array Class := #[k0, k1, k2, k3, k4, k5, k6, k7, k8, k9, k10]
def interned : List (Array UInt16 × Addr) := []
def slotsUsed : Nat := 0
def theMethod : MethodId := ⟨1, 1⟩
def args0 : Array Value := #[.int 5, .int 300, .int 7, .int 1]
def aboutOver (below : List Frame) : State where
  vm := { classes := classes, interned := interned.toArray }
  heap := heap
  slotsUsed := slotsUsed
  threads := #[{ frames := .invoking theMethod args0 :: below }]
def below0 : List Frame := [.native { method := ⟨0, 0⟩, args := #[] }]
def about1 : State := aboutOver below0
def p0 : Program := .bare "" "" ""
def e0 : Env := launch0.env 0 0 0
theorem w_frames : about1.frames = Frame.invoking theMethod args0 :: below0 := rfl
set_option maxRecDepth 65536 in
theorem w_args : argsFit about1.vm theMethod args0 = true := by decide +kernel
set_option maxRecDepth 65536 in
theorem w_heap : heapFits about1 = true := by decide +kernel
set_option maxRecDepth 65536 in
theorem w_runnable : about1.curStatus? = some .runnable := by decide +kernel
set_option maxRecDepth 65536 in
theorem w_alone : about1.alone = true := by decide +kernel
set_option maxRecDepth 65536 in
theorem w_named : about1.methodNamed? x = some theMethod := by decide +kernel
set_option maxRecDepth 65536 in
theorem w_hears : about1.hears theMethod below0 = true := by decide +kernel
set_option maxRecDepth 65536 in
theorem w_ripe : about1.ripe theMethod args0 below0 = true := by decide +kernel
theorem w_running : about1.status = .running := rfl
set_option maxRecDepth 65536 in
theorem w_room : about1.hasRoom e0.platform room_1 = true :=
  launch0.hasRoom_least _ room_1 (by decide +kernel) (by decide +kernel) (by decide +kernel) (by decide +kernel) (by decide +kernel) (by decide +kernel)
theorem allAtoms_all (ts : List Jvm.Cond) (a : Array Jvm.Value) (st : Jvm.State) : (allAtoms ts).before a st = ts.all (fun c => c.before a st) := by
  induction ts with
  | nil => rfl
  | cons c t ih =>
    show (Jvm.Cond.and c (allAtoms t)).before a st = _
    rw [Jvm.Cond.before_and, ih, List.all_cons]
def words1 : List Jvm.Cond := Jvm.Cond.code x code maxLocals ret :: tables_1
/-- a 'code' word, met by the world's own term for the bytes: nothing is compared byte by byte -/
theorem code_word {y : MethodName} {bytes : ByteArray} {mx : Nat} {rt : Option FieldType} {a : Array Value} {s : State} {m : MethodId} {meth : Method} {c : Code} (h1 : s.methodNamed? y = some m) (h2 : s.vm.method? m = some meth) (h3 : meth.code = some c) (h4 : c.code = bytes)
    (h5 : (c.maxLocals == mx && c.exceptionTable.isEmpty && decide (c.maxStack ≤ mostOperands) && decide (meth.sig.returnType = rt) && !meth.locks && decide (parseMethodDescriptor y.desc = some meth.sig)) = true) : (Jvm.Cond.code y bytes mx rt).before a s = true := by
  simp only [Bool.and_eq_true, beq_iff_eq, Bool.not_eq_true', decide_eq_true_eq] at h5
  obtain ⟨⟨⟨⟨⟨g1, g2⟩, g3⟩, g4⟩, g5⟩, g6⟩ := h5
  simp [Cond.before, Cond.holds, Cond.value, h1, h2, h3, h4, g1, g2, g3, g4, g5, g6]
def isCode : Jvm.Cond → Bool
  | .code _ _ _ _ => true
  | _ => false
theorem all_split {L : List Jvm.Cond} {P : Jvm.Cond → Bool} (h1 : L.all (fun c => isCode c || P c) = true) (h2 : ∀ c ∈ L.filter isCode, P c = true) : L.all P = true := by
  refine List.all_eq_true.mpr fun c hc => ?_
  have h := List.all_eq_true.mp h1 c hc
  rcases Bool.eq_false_or_eq_true (isCode c) with hi | hi
  · exact h2 c (List.mem_filter.mpr ⟨hc, hi⟩)
  · simpa [hi] using h
set_option maxRecDepth 65536 in
theorem w_c0 : (Jvm.Cond.code x code maxLocals ret).before args0 about1 = true := code_word (m := ⟨1, 1⟩) (meth := k1m1) (c := k1c1) (by decide +kernel) rfl rfl rfl (by decide +kernel)
set_option maxRecDepth 65536 in
theorem w_c1 : (Jvm.Cond.code ({ cls := "java/lang/Math", name := "min", desc := "(II)I" } : Jvm.MethodName) jdk_29_method_69_code (2 : Nat) (Option.some Jvm.ClassFile.FieldType.int)).before args0 about1 = true := code_word (m := ⟨2, 2⟩) (meth := k2m2) (c := k2c2) (by decide +kernel) rfl rfl rfl (by decide +kernel)
set_option maxRecDepth 65536 in
theorem w_c2 : (Jvm.Cond.code ({ cls := "java/lang/Math", name := "max", desc := "(II)I" } : Jvm.MethodName) jdk_29_method_65_code (2 : Nat) (Option.some Jvm.ClassFile.FieldType.int)).before args0 about1 = true := code_word (m := ⟨2, 1⟩) (meth := k2m1) (c := k2c1) (by decide +kernel) rfl rfl rfl (by decide +kernel)
set_option maxRecDepth 65536 in
theorem w_c3 : (Jvm.Cond.code ({ cls := "com/example/pathsmith/pathsmith/session/PeerTimers$Range", name := "<init>", desc := "(II)V" } : Jvm.MethodName) prog_92_method_1_code (3 : Nat) (Option.none : Option Jvm.ClassFile.FieldType)).before args0 about1 = true := code_word (m := ⟨4, 0⟩) (meth := k4m0) (c := k4c0) (by decide +kernel) rfl rfl rfl (by decide +kernel)
set_option maxRecDepth 65536 in
theorem w_c4 : (Jvm.Cond.code ({ cls := "java/lang/Record", name := "<init>", desc := "()V" } : Jvm.MethodName) jdk_30_method_1_code (1 : Nat) (Option.none : Option Jvm.ClassFile.FieldType)).before args0 about1 = true := code_word (m := ⟨3, 0⟩) (meth := k3m0) (c := k3c0) (by decide +kernel) rfl rfl rfl (by decide +kernel)
set_option maxRecDepth 65536 in
theorem w_c5 : (Jvm.Cond.code ({ cls := "java/lang/Object", name := "<init>", desc := "()V" } : Jvm.MethodName) object_method_1_code (1 : Nat) (Option.none : Option Jvm.ClassFile.FieldType)).before args0 about1 = true := code_word (m := ⟨0, 0⟩) (meth := k0m0) (c := k0c0) (by decide +kernel) rfl rfl rfl (by decide +kernel)
set_option maxRecDepth 65536 in
theorem w_c6 : (Jvm.Cond.code ({ cls := "com/example/pathsmith/pathsmith/session/PeerTimers$Range", name := "contains", desc := "(I)Z" } : Jvm.MethodName) prog_92_method_2_code (2 : Nat) (Option.some Jvm.ClassFile.FieldType.boolean)).before args0 about1 = true := code_word (m := ⟨4, 1⟩) (meth := k4m1) (c := k4c1) (by decide +kernel) rfl rfl rfl (by decide +kernel)
def codes1 : List Jvm.Cond := [Jvm.Cond.code x code maxLocals ret, Jvm.Cond.code ({ cls := "java/lang/Math", name := "min", desc := "(II)I" } : Jvm.MethodName) jdk_29_method_69_code (2 : Nat) (Option.some Jvm.ClassFile.FieldType.int), Jvm.Cond.code ({ cls := "java/lang/Math", name := "max", desc := "(II)I" } : Jvm.MethodName) jdk_29_method_65_code (2 : Nat) (Option.some Jvm.ClassFile.FieldType.int), Jvm.Cond.code ({ cls := "com/example/pathsmith/pathsmith/session/PeerTimers$Range", name := "<init>", desc := "(II)V" } : Jvm.MethodName) prog_92_method_1_code (3 : Nat) (Option.none : Option Jvm.ClassFile.FieldType), Jvm.Cond.code ({ cls := "java/lang/Record", name := "<init>", desc := "()V" } : Jvm.MethodName) jdk_30_method_1_code (1 : Nat) (Option.none : Option Jvm.ClassFile.FieldType), Jvm.Cond.code ({ cls := "java/lang/Object", name := "<init>", desc := "()V" } : Jvm.MethodName) object_method_1_code (1 : Nat) (Option.none : Option Jvm.ClassFile.FieldType), Jvm.Cond.code ({ cls := "com/example/pathsmith/pathsmith/session/PeerTimers$Range", name := "contains", desc := "(I)Z" } : Jvm.MethodName) prog_92_method_2_code (2 : Nat) (Option.some Jvm.ClassFile.FieldType.boolean)]
set_option maxRecDepth 65536 in
theorem codes_eq : words1.filter isCode = codes1 := rfl
theorem w_codes : ∀ c ∈ words1.filter isCode, c.before args0 about1 = true := by
  rw [codes_eq]
  intro c hc
  simp only [codes1, List.mem_cons, List.not_mem_nil, or_false] at hc
  rcases hc with rfl | rfl | rfl | rfl | rfl | rfl | rfl
  · exact w_c0
  · exact w_c1
  · exact w_c2
  · exact w_c3
  · exact w_c4
  · exact w_c5
  · exact w_c6
set_option maxRecDepth 65536 in
theorem w_t1 : (words1.take 24).all (fun c => isCode c || c.before args0 about1) = true := by decide +kernel
set_option maxRecDepth 65536 in
theorem w_t2 : (words1.drop 24).all (fun c => isCode c || c.before args0 about1) = true := by decide +kernel
theorem w_tables : (allAtoms (Jvm.Cond.code x code maxLocals ret :: tables_1)).before args0 about1 = true := by
  rw [allAtoms_all]
  show words1.all (fun c => c.before args0 about1) = true
  refine all_split ?_ w_codes
  rw [← List.take_append_drop 24 words1, List.all_append, w_t1, w_t2]
  rfl
set_option maxRecDepth 65536 in
theorem w_case : (Jvm.Cond.and given_1 narrow_1).before args0 about1 = true := by decide +kernel
theorem w_applies : (headSpec (Jvm.Cond.code x code maxLocals ret :: tables_1) room_1).applies x e0.platform about1 = true :=
  (Spec.applies_iff w_frames).mpr ⟨w_running, w_runnable, w_alone, w_named, w_hears, w_ripe, w_room, w_tables⟩
theorem atStart : AtStart classFile x code maxLocals ret World_1 tables_1 room_1 Calls_1 rest_1 Pre_1 launch0 p0 e0 about1 theMethod args0 below0 :=
  ⟨lists_1, trivial, launch0.admits_env _ _ _, launch0.least_env, fairChoices_fair.cas, fairChoices_fair.clock, w_frames, w_args, w_heap, w_applies, trivial, trivial, w_case⟩
end start1
theorem witness_1 : WitnessClaimed_1 := ⟨start1.p0, start1.e0, start1.about1, start1.theMethod, start1.args0, start1.below0, start1.atStart⟩
end Jvm.Pilot.@@N@@
