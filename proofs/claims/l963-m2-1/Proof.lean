import JvmDerived
import JvmDerived.Pilot.@@N@@Statement
import JvmDerived.Pilot.@@N@@Code
set_option linter.unusedVariables false
set_option linter.unusedSimpArgs false
namespace Jvm.RoadKit
open Sem ClassFile Op Lib Jvm.Stand Jvm.Free Jvm.LawKit
section New
variable {p : Program} {l : Launch} {e : Env} {R : Room} {s : State} {m : MethodId} {args : Array Value} {below : List Frame} {meth : Method} {c : Code} {T : State} {locs : List Loc} {cells slots : Nat}
theorem retI (X : Stand p l e R s m args below meth c T locs cells slots) (hx : p.tables.exec = Jvm.exec) {pc : Nat} {Ls : Array Slot} {z : Int32} {rest : List Value} (hret : meth.sig.returnType = some .int) (hd : decode c.code pc = .ok (.ireturn, 1)) {fs : List Frame}
    (hl : ∀ (f : JFrame) (acts : List Action), f.method = m → f.locked = none → f.entered = [] → (doReturn e (T.setTop f) acts (some (.int z))).1 = T.setFrames fs) : Steps p.tables e below (T.setTop (mkF m pc Ls (.int z :: rest))) (T.setFrames fs) := by
  have hm' : T.vm.method? m = some meth := X.method'
  have hn : narrow .int (.int z) = .int z := rfl
  show Steps p.tables e below (T.setTop { method := m, pc := pc, locals := Ls, stack := _ :: rest, locked := none }) _
  jvm_step X.here [X.here.top, hx, hd, hm', hret, hn]
  first | (intro acts; rw [hl _ acts rfl rfl rfl]) | rw [hl _ _ rfl rfl rfl]
  exact Steps.refl _
theorem own_retZ (X : Stand p l e R s m args below meth c T locs cells slots) (hx : p.tables.exec = Jvm.exec) {pc : Nat} {Ls : Array Slot} {z : Int32} {rest : List Value} (hret : meth.sig.returnType = some .boolean) (hz : z &&& 1 = z) (hd : decode c.code pc = .ok (.ireturn, 1)) {fs : List Frame}
    (hl : ∀ (f : JFrame) (acts : List Action), f.method = m → f.locked = none → f.entered = [] → (doReturn e (T.setTop f) acts (some (.int z))).1 = T.setFrames fs) : Steps p.tables e below (T.setTop (mkF m pc Ls (.int z :: rest))) (T.setFrames fs) :=
  retN X hx (t := .boolean) hret (Or.inl rfl) hd (by have q : nar .boolean z = z := hz; rw [q]; exact hl)
theorem own_lrem {g : JFrame} {target : State} (X : Stand p l e R s m args below meth c T locs cells slots) (hx : p.tables.exec = Jvm.exec) (hg : g.method = m) {x y : Int64} {rest : List Value} (hd : decode c.code g.pc = .ok (.lrem, 1)) (hs : g.stack = .long y :: .long x :: rest) (hy : y ≠ 0)
    (hr : Steps p.tables e below (T.setTop { g with pc := g.pc + 1, stack := .long (x % y) :: rest }) target) : Steps p.tables e below (T.setTop g) target :=
  XS.lrem X.here hx hg hd hs hy (by rw [lrem_mod x y]; exact hr)
end New
end Jvm.RoadKit
namespace Jvm.Pilot.@@N@@
open Jvm Jvm.ClassFile Sem Op Lib Jvm.Free Jvm.Stand Jvm.LawKit Jvm.RoadKit Bundle Jvm.Pilot.@@N@@.Jvm.D
theorem own_sh (q : Int32) : ∃ k : Nat, k < 32 ∧ (q &&& 31).toBitVec.toNat = k ∧ (∀ x : Int32, (x <<< (q &&& 31)).toBitVec = x.toBitVec <<< k) ∧ (∀ x : Int32, ((x.toUInt32 >>> (q &&& 31).toUInt32).toInt32).toBitVec = x.toBitVec >>> k) := by
  obtain ⟨n, hn⟩ : ∃ n : Nat, (q &&& 31).toBitVec.toNat = n := ⟨_, rfl⟩
  have hlt : n < 32 := by
    rw [← hn, Int32.toBitVec_and, BitVec.toNat_and]
    exact Nat.lt_of_le_of_lt Nat.and_le_right (by decide)
  have hs := sm32 q n (by
    rw [← hn, Int32.toBitVec_and, BitVec.toNat_and]
    have q : (31 : Int32).toBitVec.toNat = 2 ^ 5 - 1 := by decide
    rw [q, Nat.and_two_pow_sub_one_eq_mod])
  refine ⟨n, hlt, hn, fun x => ?_, fun x => ?_⟩
  · rw [Int32.toBitVec_shiftLeft, BitVec.shiftLeft_eq', hs]
  · show (x.toUInt32 >>> (q &&& 31).toUInt32).toBitVec = _
    rw [UInt32.toBitVec_shiftRight]
    have r : ((q &&& 31).toUInt32.toBitVec % 32).toNat = n := by
      show ((q &&& 31).toBitVec % 32).toNat = n
      rw [BitVec.toNat_umod, hn]
      exact Nat.mod_eq_of_lt hlt
    show x.toBitVec >>> ((q &&& 31).toUInt32.toBitVec % 32).toNat = _
    rw [r]

def own_has (f x : Int32) : Int32 := if (f &&& x) = (0 : Int32) then 0 else 1
theorem own_and24 (f : Int32) : ((f &&& (16777215 : Int32)) &&& (-16777216 : Int32)) = (0 : Int32) := by
  rw [Int32.and_assoc]
  have e : ((16777215 : Int32) &&& (-16777216 : Int32)) = 0 := by decide
  rw [e, Int32.and_zero]
theorem own_id32 (x : Int64) : (((x &&& (4294967295 : Int64)).toUInt64 >>> ((32 : Int32) &&& 0x3f).toInt64.toUInt64).toInt64) = (0 : Int64) := by
  apply Int64.toInt_inj.mp
  rw [c_lushr _ (32 : Int32) 32 (by decide) (by decide), c_maskL x (4294967295 : Int64) 32 (by decide) (by decide)]
  have h1 := Int.emod_nonneg x.toInt (by decide : ((2 ^ 32 : Nat) : Int) ≠ 0)
  have h2 := Int.emod_lt_of_pos x.toInt (by decide : (0 : Int) < ((2 ^ 32 : Nat) : Int))
  have e : (0 : Int64).toInt = 0 := by decide
  rw [e]
  generalize x.toInt % ((2 ^ 32 : Nat) : Int) = z at *
  omega
theorem own_bit (f k : Int32) : own_has f ((1 : Int32) <<< ((k &&& (31 : Int32)) &&& 31)) = (if (((f.toUInt32 >>> ((k &&& (31 : Int32)) &&& 31).toUInt32).toInt32) &&& (1 : Int32)) = (0 : Int32) then (0 : Int32) else (1 : Int32)) := by
  obtain ⟨n, hlt, -, e1, e2⟩ := own_sh (k &&& (31 : Int32))
  replace e1 : ((1 : Int32) <<< ((k &&& (31 : Int32)) &&& 31)).toBitVec = (1#32 <<< n) := e1 1
  replace e2 := e2 f
  have i1 : (f &&& ((1 : Int32) <<< ((k &&& (31 : Int32)) &&& 31))) = 0 ↔ f.toBitVec.getLsbD n = false := by
    rw [← Int32.toBitVec_inj, Int32.toBitVec_and, e1, ← BitVec.twoPow_eq, BitVec.and_twoPow]
    cases f.toBitVec.getLsbD n
    · simp
    · simp only [if_true]
      constructor
      · intro h
        have := congrArg (BitVec.getLsbD · n) h
        simp [BitVec.getLsbD_twoPow, hlt] at this
      · intro h; cases h
  have i2 : (((f.toUInt32 >>> ((k &&& (31 : Int32)) &&& 31).toUInt32).toInt32) &&& (1 : Int32)) = 0 ↔ f.toBitVec.getLsbD n = false := by
    rw [← Int32.toBitVec_inj, Int32.toBitVec_and, e2]
    show (f.toBitVec >>> n) &&& 1#32 = 0#32 ↔ _
    have t : (1#32) = BitVec.twoPow 32 0 := by decide
    rw [t, BitVec.and_twoPow, BitVec.getLsbD_ushiftRight, Nat.add_zero]
    cases f.toBitVec.getLsbD n
    · simp
    · simp only [if_true]
      constructor
      · intro h; exact absurd h (by decide)
      · intro h; cases h
  unfold own_has
  by_cases q : f.toBitVec.getLsbD n = false
  · rw [if_pos (i1.mpr q), if_pos (i2.mpr q)]
  · rw [if_neg (fun z => q (i1.mp z)), if_neg (fun z => q (i2.mp z))]
theorem own_or0 (x y : Int32) : x ||| y = 0 ↔ x = 0 ∧ y = 0 := by
  rw [← Int32.toBitVec_inj, ← Int32.toBitVec_inj, ← Int32.toBitVec_inj, Int32.toBitVec_or]
  exact BitVec.or_eq_zero_iff
theorem own_has0 (f x : Int32) : own_has f x = 0 ↔ (f &&& x) = 0 := by
  unfold own_has
  by_cases h : (f &&& x) = 0
  · rw [if_pos h]; exact ⟨fun _ => h, fun _ => rfl⟩
  · rw [if_neg h]; exact ⟨fun q => absurd q (by decide), fun q => absurd q h⟩
theorem own_dist (f a b : Int32) : f &&& (a ||| b) = (f &&& a) ||| (f &&& b) := by
  rw [← Int32.toBitVec_inj, Int32.toBitVec_and, Int32.toBitVec_or, Int32.toBitVec_or, Int32.toBitVec_and, Int32.toBitVec_and]
  exact BitVec.and_or_distrib_left
theorem own_union (f a b : Int32) : own_has f (a ||| b) = (if (own_has f a) = (0 : Int32) then (if (own_has f b) = (0 : Int32) then (0 : Int32) else (1 : Int32)) else (1 : Int32)) := by
  have e : own_has f (a ||| b) = if ((f &&& a) = 0 ∧ (f &&& b) = 0) then 0 else 1 := by
    unfold own_has
    rw [own_dist]
    by_cases h : (f &&& a) = 0 ∧ (f &&& b) = 0
    · rw [if_pos h, if_pos ((own_or0 _ _).mpr h)]
    · rw [if_neg h, if_neg (fun q => h ((own_or0 _ _).mp q))]
  rw [e]
  by_cases h1 : own_has f a = 0
  · rw [if_pos h1]
    by_cases h2 : own_has f b = 0
    · rw [if_pos h2, if_pos ⟨(own_has0 _ _).mp h1, (own_has0 _ _).mp h2⟩]
    · rw [if_neg h2, if_neg (fun q => h2 ((own_has0 _ _).mpr q.2))]
  · rw [if_neg h1, if_neg (fun q => h1 ((own_has0 _ _).mpr q.1))]
theorem own_zero (f : Int32) : own_has f (0 : Int32) = (0 : Int32) := (own_has0 _ _).mpr Int32.and_zero
theorem own_self (f : Int32) : own_has f f = (if f = (0 : Int32) then (0 : Int32) else (1 : Int32)) := by unfold own_has; rw [Int32.and_self]
theorem own_high (f a : Int32) : own_has (f &&& (16777215 : Int32)) a = own_has (f &&& (16777215 : Int32)) (a &&& (16777215 : Int32)) := by
  have e : (f &&& (16777215 : Int32)) &&& (a &&& (16777215 : Int32)) = (f &&& (16777215 : Int32)) &&& a := by
    rw [Int32.and_comm a, ← Int32.and_assoc, Int32.and_assoc f, Int32.and_self]
  unfold own_has; rw [e]
theorem d2_0 : decode jdk_30_method_1_code 0 = .ok (.aload_n 0, 1) := by decide +kernel
theorem d2_1 : decode jdk_30_method_1_code 1 = .ok (.invokespecial 1, 3) := by decide +kernel
theorem d2_4 : decode jdk_30_method_1_code 4 = .ok (.return_, 1) := by decide +kernel
theorem pn_0 : plainName "java/lang/Record" = true := by first | (simp [plainName, overriddenIn]; done) | decide +kernel
theorem ef_rm2 (m : MethodId) (x0 : Addr) : entryFrame m #[(.ref x0)] 1 = mkF m 0 #[.val (.ref x0)] [] := by first | (simp [entryFrame, mkF, argsToLocals, Value.category]; done) | rfl
def Q2 (Z : State) (a : Addr) (h0 : Heap) (n0 : Nat) (v : Option Value) (h : Heap) (L : List Loc) : Prop := v = none ∧ Fr n0 L ∧ h = h0
set_option maxRecDepth 65536 in
set_option maxHeartbeats 40000000 in
theorem rm2 (l : Launch) (Z : State) (a0 : Array Value) (hw : ∀ d ∈ tables_1, d.before a0 Z = true) (ws : List Jvm.Cond) (a : Addr) (h0 : Heap) (n0 : Nat) (Z0 : n0 ≤ h0.size) :
    MetFree l (⟨"java/lang/Record", "<init>", "()V"⟩ : MethodName) (head1 (Jvm.Cond.code (⟨"java/lang/Record", "<init>", "()V"⟩ : MethodName) jdk_30_method_1_code 1 none :: ws) ({ frames := 1, cells := 0, slots := 0, locals := 12 } : Room)) (fun aa U => aa = #[(.ref a)] ∧ Z.Warmed39 U.vm ∧ U.heap = h0) (fun _ _ _ _ _ => True) (fun _ U o U' => ∃ v L, o = .returned v ∧ Q2 Z a h0 n0 v U'.heap L ∧ FrameEnd U o U' L ({ frames := 1, cells := 0, slots := 0, locals := 12 } : Room).cells ({ frames := 1, cells := 0, slots := 0, locals := 12 } : Room).slots) := by
  refine MetFree.of_bodySF (plainFor_of_name pn_0) hisR ?_
  intro p e s m args below meth c s₁ Bd hml0 hP hK
  obtain ⟨rfl, hZ, hh⟩ := hP
  have hx := Bd.exec
  have hby := Bd.bytes
  have hml : c.maxLocals = 1 := hml0
  have hown : s.vm.findClass "java/lang/Record" = some m.cls := findClass_of_methodNamed Bd.named
  have hnm := (name_of_methodNamed Bd.named Bd.method).1
  have X0 : Stand p l e ({ frames := 1, cells := 0, slots := 0, locals := 12 } : Room) s m #[(.ref a)] below meth c s₁ [] 0 0 := Stand.of_body Bd
  have e0 : s₁.heap = h0 := by rw [← hh, Bd.state]; rfl
  have N0 := Fr.nil n0
  obtain ⟨Ω, hΩ⟩ : ∃ z, z = s₁.setTop (entryFrame m #[(.ref a)] 1) := ⟨_, rfl⟩
  have S0 : Steps p.tables e below Ω (s₁.setTop (mkF m 0 #[.val (.ref a)] [])) := by rw [hΩ]; exact castTop (ef_rm2 m a) (Steps.refl _)
  have S1 : Steps p.tables e below Ω (s₁.setTop (mkF m 1 #[.val (.ref a)] [(.ref a)])) := by
    refine S0.trans ?_
    refine XS.aloadN X0.here hx rfl (hb hby d2_0) rfl rfl ?_
    exact Steps.refl _
  obtain ⟨T2, X2, e2, st2⟩ := initO X0 hx hZ hown (hw _ (List.mem_of_getElem? (i := 13) rfl)) (hw _ (List.mem_of_getElem? (i := 14) rfl)) (hw _ (List.mem_of_getElem? (i := 15) rfl)) e0 (g := (mkF m 1 #[.val (.ref a)] [(.ref a)])) rfl (by rw [hml]; rfl) rfl (hb hby d2_1) (by decide) (W := 0) (by show 2 * 0 + _ ≤ _; exact Nat.le_of_eq rfl) (by decide)
  have S3 : Steps p.tables e below Ω (T2.setTop (mkF m 4 #[.val (.ref a)] [])) := S1.trans (st2 _ (Steps.refl _))
  obtain ⟨fs, hr, hrun, hended, hW, hsame⟩ := X2.leave (v := none) (fun _ => rfl)
  have hfin : Steps p.tables e below Ω (T2.setFrames fs) := by
    refine S3.trans ?_
    exact X2.returnOut hx Bd.returns (hb hby d2_4) hr
  rw [hΩ] at hfin
  refine ⟨_, _, hfin, hrun, hended, _, _, rfl, ?_, ⟨_, rfl⟩, hW, hsame.mono (by decide) (by decide)⟩
  show Q2 Z a h0 n0 _ T2.heap _
  rw [e2]
  exact ⟨rfl, N0, rfl⟩
theorem d1_0 : decode prog_57_method_1_code 0 = .ok (.aload_n 0, 1) := by decide +kernel
theorem pd_0 : parseMethodDescriptor "()V" = some ⟨[], none⟩ := by decide +kernel
theorem d1_1 : decode prog_57_method_1_code 1 = .ok (.invokespecial 1, 3) := by decide +kernel
theorem d1_4 : decode prog_57_method_1_code 4 = .ok (.iload_n 1, 1) := by decide +kernel
theorem d1_5 : decode prog_57_method_1_code 5 = .ok (.ldc 9, 2) := by decide +kernel
theorem d1_7 : decode prog_57_method_1_code 7 = .ok (.iand, 1) := by decide +kernel
theorem d1_8 : decode prog_57_method_1_code 8 = .ok (.ifCond .ne 12, 3) := by decide +kernel
theorem d1_11 : decode prog_57_method_1_code 11 = .ok (.lload_n 2, 1) := by decide +kernel
theorem d1_12 : decode prog_57_method_1_code 12 = .ok (.bipush 32, 2) := by decide +kernel
theorem d1_14 : decode prog_57_method_1_code 14 = .ok (.lushr, 1) := by decide +kernel
theorem d1_15 : decode prog_57_method_1_code 15 = .ok (.lconst 0, 1) := by decide +kernel
theorem d1_16 : decode prog_57_method_1_code 16 = .ok (.lcmp, 1) := by decide +kernel
theorem d1_17 : decode prog_57_method_1_code 17 = .ok (.ifCond .eq 18, 3) := by decide +kernel
theorem d1_35 : decode prog_57_method_1_code 35 = .ok (.aload_n 0, 1) := by decide +kernel
theorem d1_36 : decode prog_57_method_1_code 36 = .ok (.iload_n 1, 1) := by decide +kernel
theorem d1_37 : decode prog_57_method_1_code 37 = .ok (.putfield 19, 3) := by decide +kernel
theorem d1_40 : decode prog_57_method_1_code 40 = .ok (.aload_n 0, 1) := by decide +kernel
theorem d1_41 : decode prog_57_method_1_code 41 = .ok (.lload_n 2, 1) := by decide +kernel
theorem d1_42 : decode prog_57_method_1_code 42 = .ok (.putfield 23, 3) := by decide +kernel
theorem d1_45 : decode prog_57_method_1_code 45 = .ok (.return_, 1) := by decide +kernel
theorem pn_1 : plainName "com/example/pathsmith/pathsmith/pcep/Monitoring" = true := by first | (simp [plainName, overriddenIn]; done) | decide +kernel
theorem ef_rm1 (m : MethodId) (x0 : Addr) (x1 : Int32) (x2 : Int64) : entryFrame m #[(.ref x0), (.int x1), (.long x2)] 4 = mkF m 0 #[.val (.ref x0), .val (.int x1), .val (.long x2), .second] [] := by first | (simp [entryFrame, mkF, argsToLocals, Value.category]; done) | rfl
def Q1 (Z : State) (a : Addr) (p1 : Int32) (q1 : Int64) (h0 : Heap) (n0 : Nat) (v : Option Value) (h : Heap) (L : List Loc) : Prop := v = none ∧ Fr n0 L ∧ Keep h0 h [a] ∧ Exa Z h a "com/example/pathsmith/pathsmith/pcep/Monitoring" ∧ Fld Z h a "com/example/pathsmith/pathsmith/pcep/Monitoring" "flags" "I" (.int p1)
set_option maxRecDepth 65536 in
set_option maxHeartbeats 40000000 in
theorem rm1 (l : Launch) (Z : State) (a0 : Array Value) (hw : ∀ d ∈ tables_1, d.before a0 Z = true) (ws : List Jvm.Cond) (a : Addr) (p1 : Int32) (q1 : Int64) (h0 : Heap) (n0 : Nat) (Z0 : n0 ≤ h0.size) (E0 : Exa Z h0 a "com/example/pathsmith/pathsmith/pcep/Monitoring") (F1 : Fld Z h0 a "com/example/pathsmith/pathsmith/pcep/Monitoring" "flags" "I" (.int (0 : Int32))) (F2 : Fld Z h0 a "com/example/pathsmith/pathsmith/pcep/Monitoring" "id" "J" (.long (0 : Int64))) (g : n0 ≤ a) (b1 : (p1 &&& (-16777216 : Int32)) = (0 : Int32)) (b2 : ((q1.toUInt64 >>> ((32 : Int32) &&& 0x3f).toInt64.toUInt64).toInt64) = (0 : Int64)) :
    MetFree l (⟨"com/example/pathsmith/pathsmith/pcep/Monitoring", "<init>", "(IJ)V"⟩ : MethodName) (head1 (Jvm.Cond.code (⟨"com/example/pathsmith/pathsmith/pcep/Monitoring", "<init>", "(IJ)V"⟩ : MethodName) prog_57_method_1_code 4 none :: ws) ({ frames := 2, cells := 0, slots := 0, locals := 24 } : Room)) (fun aa U => aa = #[(.ref a), (.int p1), (.long q1)] ∧ Z.Warmed39 U.vm ∧ U.heap = h0) (fun _ _ _ _ _ => True) (fun _ U o U' => ∃ v L, o = .returned v ∧ Q1 Z a p1 q1 h0 n0 v U'.heap L ∧ FrameEnd U o U' L ({ frames := 2, cells := 0, slots := 0, locals := 24 } : Room).cells ({ frames := 2, cells := 0, slots := 0, locals := 24 } : Room).slots) := by
  refine MetFree.of_bodySF (plainFor_of_name pn_1) hisR ?_
  intro p e s m args below meth c s₁ Bd hml0 hP hK
  obtain ⟨rfl, hZ, hh⟩ := hP
  have hx := Bd.exec
  have hby := Bd.bytes
  have hml : c.maxLocals = 4 := hml0
  have hown : s.vm.findClass "com/example/pathsmith/pathsmith/pcep/Monitoring" = some m.cls := findClass_of_methodNamed Bd.named
  have hnm := (name_of_methodNamed Bd.named Bd.method).1
  have X0 : Stand p l e ({ frames := 2, cells := 0, slots := 0, locals := 24 } : Room) s m #[(.ref a), (.int p1), (.long q1)] below meth c s₁ [] 0 0 := Stand.of_body Bd
  have e0 : s₁.heap = h0 := by rw [← hh, Bd.state]; rfl
  have N0 := Fr.nil n0
  obtain ⟨Ω, hΩ⟩ : ∃ z, z = s₁.setTop (entryFrame m #[(.ref a), (.int p1), (.long q1)] 4) := ⟨_, rfl⟩
  have S0 : Steps p.tables e below Ω (s₁.setTop (mkF m 0 #[.val (.ref a), .val (.int p1), .val (.long q1), .second] [])) := by rw [hΩ]; exact castTop (ef_rm1 m a p1 q1) (Steps.refl _)
  have S1 : Steps p.tables e below Ω (s₁.setTop (mkF m 1 #[.val (.ref a), .val (.int p1), .val (.long q1), .second] [(.ref a)])) := by
    refine S0.trans ?_
    refine XS.aloadN X0.here hx rfl (hb hby d1_0) rfl rfl ?_
    exact Steps.refl _
  obtain ⟨_, _, ⟨T2, L2, k2, n2⟩, -, X2, ⟨Lc2, hQ2, l2, y2, z2⟩, st2⟩ := X0.specialBack hx (y := (⟨"java/lang/Record", "<init>", "()V"⟩ : MethodName)) rfl hown (mvT hZ (hw _ (List.mem_of_getElem? (i := 8) rfl))) (mvT hZ (hw _ (List.mem_of_getElem? (i := 9) rfl))) (mvT hZ (hw _ (List.mem_of_getElem? (i := 12) rfl))) (by decide) (backOf (W := 0) (rm2 l Z a0 hw [] a  h0 n0 Z0 ) hZ (hw _ (List.mem_of_getElem? (i := 12) rfl)) (hw _ (List.mem_of_getElem? (i := 11) rfl)) (by decide) (by decide)) (g := (mkF m 1 #[.val (.ref a), .val (.int p1), .val (.long q1), .second] [(.ref a)])) rfl (by rw [hml]; rfl) (Steps.refl _) (a := a) (argsL := []) (rest := []) (lenOf pd_0 rfl) rfl (by show 2 * 0 + _ ≤ _; exact Nat.le_of_eq rfl) (hb hby d1_1) (fun _ _ => ⟨rfl, e0, (by decide : 0 + 0 ≤ _), (by decide : 0 + 0 ≤ _)⟩)
  dsimp only [Pt.U, Pt.locs, Pt.cells, Pt.slots] at X2 l2 y2 z2 st2 hQ2
  subst l2 y2 z2
  obtain ⟨rfl, N2q, e2⟩ := hQ2
  have N2 := Fr.app N0 N2q
  have S3 : Steps p.tables e below Ω (T2.setTop (mkF m 4 #[.val (.ref a), .val (.int p1), .val (.long q1), .second] [])) := S1.trans st2
  have S4 : Steps p.tables e below Ω (T2.setTop (mkF m 37 #[.val (.ref a), .val (.int p1), .val (.long q1), .second] [(.int p1), (.ref a)])) := by
    refine S3.trans ?_
    refine XS.iloadN X2.here hx rfl (hb hby d1_4) rfl ?_
    show Steps p.tables e below (T2.setTop (mkF m 5 #[.val (.ref a), .val (.int p1), .val (.long q1), .second] [(.int p1)])) _
    refine X2.ldcInt hx hown (mvT hZ (hw _ (List.mem_of_getElem? (i := 16) rfl))) (g := (mkF m 5 #[.val (.ref a), .val (.int p1), .val (.long q1), .second] [(.int p1)])) rfl (hb hby d1_5) _ ?_
    show Steps p.tables e below (T2.setTop (mkF m 7 #[.val (.ref a), .val (.int p1), .val (.long q1), .second] [(.int (-16777216 : Int32)), (.int p1)])) _
    refine XS.iand X2.here hx rfl (hb hby d1_7) rfl ?_
    show Steps p.tables e below (T2.setTop (mkF m 8 #[.val (.ref a), .val (.int p1), .val (.long q1), .second] [(.int (p1 &&& (-16777216 : Int32)))])) _
    refine XS.ifNo X2.here hx rfl (hb hby d1_8) rfl (XT.i0_ne_f b1) ?_
    show Steps p.tables e below (T2.setTop (mkF m 11 #[.val (.ref a), .val (.int p1), .val (.long q1), .second] [])) _
    refine XS.lloadN X2.here hx rfl (hb hby d1_11) rfl ?_
    show Steps p.tables e below (T2.setTop (mkF m 12 #[.val (.ref a), .val (.int p1), .val (.long q1), .second] [(.long q1)])) _
    refine XS.bipush X2.here hx rfl (hb hby d1_12) ?_
    show Steps p.tables e below (T2.setTop (mkF m 14 #[.val (.ref a), .val (.int p1), .val (.long q1), .second] [(.int (32 : Int32)), (.long q1)])) _
    refine XS.lushr X2.here hx rfl (hb hby d1_14) rfl ?_
    show Steps p.tables e below (T2.setTop (mkF m 15 #[.val (.ref a), .val (.int p1), .val (.long q1), .second] [(.long ((q1.toUInt64 >>> ((32 : Int32) &&& 0x3f).toInt64.toUInt64).toInt64))])) _
    refine XS.lconst X2.here hx rfl (hb hby d1_15) ?_
    show Steps p.tables e below (T2.setTop (mkF m 16 #[.val (.ref a), .val (.int p1), .val (.long q1), .second] [(.long (0 : Int64)), (.long ((q1.toUInt64 >>> ((32 : Int32) &&& 0x3f).toInt64.toUInt64).toInt64))])) _
    refine XS.lcmp X2.here hx rfl (hb hby d1_16) rfl ?_
    show Steps p.tables e below (T2.setTop (mkF m 17 #[.val (.ref a), .val (.int p1), .val (.long q1), .second] [(.int (lcmpW ((q1.toUInt64 >>> ((32 : Int32) &&& 0x3f).toInt64.toUInt64).toInt64) (0 : Int64)))])) _
    refine XS.ifYes X2.here hx rfl (pc0 := 17) (pc' := 35) rfl (hb hby d1_17) rfl (XT.ll_eq_t b2) (by decide) (by decide) ?_
    show Steps p.tables e below (T2.setTop (mkF m 35 #[.val (.ref a), .val (.int p1), .val (.long q1), .second] [])) _
    refine XS.aloadN X2.here hx rfl (hb hby d1_35) rfl rfl ?_
    show Steps p.tables e below (T2.setTop (mkF m 36 #[.val (.ref a), .val (.int p1), .val (.long q1), .second] [(.ref a)])) _
    refine XS.iloadN X2.here hx rfl (hb hby d1_36) rfl ?_
    exact Steps.refl _
  obtain ⟨T5, h5, X5, e5, W5, st5⟩ := putF X2 hx hZ hown (host := "") (Or.inl (hw _ (List.mem_of_getElem? (i := 17) rfl))) Via.refl e2 F1 E0 (Or.inr ⟨(hw _ (List.mem_of_getElem? (i := 18) rfl)), rfl, hnm⟩) (hw _ (List.mem_of_getElem? (i := 3) rfl)) (ty := .int) (by decide) rfl rfl (g := (mkF m 37 #[.val (.ref a), .val (.int p1), .val (.long q1), .second] [(.int p1), (.ref a)])) rfl rfl (hb hby d1_37)
  have S6 : Steps p.tables e below Ω (T5.setTop (mkF m 40 #[.val (.ref a), .val (.int p1), .val (.long q1), .second] [])) := S4.trans (st5 _ (Steps.refl _))
  have N5 := Fr.snoc X5 N2 g
  have E1 := E0.wr W5
  have F1' : Fld Z h5 a "com/example/pathsmith/pathsmith/pcep/Monitoring" "flags" "I" (.int p1) := F1.same W5
  have F2' : Fld Z h5 a "com/example/pathsmith/pathsmith/pcep/Monitoring" "id" "J" (.long (0 : Int64)) := F2.other W5 (Or.inr (slot_ne (Or.inr (hw _ (List.mem_of_getElem? (i := 20) rfl))) (Or.inr (hw _ (List.mem_of_getElem? (i := 18) rfl))) (by decide) (t := .long) (t' := .int) (by decide) (by decide)))
  have S7 : Steps p.tables e below Ω (T5.setTop (mkF m 42 #[.val (.ref a), .val (.int p1), .val (.long q1), .second] [(.long q1), (.ref a)])) := by
    refine S6.trans ?_
    refine XS.aloadN X5.here hx rfl (hb hby d1_40) rfl rfl ?_
    show Steps p.tables e below (T5.setTop (mkF m 41 #[.val (.ref a), .val (.int p1), .val (.long q1), .second] [(.ref a)])) _
    refine XS.lloadN X5.here hx rfl (hb hby d1_41) rfl ?_
    exact Steps.refl _
  obtain ⟨T8, h8, X8, e8, W8, st8⟩ := putF X5 hx hZ hown (host := "") (Or.inl (hw _ (List.mem_of_getElem? (i := 19) rfl))) Via.refl e5 F2' E1 (Or.inr ⟨(hw _ (List.mem_of_getElem? (i := 20) rfl)), rfl, hnm⟩) (hw _ (List.mem_of_getElem? (i := 3) rfl)) (ty := .long) (by decide) rfl rfl (g := (mkF m 42 #[.val (.ref a), .val (.int p1), .val (.long q1), .second] [(.long q1), (.ref a)])) rfl rfl (hb hby d1_42)
  have S9 : Steps p.tables e below Ω (T8.setTop (mkF m 45 #[.val (.ref a), .val (.int p1), .val (.long q1), .second] [])) := S7.trans (st8 _ (Steps.refl _))
  have N8 := Fr.snoc X8 N5 g
  have E2 := E1.wr W8
  have F1'' : Fld Z h8 a "com/example/pathsmith/pathsmith/pcep/Monitoring" "flags" "I" (.int p1) := F1'.other W8 (Or.inr (slot_ne (Or.inr (hw _ (List.mem_of_getElem? (i := 18) rfl))) (Or.inr (hw _ (List.mem_of_getElem? (i := 20) rfl))) (by decide) (t := .int) (t' := .long) (by decide) (by decide)))
  have KK : Keep h0 h8 [a] := ((Keep.refl h0 [a]).wr W5 (Or.inl (List.mem_of_getElem? (i := 0) rfl))).wr W8 (Or.inl (List.mem_of_getElem? (i := 0) rfl))
  obtain ⟨fs, hr, hrun, hended, hW, hsame⟩ := X8.leave (v := none) (fun _ => rfl)
  have hfin : Steps p.tables e below Ω (T8.setFrames fs) := by
    refine S9.trans ?_
    exact X8.returnOut hx Bd.returns (hb hby d1_45) hr
  rw [hΩ] at hfin
  refine ⟨_, _, hfin, hrun, hended, _, _, rfl, ?_, ⟨_, rfl⟩, hW, hsame.mono (by decide) (by decide)⟩
  show Q1 Z a p1 q1 h0 n0 _ T8.heap _
  rw [e8]
  exact ⟨rfl, N8, KK, E2, F1''⟩
theorem d4_0 : decode prog_57_method_3_code 0 = .ok (.aload_n 0, 1) := by decide +kernel
theorem d4_1 : decode prog_57_method_3_code 1 = .ok (.getfield 19, 3) := by decide +kernel
theorem d4_4 : decode prog_57_method_3_code 4 = .ok (.iload_n 1, 1) := by decide +kernel
theorem d4_5 : decode prog_57_method_3_code 5 = .ok (.iand, 1) := by decide +kernel
theorem d4_6 : decode prog_57_method_3_code 6 = .ok (.ifCond .eq 7, 3) := by decide +kernel
theorem d4_13 : decode prog_57_method_3_code 13 = .ok (.iconst 0, 1) := by decide +kernel
theorem d4_14 : decode prog_57_method_3_code 14 = .ok (.ireturn, 1) := by decide +kernel
theorem d4_9 : decode prog_57_method_3_code 9 = .ok (.iconst 1, 1) := by decide +kernel
theorem d4_10 : decode prog_57_method_3_code 10 = .ok (.goto 4, 3) := by decide +kernel
theorem ef_rm4 (m : MethodId) (x0 : Addr) (x1 : Int32) : entryFrame m #[(.ref x0), (.int x1)] 2 = mkF m 0 #[.val (.ref x0), .val (.int x1)] [] := by first | (simp [entryFrame, mkF, argsToLocals, Value.category]; done) | rfl
def Q4 (Z : State) (a : Addr) (s1 : Int32) (p1 : Int32) (h0 : Heap) (n0 : Nat) (v : Option Value) (h : Heap) (L : List Loc) : Prop := v = some (.int (own_has p1 s1)) ∧ Fr n0 L ∧ h = h0
set_option maxRecDepth 65536 in
set_option maxHeartbeats 40000000 in
theorem rm4 (l : Launch) (Z : State) (a0 : Array Value) (hw : ∀ d ∈ tables_1, d.before a0 Z = true) (ws : List Jvm.Cond) (a : Addr) (s1 : Int32) (p1 : Int32) (h0 : Heap) (n0 : Nat) (Z0 : n0 ≤ h0.size) (F1 : Fld Z h0 a "com/example/pathsmith/pathsmith/pcep/Monitoring" "flags" "I" (.int p1)) :
    MetFree l (⟨"com/example/pathsmith/pathsmith/pcep/Monitoring", "has", "(I)Z"⟩ : MethodName) (head1 (Jvm.Cond.code (⟨"com/example/pathsmith/pathsmith/pcep/Monitoring", "has", "(I)Z"⟩ : MethodName) prog_57_method_3_code 2 (some .boolean) :: ws) ({ frames := 0, cells := 0, slots := 0, locals := 0 } : Room)) (fun aa U => aa = #[(.ref a), (.int s1)] ∧ Z.Warmed39 U.vm ∧ U.heap = h0) (fun _ _ _ _ _ => True) (fun _ U o U' => ∃ v L, o = .returned v ∧ Q4 Z a s1 p1 h0 n0 v U'.heap L ∧ FrameEnd U o U' L ({ frames := 0, cells := 0, slots := 0, locals := 0 } : Room).cells ({ frames := 0, cells := 0, slots := 0, locals := 0 } : Room).slots) := by
  refine MetFree.of_bodySF (plainFor_of_name pn_1) hisR ?_
  intro p e s m args below meth c s₁ Bd hml0 hP hK
  obtain ⟨rfl, hZ, hh⟩ := hP
  have hx := Bd.exec
  have hby := Bd.bytes
  have hml : c.maxLocals = 2 := hml0
  have hown : s.vm.findClass "com/example/pathsmith/pathsmith/pcep/Monitoring" = some m.cls := findClass_of_methodNamed Bd.named
  have hnm := (name_of_methodNamed Bd.named Bd.method).1
  have X0 : Stand p l e ({ frames := 0, cells := 0, slots := 0, locals := 0 } : Room) s m #[(.ref a), (.int s1)] below meth c s₁ [] 0 0 := Stand.of_body Bd
  have e0 : s₁.heap = h0 := by rw [← hh, Bd.state]; rfl
  have N0 := Fr.nil n0
  obtain ⟨Ω, hΩ⟩ : ∃ z, z = s₁.setTop (entryFrame m #[(.ref a), (.int s1)] 2) := ⟨_, rfl⟩
  have S0 : Steps p.tables e below Ω (s₁.setTop (mkF m 0 #[.val (.ref a), .val (.int s1)] [])) := by rw [hΩ]; exact castTop (ef_rm4 m a s1) (Steps.refl _)
  have S1 : Steps p.tables e below Ω (s₁.setTop (mkF m 1 #[.val (.ref a), .val (.int s1)] [(.ref a)])) := by
    refine S0.trans ?_
    refine XS.aloadN X0.here hx rfl (hb hby d4_0) rfl rfl ?_
    exact Steps.refl _
  obtain ⟨T2, X2, e2, st2⟩ := getF X0 hx hZ hown (host := "") (Or.inl (hw _ (List.mem_of_getElem? (i := 17) rfl))) Via.refl e0 F1 (g := (mkF m 1 #[.val (.ref a), .val (.int s1)] [(.ref a)])) rfl rfl (hb hby d4_1)
  have S3 : Steps p.tables e below Ω (T2.setTop (mkF m 4 #[.val (.ref a), .val (.int s1)] [(.int p1)])) := S1.trans (st2 _ (Steps.refl _))
  have S4 : Steps p.tables e below Ω (T2.setTop (mkF m 6 #[.val (.ref a), .val (.int s1)] [(.int (p1 &&& s1))])) := by
    refine S3.trans ?_
    refine XS.iloadN X2.here hx rfl (hb hby d4_4) rfl ?_
    show Steps p.tables e below (T2.setTop (mkF m 5 #[.val (.ref a), .val (.int s1)] [(.int s1), (.int p1)])) _
    refine XS.iand X2.here hx rfl (hb hby d4_5) rfl ?_
    exact Steps.refl _
  by_cases hc1 : (p1 &&& s1) = (0 : Int32)
  · have qhc1 : (p1 &&& s1).toInt = 0 := congrArg Int32.toInt hc1
    have S5 : Steps p.tables e below Ω (T2.setTop (mkF m 14 #[.val (.ref a), .val (.int s1)] [(.int (0 : Int32))])) := by
      refine S4.trans ?_
      refine XS.ifYes X2.here hx rfl (pc0 := 6) (pc' := 13) rfl (hb hby d4_6) rfl (XT.i0_eq_t hc1) (by decide) (by decide) ?_
      show Steps p.tables e below (T2.setTop (mkF m 13 #[.val (.ref a), .val (.int s1)] [])) _
      refine XS.iconst X2.here hx rfl (hb hby d4_13) ?_
      exact Steps.refl _
    obtain ⟨fs, hr, hrun, hended, hW, hsame⟩ := X2.leave (v := some (.int (0 : Int32))) (fun h => by rw [Bd.returns] at h; cases h)
    have hfin : Steps p.tables e below Ω (T2.setFrames fs) := by
      refine S5.trans ?_
      exact own_retZ X2 hx Bd.returns (by decide) (hb hby d4_14) hr
    rw [hΩ] at hfin
    refine ⟨_, _, hfin, hrun, hended, _, _, rfl, ?_, ⟨_, rfl⟩, hW, hsame.mono (by decide) (by decide)⟩
    show Q4 Z a s1 p1 h0 n0 _ T2.heap _
    rw [e2]
    exact ⟨by rw [own_has, if_pos hc1], N0, rfl⟩
  · have qhc1 : ¬ (p1 &&& s1).toInt = 0 := fun q => hc1 (Int32.toInt_inj.mp q)
    have S6 : Steps p.tables e below Ω (T2.setTop (mkF m 14 #[.val (.ref a), .val (.int s1)] [(.int (1 : Int32))])) := by
      refine S4.trans ?_
      refine XS.ifNo X2.here hx rfl (hb hby d4_6) rfl (XT.i0_eq_f hc1) ?_
      show Steps p.tables e below (T2.setTop (mkF m 9 #[.val (.ref a), .val (.int s1)] [])) _
      refine XS.iconst X2.here hx rfl (hb hby d4_9) ?_
      show Steps p.tables e below (T2.setTop (mkF m 10 #[.val (.ref a), .val (.int s1)] [(.int (1 : Int32))])) _
      refine XS.goto X2.here hx rfl (pc0 := 10) (pc' := 14) rfl (hb hby d4_10) (by decide) (by decide) ?_
      exact Steps.refl _
    obtain ⟨fs, hr, hrun, hended, hW, hsame⟩ := X2.leave (v := some (.int (1 : Int32))) (fun h => by rw [Bd.returns] at h; cases h)
    have hfin : Steps p.tables e below Ω (T2.setFrames fs) := by
      refine S6.trans ?_
      exact own_retZ X2 hx Bd.returns (by decide) (hb hby d4_14) hr
    rw [hΩ] at hfin
    refine ⟨_, _, hfin, hrun, hended, _, _, rfl, ?_, ⟨_, rfl⟩, hW, hsame.mono (by decide) (by decide)⟩
    show Q4 Z a s1 p1 h0 n0 _ T2.heap _
    rw [e2]
    exact ⟨by rw [own_has, if_neg hc1], N0, rfl⟩
theorem pd_1 : parseMethodDescriptor "(IJ)V" = some ⟨[.int, .long], none⟩ := by decide +kernel
theorem pd_2 : parseMethodDescriptor "(I)Z" = some ⟨[.int], some .boolean⟩ := by decide +kernel
theorem pn_2 : plainName "com/example/pathsmith/pathsmith/pcep/MonitoringHasPinLaw" = true := by first | (simp [plainName, overriddenIn]; done) | decide +kernel
theorem ef_rm0 (m : MethodId) (x0 : Int32) (x1 : Int64) (x2 : Int32) (x3 : Int32) (x4 : Int32) : entryFrame m #[(.int x0), (.long x1), (.int x2), (.int x3), (.int x4)] maxLocals = mkF m 0 #[.val (.int x0), .val (.long x1), .second, .val (.int x2), .val (.int x3), .val (.int x4), .unset, .unset, .unset, .unset, .unset, .unset, .unset, .unset, .unset, .unset, .unset, .unset, .unset] [] := by first | (simp [entryFrame, mkF, argsToLocals, Value.category, maxLocals]; done) | rfl
def Q0 (Z : State) (pp : Int32) (qq : Int64) (a1 : Int32) (b1 : Int32) (k1 : Int32) (h0 : Heap) (n0 : Nat) (v : Option Value) (h : Heap) (L : List Loc) : Prop := v = some (.int 1) ∧ Fr n0 L
set_option maxRecDepth 65536 in
set_option maxHeartbeats 40000000 in
theorem rm0 (l : Launch) (Z : State) (a0 : Array Value) (hw : ∀ d ∈ tables_1, d.before a0 Z = true) (ws : List Jvm.Cond) (pp : Int32) (qq : Int64) (a1 : Int32) (b1 : Int32) (k1 : Int32) (h0 : Heap) (n0 : Nat) (Z0 : n0 ≤ h0.size) :
    MetFree l x (head1 (Jvm.Cond.code x code maxLocals ret :: ws) room_1) (fun aa U => aa = #[(.int pp), (.long qq), (.int a1), (.int b1), (.int k1)] ∧ Z.Warmed39 U.vm ∧ U.heap = h0) (fun _ _ _ _ _ => True) (fun _ U o U' => ∃ v L, o = .returned v ∧ Q0 Z pp qq a1 b1 k1 h0 n0 v U'.heap L ∧ FrameEnd U o U' L room_1.cells room_1.slots) := by
  refine MetFree.of_bodySF (plainFor_of_name pn_2) hisR ?_
  intro p e s m args below meth c s₁ Bd hml0 hP hK
  obtain ⟨rfl, hZ, hh⟩ := hP
  have hx := Bd.exec
  have hby := Bd.bytes
  have hml : c.maxLocals = 19 := hml0
  have hown : s.vm.findClass "com/example/pathsmith/pathsmith/pcep/MonitoringHasPinLaw" = some m.cls := findClass_of_methodNamed Bd.named
  have hnm := (name_of_methodNamed Bd.named Bd.method).1
  have X0 : Stand p l e room_1 s m #[(.int pp), (.long qq), (.int a1), (.int b1), (.int k1)] below meth c s₁ [] 0 0 := Stand.of_body Bd
  have e0 : s₁.heap = h0 := by rw [← hh, Bd.state]; rfl
  have N0 := Fr.nil n0
  obtain ⟨Ω, hΩ⟩ : ∃ z, z = s₁.setTop (entryFrame m #[(.int pp), (.long qq), (.int a1), (.int b1), (.int k1)] maxLocals) := ⟨_, rfl⟩
  have S0 : Steps p.tables e below Ω (s₁.setTop (mkF m 0 #[.val (.int pp), .val (.long qq), .second, .val (.int a1), .val (.int b1), .val (.int k1), .unset, .unset, .unset, .unset, .unset, .unset, .unset, .unset, .unset, .unset, .unset, .unset, .unset] [])) := by rw [hΩ]; exact castTop (ef_rm0 m pp qq a1 b1 k1) (Steps.refl _)
  have S1 : Steps p.tables e below Ω (s₁.setTop (mkF m 13 #[.val (.int pp), .val (.long qq), .second, .val (.int a1), .val (.int b1), .val (.int k1), .val (.int (pp &&& (16777215 : Int32))), .val (.long (qq &&& (4294967295 : Int64))), .second, .unset, .unset, .unset, .unset, .unset, .unset, .unset, .unset, .unset, .unset] [])) := by
    refine S0.trans ?_
    refine XS.iloadN X0.here hx rfl (hb hby at_0) rfl ?_
    show Steps p.tables e below (s₁.setTop (mkF m 1 #[.val (.int pp), .val (.long qq), .second, .val (.int a1), .val (.int b1), .val (.int k1), .unset, .unset, .unset, .unset, .unset, .unset, .unset, .unset, .unset, .unset, .unset, .unset, .unset] [(.int pp)])) _
    refine X0.ldcInt hx hown (mvT hZ (hw _ (List.mem_of_getElem? (i := 0) rfl))) (g := (mkF m 1 #[.val (.int pp), .val (.long qq), .second, .val (.int a1), .val (.int b1), .val (.int k1), .unset, .unset, .unset, .unset, .unset, .unset, .unset, .unset, .unset, .unset, .unset, .unset, .unset] [(.int pp)])) rfl (hb hby at_1) _ ?_
    show Steps p.tables e below (s₁.setTop (mkF m 3 #[.val (.int pp), .val (.long qq), .second, .val (.int a1), .val (.int b1), .val (.int k1), .unset, .unset, .unset, .unset, .unset, .unset, .unset, .unset, .unset, .unset, .unset, .unset, .unset] [(.int (16777215 : Int32)), (.int pp)])) _
    refine XS.iand X0.here hx rfl (hb hby at_3) rfl ?_
    show Steps p.tables e below (s₁.setTop (mkF m 4 #[.val (.int pp), .val (.long qq), .second, .val (.int a1), .val (.int b1), .val (.int k1), .unset, .unset, .unset, .unset, .unset, .unset, .unset, .unset, .unset, .unset, .unset, .unset, .unset] [(.int (pp &&& (16777215 : Int32)))])) _
    refine XS.istore X0.here hx rfl (hb hby at_4) rfl (l' := #[.val (.int pp), .val (.long qq), .second, .val (.int a1), .val (.int b1), .val (.int k1), .val (.int (pp &&& (16777215 : Int32))), .unset, .unset, .unset, .unset, .unset, .unset, .unset, .unset, .unset, .unset, .unset, .unset]) rfl ?_
    show Steps p.tables e below (s₁.setTop (mkF m 6 #[.val (.int pp), .val (.long qq), .second, .val (.int a1), .val (.int b1), .val (.int k1), .val (.int (pp &&& (16777215 : Int32))), .unset, .unset, .unset, .unset, .unset, .unset, .unset, .unset, .unset, .unset, .unset, .unset] [])) _
    refine XS.lloadN X0.here hx rfl (hb hby at_6) rfl ?_
    show Steps p.tables e below (s₁.setTop (mkF m 7 #[.val (.int pp), .val (.long qq), .second, .val (.int a1), .val (.int b1), .val (.int k1), .val (.int (pp &&& (16777215 : Int32))), .unset, .unset, .unset, .unset, .unset, .unset, .unset, .unset, .unset, .unset, .unset, .unset] [(.long qq)])) _
    refine X0.ldc2Long hx hown (mvT hZ (hw _ (List.mem_of_getElem? (i := 1) rfl))) (g := (mkF m 7 #[.val (.int pp), .val (.long qq), .second, .val (.int a1), .val (.int b1), .val (.int k1), .val (.int (pp &&& (16777215 : Int32))), .unset, .unset, .unset, .unset, .unset, .unset, .unset, .unset, .unset, .unset, .unset, .unset] [(.long qq)])) rfl (hb hby at_7) _ ?_
    show Steps p.tables e below (s₁.setTop (mkF m 10 #[.val (.int pp), .val (.long qq), .second, .val (.int a1), .val (.int b1), .val (.int k1), .val (.int (pp &&& (16777215 : Int32))), .unset, .unset, .unset, .unset, .unset, .unset, .unset, .unset, .unset, .unset, .unset, .unset] [(.long (4294967295 : Int64)), (.long qq)])) _
    refine XS.land X0.here hx rfl (hb hby at_10) rfl ?_
    show Steps p.tables e below (s₁.setTop (mkF m 11 #[.val (.int pp), .val (.long qq), .second, .val (.int a1), .val (.int b1), .val (.int k1), .val (.int (pp &&& (16777215 : Int32))), .unset, .unset, .unset, .unset, .unset, .unset, .unset, .unset, .unset, .unset, .unset, .unset] [(.long (qq &&& (4294967295 : Int64)))])) _
    refine XS.lstore X0.here hx rfl (hb hby at_11) rfl (l' := #[.val (.int pp), .val (.long qq), .second, .val (.int a1), .val (.int b1), .val (.int k1), .val (.int (pp &&& (16777215 : Int32))), .val (.long (qq &&& (4294967295 : Int64))), .second, .unset, .unset, .unset, .unset, .unset, .unset, .unset, .unset, .unset, .unset]) rfl ?_
    exact Steps.refl _
  obtain ⟨f, h_f⟩ : ∃ z : Int32, z = (pp &&& (16777215 : Int32)) := ⟨_, rfl⟩
  rw [← h_f] at S1
  obtain ⟨id, h_id⟩ : ∃ z : Int64, z = (qq &&& (4294967295 : Int64)) := ⟨_, rfl⟩
  rw [← h_id] at S1
  obtain ⟨T2, h2, X2, e2, E2, A2, D2, -, st2⟩ := newO X0 hx hZ hown (hw _ (List.mem_of_getElem? (i := 2) rfl)) (hw _ (List.mem_of_getElem? (i := 3) rfl)) (hw _ (List.mem_of_getElem? (i := 4) rfl)) e0 (g := (mkF m 13 #[.val (.int pp), .val (.long qq), .second, .val (.int a1), .val (.int b1), .val (.int k1), .val (.int f), .val (.long id), .second, .unset, .unset, .unset, .unset, .unset, .unset, .unset, .unset, .unset, .unset] [])) rfl (hb hby at_13) (by decide) (by decide)
  obtain ⟨b, s_b⟩ : ∃ z, z = h0.size := ⟨_, rfl⟩
  rw [← s_b] at A2 D2 st2
  have g_b : n0 ≤ b := Nat.le_trans Z0 (Nat.le_of_eq s_b.symm)
  have F_flags_b : Fld Z h2 b "com/example/pathsmith/pathsmith/pcep/Monitoring" "flags" "I" (.int (0 : Int32)) := D2 (Or.inr (hw _ (List.mem_of_getElem? (i := 18) rfl))) (ty := .int) (by decide)
  have F_id_b : Fld Z h2 b "com/example/pathsmith/pathsmith/pcep/Monitoring" "id" "J" (.long (0 : Int64)) := D2 (Or.inr (hw _ (List.mem_of_getElem? (i := 20) rfl))) (ty := .long) (by decide)
  have S3 : Steps p.tables e below Ω (T2.setTop (mkF m 16 #[.val (.int pp), .val (.long qq), .second, .val (.int a1), .val (.int b1), .val (.int k1), .val (.int f), .val (.long id), .second, .unset, .unset, .unset, .unset, .unset, .unset, .unset, .unset, .unset, .unset] [(.ref b)])) := S1.trans (st2 _ (Steps.refl _))
  have S4 : Steps p.tables e below Ω (T2.setTop (mkF m 21 #[.val (.int pp), .val (.long qq), .second, .val (.int a1), .val (.int b1), .val (.int k1), .val (.int f), .val (.long id), .second, .unset, .unset, .unset, .unset, .unset, .unset, .unset, .unset, .unset, .unset] [(.long id), (.int f), (.ref b), (.ref b)])) := by
    refine S3.trans ?_
    refine XS.dup X2.here hx rfl (hb hby at_16) rfl rfl ?_
    show Steps p.tables e below (T2.setTop (mkF m 17 #[.val (.int pp), .val (.long qq), .second, .val (.int a1), .val (.int b1), .val (.int k1), .val (.int f), .val (.long id), .second, .unset, .unset, .unset, .unset, .unset, .unset, .unset, .unset, .unset, .unset] [(.ref b), (.ref b)])) _
    refine XS.iload X2.here hx rfl (hb hby at_17) rfl ?_
    show Steps p.tables e below (T2.setTop (mkF m 19 #[.val (.int pp), .val (.long qq), .second, .val (.int a1), .val (.int b1), .val (.int k1), .val (.int f), .val (.long id), .second, .unset, .unset, .unset, .unset, .unset, .unset, .unset, .unset, .unset, .unset] [(.int f), (.ref b), (.ref b)])) _
    refine XS.lload X2.here hx rfl (hb hby at_19) rfl ?_
    exact Steps.refl _
  obtain ⟨_, _, ⟨T5, L5, k5, n5⟩, -, X5, ⟨Lc5, hQ5, l5, y5, z5⟩, st5⟩ := X2.specialBack hx (y := (⟨"com/example/pathsmith/pathsmith/pcep/Monitoring", "<init>", "(IJ)V"⟩ : MethodName)) rfl hown (mvT hZ (hw _ (List.mem_of_getElem? (i := 5) rfl))) (mvT hZ (hw _ (List.mem_of_getElem? (i := 6) rfl))) (mvT hZ (hw _ (List.mem_of_getElem? (i := 7) rfl))) (by decide) (backOf (W := 1) (rm1 l Z a0 hw [] b f id  h2 n0 (Nat.le_trans Z0 E2.1) A2 F_flags_b F_id_b g_b (by rw [h_f]; exact own_and24 pp) (by rw [h_id]; exact own_id32 qq)) hZ (hw _ (List.mem_of_getElem? (i := 7) rfl)) (hw _ (List.mem_of_getElem? (i := 4) rfl)) (by decide) (by decide)) (g := (mkF m 21 #[.val (.int pp), .val (.long qq), .second, .val (.int a1), .val (.int b1), .val (.int k1), .val (.int f), .val (.long id), .second, .unset, .unset, .unset, .unset, .unset, .unset, .unset, .unset, .unset, .unset] [(.long id), (.int f), (.ref b), (.ref b)])) rfl (by rw [hml]; rfl) (Steps.refl _) (a := b) (argsL := [(.int f), (.long id)]) (rest := [(.ref b)]) (lenOf pd_1 rfl) rfl (by show 2 * 0 + _ ≤ _; exact Nat.le_of_eq rfl) (hb hby at_21) (fun _ _ => ⟨rfl, e2, (by decide : 1 + 0 ≤ _), (by decide : 2 + 0 ≤ _)⟩)
  dsimp only [Pt.U, Pt.locs, Pt.cells, Pt.slots] at X5 l5 y5 z5 st5 hQ5
  subst l5 y5 z5
  obtain ⟨rfl, N5q, K5, E5, F1⟩ := hQ5
  have N5 := Fr.app N0 N5q
  have S6 : Steps p.tables e below Ω (T5.setTop (mkF m 24 #[.val (.int pp), .val (.long qq), .second, .val (.int a1), .val (.int b1), .val (.int k1), .val (.int f), .val (.long id), .second, .unset, .unset, .unset, .unset, .unset, .unset, .unset, .unset, .unset, .unset] [(.ref b)])) := S4.trans st5
  have S7 : Steps p.tables e below Ω (T5.setTop (mkF m 43 #[.val (.int pp), .val (.long qq), .second, .val (.int a1), .val (.int b1), .val (.int k1), .val (.int f), .val (.long id), .second, .val (.ref b), .val (.int (k1 &&& (31 : Int32))), .val (.int ((1 : Int32) <<< ((k1 &&& (31 : Int32)) &&& 31))), .unset, .unset, .unset, .unset, .unset, .unset, .unset] [(.int ((1 : Int32) <<< ((k1 &&& (31 : Int32)) &&& 31))), (.ref b)])) := by
    refine S6.trans ?_
    refine XS.astore X5.here hx rfl (hb hby at_24) rfl rfl (l' := #[.val (.int pp), .val (.long qq), .second, .val (.int a1), .val (.int b1), .val (.int k1), .val (.int f), .val (.long id), .second, .val (.ref b), .unset, .unset, .unset, .unset, .unset, .unset, .unset, .unset, .unset]) rfl ?_
    show Steps p.tables e below (T5.setTop (mkF m 26 #[.val (.int pp), .val (.long qq), .second, .val (.int a1), .val (.int b1), .val (.int k1), .val (.int f), .val (.long id), .second, .val (.ref b), .unset, .unset, .unset, .unset, .unset, .unset, .unset, .unset, .unset] [])) _
    refine XS.iload X5.here hx rfl (hb hby at_26) rfl ?_
    show Steps p.tables e below (T5.setTop (mkF m 28 #[.val (.int pp), .val (.long qq), .second, .val (.int a1), .val (.int b1), .val (.int k1), .val (.int f), .val (.long id), .second, .val (.ref b), .unset, .unset, .unset, .unset, .unset, .unset, .unset, .unset, .unset] [(.int k1)])) _
    refine XS.bipush X5.here hx rfl (hb hby at_28) ?_
    show Steps p.tables e below (T5.setTop (mkF m 30 #[.val (.int pp), .val (.long qq), .second, .val (.int a1), .val (.int b1), .val (.int k1), .val (.int f), .val (.long id), .second, .val (.ref b), .unset, .unset, .unset, .unset, .unset, .unset, .unset, .unset, .unset] [(.int (31 : Int32)), (.int k1)])) _
    refine XS.iand X5.here hx rfl (hb hby at_30) rfl ?_
    show Steps p.tables e below (T5.setTop (mkF m 31 #[.val (.int pp), .val (.long qq), .second, .val (.int a1), .val (.int b1), .val (.int k1), .val (.int f), .val (.long id), .second, .val (.ref b), .unset, .unset, .unset, .unset, .unset, .unset, .unset, .unset, .unset] [(.int (k1 &&& (31 : Int32)))])) _
    refine XS.istore X5.here hx rfl (hb hby at_31) rfl (l' := #[.val (.int pp), .val (.long qq), .second, .val (.int a1), .val (.int b1), .val (.int k1), .val (.int f), .val (.long id), .second, .val (.ref b), .val (.int (k1 &&& (31 : Int32))), .unset, .unset, .unset, .unset, .unset, .unset, .unset, .unset]) rfl ?_
    show Steps p.tables e below (T5.setTop (mkF m 33 #[.val (.int pp), .val (.long qq), .second, .val (.int a1), .val (.int b1), .val (.int k1), .val (.int f), .val (.long id), .second, .val (.ref b), .val (.int (k1 &&& (31 : Int32))), .unset, .unset, .unset, .unset, .unset, .unset, .unset, .unset] [])) _
    refine XS.iconst X5.here hx rfl (hb hby at_33) ?_
    show Steps p.tables e below (T5.setTop (mkF m 34 #[.val (.int pp), .val (.long qq), .second, .val (.int a1), .val (.int b1), .val (.int k1), .val (.int f), .val (.long id), .second, .val (.ref b), .val (.int (k1 &&& (31 : Int32))), .unset, .unset, .unset, .unset, .unset, .unset, .unset, .unset] [(.int (1 : Int32))])) _
    refine XS.iload X5.here hx rfl (hb hby at_34) rfl ?_
    show Steps p.tables e below (T5.setTop (mkF m 36 #[.val (.int pp), .val (.long qq), .second, .val (.int a1), .val (.int b1), .val (.int k1), .val (.int f), .val (.long id), .second, .val (.ref b), .val (.int (k1 &&& (31 : Int32))), .unset, .unset, .unset, .unset, .unset, .unset, .unset, .unset] [(.int (k1 &&& (31 : Int32))), (.int (1 : Int32))])) _
    refine XS.ishl X5.here hx rfl (hb hby at_36) rfl ?_
    show Steps p.tables e below (T5.setTop (mkF m 37 #[.val (.int pp), .val (.long qq), .second, .val (.int a1), .val (.int b1), .val (.int k1), .val (.int f), .val (.long id), .second, .val (.ref b), .val (.int (k1 &&& (31 : Int32))), .unset, .unset, .unset, .unset, .unset, .unset, .unset, .unset] [(.int ((1 : Int32) <<< ((k1 &&& (31 : Int32)) &&& 31)))])) _
    refine XS.istore X5.here hx rfl (hb hby at_37) rfl (l' := #[.val (.int pp), .val (.long qq), .second, .val (.int a1), .val (.int b1), .val (.int k1), .val (.int f), .val (.long id), .second, .val (.ref b), .val (.int (k1 &&& (31 : Int32))), .val (.int ((1 : Int32) <<< ((k1 &&& (31 : Int32)) &&& 31))), .unset, .unset, .unset, .unset, .unset, .unset, .unset]) rfl ?_
    show Steps p.tables e below (T5.setTop (mkF m 39 #[.val (.int pp), .val (.long qq), .second, .val (.int a1), .val (.int b1), .val (.int k1), .val (.int f), .val (.long id), .second, .val (.ref b), .val (.int (k1 &&& (31 : Int32))), .val (.int ((1 : Int32) <<< ((k1 &&& (31 : Int32)) &&& 31))), .unset, .unset, .unset, .unset, .unset, .unset, .unset] [])) _
    refine XS.aload X5.here hx rfl (hb hby at_39) rfl rfl ?_
    show Steps p.tables e below (T5.setTop (mkF m 41 #[.val (.int pp), .val (.long qq), .second, .val (.int a1), .val (.int b1), .val (.int k1), .val (.int f), .val (.long id), .second, .val (.ref b), .val (.int (k1 &&& (31 : Int32))), .val (.int ((1 : Int32) <<< ((k1 &&& (31 : Int32)) &&& 31))), .unset, .unset, .unset, .unset, .unset, .unset, .unset] [(.ref b)])) _
    refine XS.iload X5.here hx rfl (hb hby at_41) rfl ?_
    exact Steps.refl _
  obtain ⟨cq8, kq8, q8a, q8b, q8c⟩ := isOf hZ rfl E5
  obtain ⟨_, _, ⟨T8, L8, k8, n8⟩, -, X8, ⟨Lc8, hQ8, l8, y8, z8⟩, st8⟩ := X5.virtualBack hx (y := (⟨"com/example/pathsmith/pathsmith/pcep/Monitoring", "has", "(I)Z"⟩ : MethodName)) (z := (⟨"com/example/pathsmith/pathsmith/pcep/Monitoring", "has", "(I)Z"⟩ : MethodName)) hown (mvT hZ (hw _ (List.mem_of_getElem? (i := 21) rfl))) (mvT hZ (hw _ (List.mem_of_getElem? (i := 22) rfl))) (notFace_of_selects (args := #[]) (mvT hZ (hw _ (List.mem_of_getElem? (i := 24) rfl)))) (mvT hZ (hw _ (List.mem_of_getElem? (i := 24) rfl))) (mvT hZ (hw _ (List.mem_of_getElem? (i := 23) rfl))) (by decide) (backOf (W := 0) (rm4 l Z a0 hw [] b ((1 : Int32) <<< ((k1 &&& (31 : Int32)) &&& 31)) f T5.heap n0 (Nat.le_trans (Nat.le_trans Z0 E2.1) K5.1) F1) hZ (hw _ (List.mem_of_getElem? (i := 25) rfl)) (hw _ (List.mem_of_getElem? (i := 4) rfl)) (by decide) (by decide)) q8a q8c (g := (mkF m 43 #[.val (.int pp), .val (.long qq), .second, .val (.int a1), .val (.int b1), .val (.int k1), .val (.int f), .val (.long id), .second, .val (.ref b), .val (.int (k1 &&& (31 : Int32))), .val (.int ((1 : Int32) <<< ((k1 &&& (31 : Int32)) &&& 31))), .unset, .unset, .unset, .unset, .unset, .unset, .unset] [(.int ((1 : Int32) <<< ((k1 &&& (31 : Int32)) &&& 31))), (.ref b)])) rfl (by rw [hml]; rfl) (Steps.refl _) (argsL := [(.int ((1 : Int32) <<< ((k1 &&& (31 : Int32)) &&& 31)))]) (rest := []) (lenOf pd_2 rfl) rfl (by show 2 * 0 + _ ≤ _; exact Nat.le_of_eq rfl) (hb hby at_43) (fun _ _ => ⟨rfl, rfl, (by decide : 1 + 0 ≤ _), (by decide : 2 + 0 ≤ _)⟩)
  dsimp only [Pt.U, Pt.locs, Pt.cells, Pt.slots] at X8 l8 y8 z8 st8 hQ8
  subst l8 y8 z8
  obtain ⟨rfl, N8q, e8⟩ := hQ8
  have N8 := Fr.app N5 N8q
  have S9 : Steps p.tables e below Ω (T8.setTop (mkF m 46 #[.val (.int pp), .val (.long qq), .second, .val (.int a1), .val (.int b1), .val (.int k1), .val (.int f), .val (.long id), .second, .val (.ref b), .val (.int (k1 &&& (31 : Int32))), .val (.int ((1 : Int32) <<< ((k1 &&& (31 : Int32)) &&& 31))), .unset, .unset, .unset, .unset, .unset, .unset, .unset] [(.int (own_has f ((1 : Int32) <<< ((k1 &&& (31 : Int32)) &&& 31))))])) := S7.trans st8
  have S10 : Steps p.tables e below Ω (T8.setTop (mkF m 53 #[.val (.int pp), .val (.long qq), .second, .val (.int a1), .val (.int b1), .val (.int k1), .val (.int f), .val (.long id), .second, .val (.ref b), .val (.int (k1 &&& (31 : Int32))), .val (.int ((1 : Int32) <<< ((k1 &&& (31 : Int32)) &&& 31))), .unset, .unset, .unset, .unset, .unset, .unset, .unset] [(.int (((f.toUInt32 >>> ((k1 &&& (31 : Int32)) &&& 31).toUInt32).toInt32) &&& (1 : Int32))), (.int (own_has f ((1 : Int32) <<< ((k1 &&& (31 : Int32)) &&& 31))))])) := by
    refine S9.trans ?_
    refine XS.iload X8.here hx rfl (hb hby at_46) rfl ?_
    show Steps p.tables e below (T8.setTop (mkF m 48 #[.val (.int pp), .val (.long qq), .second, .val (.int a1), .val (.int b1), .val (.int k1), .val (.int f), .val (.long id), .second, .val (.ref b), .val (.int (k1 &&& (31 : Int32))), .val (.int ((1 : Int32) <<< ((k1 &&& (31 : Int32)) &&& 31))), .unset, .unset, .unset, .unset, .unset, .unset, .unset] [(.int f), (.int (own_has f ((1 : Int32) <<< ((k1 &&& (31 : Int32)) &&& 31))))])) _
    refine XS.iload X8.here hx rfl (hb hby at_48) rfl ?_
    show Steps p.tables e below (T8.setTop (mkF m 50 #[.val (.int pp), .val (.long qq), .second, .val (.int a1), .val (.int b1), .val (.int k1), .val (.int f), .val (.long id), .second, .val (.ref b), .val (.int (k1 &&& (31 : Int32))), .val (.int ((1 : Int32) <<< ((k1 &&& (31 : Int32)) &&& 31))), .unset, .unset, .unset, .unset, .unset, .unset, .unset] [(.int (k1 &&& (31 : Int32))), (.int f), (.int (own_has f ((1 : Int32) <<< ((k1 &&& (31 : Int32)) &&& 31))))])) _
    refine XS.iushr X8.here hx rfl (hb hby at_50) rfl ?_
    show Steps p.tables e below (T8.setTop (mkF m 51 #[.val (.int pp), .val (.long qq), .second, .val (.int a1), .val (.int b1), .val (.int k1), .val (.int f), .val (.long id), .second, .val (.ref b), .val (.int (k1 &&& (31 : Int32))), .val (.int ((1 : Int32) <<< ((k1 &&& (31 : Int32)) &&& 31))), .unset, .unset, .unset, .unset, .unset, .unset, .unset] [(.int ((f.toUInt32 >>> ((k1 &&& (31 : Int32)) &&& 31).toUInt32).toInt32)), (.int (own_has f ((1 : Int32) <<< ((k1 &&& (31 : Int32)) &&& 31))))])) _
    refine XS.iconst X8.here hx rfl (hb hby at_51) ?_
    show Steps p.tables e below (T8.setTop (mkF m 52 #[.val (.int pp), .val (.long qq), .second, .val (.int a1), .val (.int b1), .val (.int k1), .val (.int f), .val (.long id), .second, .val (.ref b), .val (.int (k1 &&& (31 : Int32))), .val (.int ((1 : Int32) <<< ((k1 &&& (31 : Int32)) &&& 31))), .unset, .unset, .unset, .unset, .unset, .unset, .unset] [(.int (1 : Int32)), (.int ((f.toUInt32 >>> ((k1 &&& (31 : Int32)) &&& 31).toUInt32).toInt32)), (.int (own_has f ((1 : Int32) <<< ((k1 &&& (31 : Int32)) &&& 31))))])) _
    refine XS.iand X8.here hx rfl (hb hby at_52) rfl ?_
    exact Steps.refl _
  obtain ⟨t1, h_t1, S12⟩ : ∃ (t1 : Int32), t1 = (if (((f.toUInt32 >>> ((k1 &&& (31 : Int32)) &&& 31).toUInt32).toInt32) &&& (1 : Int32)) = (0 : Int32) then (0 : Int32) else (1 : Int32)) ∧ Steps p.tables e below Ω (T8.setTop (mkF m 61 #[.val (.int pp), .val (.long qq), .second, .val (.int a1), .val (.int b1), .val (.int k1), .val (.int f), .val (.long id), .second, .val (.ref b), .val (.int (k1 &&& (31 : Int32))), .val (.int ((1 : Int32) <<< ((k1 &&& (31 : Int32)) &&& 31))), .unset, .unset, .unset, .unset, .unset, .unset, .unset] [(.int t1), (.int (own_has f ((1 : Int32) <<< ((k1 &&& (31 : Int32)) &&& 31))))])) := by
    by_cases c11 : (((f.toUInt32 >>> ((k1 &&& (31 : Int32)) &&& 31).toUInt32).toInt32) &&& (1 : Int32)) = (0 : Int32)
    · refine ⟨(0 : Int32), (by rw [if_pos c11]), S10.trans ?_⟩
      refine XS.ifYes X8.here hx rfl (pc0 := 53) (pc' := 60) rfl (hb hby at_53) rfl (XT.i0_eq_t c11) (by decide) (by decide) ?_
      show Steps p.tables e below (T8.setTop (mkF m 60 #[.val (.int pp), .val (.long qq), .second, .val (.int a1), .val (.int b1), .val (.int k1), .val (.int f), .val (.long id), .second, .val (.ref b), .val (.int (k1 &&& (31 : Int32))), .val (.int ((1 : Int32) <<< ((k1 &&& (31 : Int32)) &&& 31))), .unset, .unset, .unset, .unset, .unset, .unset, .unset] [(.int (own_has f ((1 : Int32) <<< ((k1 &&& (31 : Int32)) &&& 31))))])) _
      refine XS.iconst X8.here hx rfl (hb hby at_60) ?_
      exact Steps.refl _
    · refine ⟨(1 : Int32), (by rw [if_neg c11]), S10.trans ?_⟩
      refine XS.ifNo X8.here hx rfl (hb hby at_53) rfl (XT.i0_eq_f c11) ?_
      show Steps p.tables e below (T8.setTop (mkF m 56 #[.val (.int pp), .val (.long qq), .second, .val (.int a1), .val (.int b1), .val (.int k1), .val (.int f), .val (.long id), .second, .val (.ref b), .val (.int (k1 &&& (31 : Int32))), .val (.int ((1 : Int32) <<< ((k1 &&& (31 : Int32)) &&& 31))), .unset, .unset, .unset, .unset, .unset, .unset, .unset] [(.int (own_has f ((1 : Int32) <<< ((k1 &&& (31 : Int32)) &&& 31))))])) _
      refine XS.iconst X8.here hx rfl (hb hby at_56) ?_
      show Steps p.tables e below (T8.setTop (mkF m 57 #[.val (.int pp), .val (.long qq), .second, .val (.int a1), .val (.int b1), .val (.int k1), .val (.int f), .val (.long id), .second, .val (.ref b), .val (.int (k1 &&& (31 : Int32))), .val (.int ((1 : Int32) <<< ((k1 &&& (31 : Int32)) &&& 31))), .unset, .unset, .unset, .unset, .unset, .unset, .unset] [(.int (1 : Int32)), (.int (own_has f ((1 : Int32) <<< ((k1 &&& (31 : Int32)) &&& 31))))])) _
      refine XS.goto X8.here hx rfl (pc0 := 57) (pc' := 61) rfl (hb hby at_57) (by decide) (by decide) ?_
      exact Steps.refl _
  have S13 : Steps p.tables e below Ω (T8.setTop (mkF m 74 #[.val (.int pp), .val (.long qq), .second, .val (.int a1), .val (.int b1), .val (.int k1), .val (.int f), .val (.long id), .second, .val (.ref b), .val (.int (k1 &&& (31 : Int32))), .val (.int ((1 : Int32) <<< ((k1 &&& (31 : Int32)) &&& 31))), .val (.int (1 : Int32)), .unset, .unset, .unset, .unset, .unset, .unset] [(.int a1), (.ref b)])) := by
    refine S12.trans ?_
    refine XS.icmpNo X8.here hx rfl (hb hby at_61) rfl (XT.ii_ne_f ((own_bit f k1).trans h_t1.symm)) ?_
    show Steps p.tables e below (T8.setTop (mkF m 64 #[.val (.int pp), .val (.long qq), .second, .val (.int a1), .val (.int b1), .val (.int k1), .val (.int f), .val (.long id), .second, .val (.ref b), .val (.int (k1 &&& (31 : Int32))), .val (.int ((1 : Int32) <<< ((k1 &&& (31 : Int32)) &&& 31))), .unset, .unset, .unset, .unset, .unset, .unset, .unset] [])) _
    refine XS.iconst X8.here hx rfl (hb hby at_64) ?_
    show Steps p.tables e below (T8.setTop (mkF m 65 #[.val (.int pp), .val (.long qq), .second, .val (.int a1), .val (.int b1), .val (.int k1), .val (.int f), .val (.long id), .second, .val (.ref b), .val (.int (k1 &&& (31 : Int32))), .val (.int ((1 : Int32) <<< ((k1 &&& (31 : Int32)) &&& 31))), .unset, .unset, .unset, .unset, .unset, .unset, .unset] [(.int (1 : Int32))])) _
    refine XS.goto X8.here hx rfl (pc0 := 65) (pc' := 69) rfl (hb hby at_65) (by decide) (by decide) ?_
    show Steps p.tables e below (T8.setTop (mkF m 69 #[.val (.int pp), .val (.long qq), .second, .val (.int a1), .val (.int b1), .val (.int k1), .val (.int f), .val (.long id), .second, .val (.ref b), .val (.int (k1 &&& (31 : Int32))), .val (.int ((1 : Int32) <<< ((k1 &&& (31 : Int32)) &&& 31))), .unset, .unset, .unset, .unset, .unset, .unset, .unset] [(.int (1 : Int32))])) _
    refine XS.istore X8.here hx rfl (hb hby at_69) rfl (l' := #[.val (.int pp), .val (.long qq), .second, .val (.int a1), .val (.int b1), .val (.int k1), .val (.int f), .val (.long id), .second, .val (.ref b), .val (.int (k1 &&& (31 : Int32))), .val (.int ((1 : Int32) <<< ((k1 &&& (31 : Int32)) &&& 31))), .val (.int (1 : Int32)), .unset, .unset, .unset, .unset, .unset, .unset]) rfl ?_
    show Steps p.tables e below (T8.setTop (mkF m 71 #[.val (.int pp), .val (.long qq), .second, .val (.int a1), .val (.int b1), .val (.int k1), .val (.int f), .val (.long id), .second, .val (.ref b), .val (.int (k1 &&& (31 : Int32))), .val (.int ((1 : Int32) <<< ((k1 &&& (31 : Int32)) &&& 31))), .val (.int (1 : Int32)), .unset, .unset, .unset, .unset, .unset, .unset] [])) _
    refine XS.aload X8.here hx rfl (hb hby at_71) rfl rfl ?_
    show Steps p.tables e below (T8.setTop (mkF m 73 #[.val (.int pp), .val (.long qq), .second, .val (.int a1), .val (.int b1), .val (.int k1), .val (.int f), .val (.long id), .second, .val (.ref b), .val (.int (k1 &&& (31 : Int32))), .val (.int ((1 : Int32) <<< ((k1 &&& (31 : Int32)) &&& 31))), .val (.int (1 : Int32)), .unset, .unset, .unset, .unset, .unset, .unset] [(.ref b)])) _
    refine XS.iloadN X8.here hx rfl (hb hby at_73) rfl ?_
    exact Steps.refl _
  obtain ⟨cq14, kq14, q14a, q14b, q14c⟩ := isOf hZ e8 E5
  obtain ⟨_, _, ⟨T14, L14, k14, n14⟩, -, X14, ⟨Lc14, hQ14, l14, y14, z14⟩, st14⟩ := X8.virtualBack hx (y := (⟨"com/example/pathsmith/pathsmith/pcep/Monitoring", "has", "(I)Z"⟩ : MethodName)) (z := (⟨"com/example/pathsmith/pathsmith/pcep/Monitoring", "has", "(I)Z"⟩ : MethodName)) hown (mvT hZ (hw _ (List.mem_of_getElem? (i := 21) rfl))) (mvT hZ (hw _ (List.mem_of_getElem? (i := 22) rfl))) (notFace_of_selects (args := #[]) (mvT hZ (hw _ (List.mem_of_getElem? (i := 24) rfl)))) (mvT hZ (hw _ (List.mem_of_getElem? (i := 24) rfl))) (mvT hZ (hw _ (List.mem_of_getElem? (i := 23) rfl))) (by decide) (backOf (W := 0) (rm4 l Z a0 hw [] b a1 f T5.heap n0 (Nat.le_trans (Nat.le_trans Z0 E2.1) K5.1) F1) hZ (hw _ (List.mem_of_getElem? (i := 25) rfl)) (hw _ (List.mem_of_getElem? (i := 4) rfl)) (by decide) (by decide)) q14a q14c (g := (mkF m 74 #[.val (.int pp), .val (.long qq), .second, .val (.int a1), .val (.int b1), .val (.int k1), .val (.int f), .val (.long id), .second, .val (.ref b), .val (.int (k1 &&& (31 : Int32))), .val (.int ((1 : Int32) <<< ((k1 &&& (31 : Int32)) &&& 31))), .val (.int (1 : Int32)), .unset, .unset, .unset, .unset, .unset, .unset] [(.int a1), (.ref b)])) rfl (by rw [hml]; rfl) (Steps.refl _) (argsL := [(.int a1)]) (rest := []) (lenOf pd_2 rfl) rfl (by show 2 * 0 + _ ≤ _; exact Nat.le_of_eq rfl) (hb hby at_74) (fun _ _ => ⟨rfl, e8, (by decide : 1 + 0 ≤ _), (by decide : 2 + 0 ≤ _)⟩)
  dsimp only [Pt.U, Pt.locs, Pt.cells, Pt.slots] at X14 l14 y14 z14 st14 hQ14
  subst l14 y14 z14
  obtain ⟨rfl, N14q, e14⟩ := hQ14
  have N14 := Fr.app N8 N14q
  have S15 : Steps p.tables e below Ω (T14.setTop (mkF m 77 #[.val (.int pp), .val (.long qq), .second, .val (.int a1), .val (.int b1), .val (.int k1), .val (.int f), .val (.long id), .second, .val (.ref b), .val (.int (k1 &&& (31 : Int32))), .val (.int ((1 : Int32) <<< ((k1 &&& (31 : Int32)) &&& 31))), .val (.int (1 : Int32)), .unset, .unset, .unset, .unset, .unset, .unset] [(.int (own_has f a1))])) := S13.trans st14
  have S16 : Steps p.tables e below Ω (T14.setTop (mkF m 83 #[.val (.int pp), .val (.long qq), .second, .val (.int a1), .val (.int b1), .val (.int k1), .val (.int f), .val (.long id), .second, .val (.ref b), .val (.int (k1 &&& (31 : Int32))), .val (.int ((1 : Int32) <<< ((k1 &&& (31 : Int32)) &&& 31))), .val (.int (1 : Int32)), .val (.int (own_has f a1)), .unset, .unset, .unset, .unset, .unset] [(.int b1), (.ref b)])) := by
    refine S15.trans ?_
    refine XS.istore X14.here hx rfl (hb hby at_77) rfl (l' := #[.val (.int pp), .val (.long qq), .second, .val (.int a1), .val (.int b1), .val (.int k1), .val (.int f), .val (.long id), .second, .val (.ref b), .val (.int (k1 &&& (31 : Int32))), .val (.int ((1 : Int32) <<< ((k1 &&& (31 : Int32)) &&& 31))), .val (.int (1 : Int32)), .val (.int (own_has f a1)), .unset, .unset, .unset, .unset, .unset]) rfl ?_
    show Steps p.tables e below (T14.setTop (mkF m 79 #[.val (.int pp), .val (.long qq), .second, .val (.int a1), .val (.int b1), .val (.int k1), .val (.int f), .val (.long id), .second, .val (.ref b), .val (.int (k1 &&& (31 : Int32))), .val (.int ((1 : Int32) <<< ((k1 &&& (31 : Int32)) &&& 31))), .val (.int (1 : Int32)), .val (.int (own_has f a1)), .unset, .unset, .unset, .unset, .unset] [])) _
    refine XS.aload X14.here hx rfl (hb hby at_79) rfl rfl ?_
    show Steps p.tables e below (T14.setTop (mkF m 81 #[.val (.int pp), .val (.long qq), .second, .val (.int a1), .val (.int b1), .val (.int k1), .val (.int f), .val (.long id), .second, .val (.ref b), .val (.int (k1 &&& (31 : Int32))), .val (.int ((1 : Int32) <<< ((k1 &&& (31 : Int32)) &&& 31))), .val (.int (1 : Int32)), .val (.int (own_has f a1)), .unset, .unset, .unset, .unset, .unset] [(.ref b)])) _
    refine XS.iload X14.here hx rfl (hb hby at_81) rfl ?_
    exact Steps.refl _
  obtain ⟨cq17, kq17, q17a, q17b, q17c⟩ := isOf hZ e14 E5
  obtain ⟨_, _, ⟨T17, L17, k17, n17⟩, -, X17, ⟨Lc17, hQ17, l17, y17, z17⟩, st17⟩ := X14.virtualBack hx (y := (⟨"com/example/pathsmith/pathsmith/pcep/Monitoring", "has", "(I)Z"⟩ : MethodName)) (z := (⟨"com/example/pathsmith/pathsmith/pcep/Monitoring", "has", "(I)Z"⟩ : MethodName)) hown (mvT hZ (hw _ (List.mem_of_getElem? (i := 21) rfl))) (mvT hZ (hw _ (List.mem_of_getElem? (i := 22) rfl))) (notFace_of_selects (args := #[]) (mvT hZ (hw _ (List.mem_of_getElem? (i := 24) rfl)))) (mvT hZ (hw _ (List.mem_of_getElem? (i := 24) rfl))) (mvT hZ (hw _ (List.mem_of_getElem? (i := 23) rfl))) (by decide) (backOf (W := 0) (rm4 l Z a0 hw [] b b1 f T5.heap n0 (Nat.le_trans (Nat.le_trans Z0 E2.1) K5.1) F1) hZ (hw _ (List.mem_of_getElem? (i := 25) rfl)) (hw _ (List.mem_of_getElem? (i := 4) rfl)) (by decide) (by decide)) q17a q17c (g := (mkF m 83 #[.val (.int pp), .val (.long qq), .second, .val (.int a1), .val (.int b1), .val (.int k1), .val (.int f), .val (.long id), .second, .val (.ref b), .val (.int (k1 &&& (31 : Int32))), .val (.int ((1 : Int32) <<< ((k1 &&& (31 : Int32)) &&& 31))), .val (.int (1 : Int32)), .val (.int (own_has f a1)), .unset, .unset, .unset, .unset, .unset] [(.int b1), (.ref b)])) rfl (by rw [hml]; rfl) (Steps.refl _) (argsL := [(.int b1)]) (rest := []) (lenOf pd_2 rfl) rfl (by show 2 * 0 + _ ≤ _; exact Nat.le_of_eq rfl) (hb hby at_83) (fun _ _ => ⟨rfl, e14, (by decide : 1 + 0 ≤ _), (by decide : 2 + 0 ≤ _)⟩)
  dsimp only [Pt.U, Pt.locs, Pt.cells, Pt.slots] at X17 l17 y17 z17 st17 hQ17
  subst l17 y17 z17
  obtain ⟨rfl, N17q, e17⟩ := hQ17
  have N17 := Fr.app N14 N17q
  have S18 : Steps p.tables e below Ω (T17.setTop (mkF m 86 #[.val (.int pp), .val (.long qq), .second, .val (.int a1), .val (.int b1), .val (.int k1), .val (.int f), .val (.long id), .second, .val (.ref b), .val (.int (k1 &&& (31 : Int32))), .val (.int ((1 : Int32) <<< ((k1 &&& (31 : Int32)) &&& 31))), .val (.int (1 : Int32)), .val (.int (own_has f a1)), .unset, .unset, .unset, .unset, .unset] [(.int (own_has f b1))])) := S16.trans st17
  have S19 : Steps p.tables e below Ω (T17.setTop (mkF m 94 #[.val (.int pp), .val (.long qq), .second, .val (.int a1), .val (.int b1), .val (.int k1), .val (.int f), .val (.long id), .second, .val (.ref b), .val (.int (k1 &&& (31 : Int32))), .val (.int ((1 : Int32) <<< ((k1 &&& (31 : Int32)) &&& 31))), .val (.int (1 : Int32)), .val (.int (own_has f a1)), .val (.int (own_has f b1)), .unset, .unset, .unset, .unset] [(.int (a1 ||| b1)), (.ref b)])) := by
    refine S18.trans ?_
    refine XS.istore X17.here hx rfl (hb hby at_86) rfl (l' := #[.val (.int pp), .val (.long qq), .second, .val (.int a1), .val (.int b1), .val (.int k1), .val (.int f), .val (.long id), .second, .val (.ref b), .val (.int (k1 &&& (31 : Int32))), .val (.int ((1 : Int32) <<< ((k1 &&& (31 : Int32)) &&& 31))), .val (.int (1 : Int32)), .val (.int (own_has f a1)), .val (.int (own_has f b1)), .unset, .unset, .unset, .unset]) rfl ?_
    show Steps p.tables e below (T17.setTop (mkF m 88 #[.val (.int pp), .val (.long qq), .second, .val (.int a1), .val (.int b1), .val (.int k1), .val (.int f), .val (.long id), .second, .val (.ref b), .val (.int (k1 &&& (31 : Int32))), .val (.int ((1 : Int32) <<< ((k1 &&& (31 : Int32)) &&& 31))), .val (.int (1 : Int32)), .val (.int (own_has f a1)), .val (.int (own_has f b1)), .unset, .unset, .unset, .unset] [])) _
    refine XS.aload X17.here hx rfl (hb hby at_88) rfl rfl ?_
    show Steps p.tables e below (T17.setTop (mkF m 90 #[.val (.int pp), .val (.long qq), .second, .val (.int a1), .val (.int b1), .val (.int k1), .val (.int f), .val (.long id), .second, .val (.ref b), .val (.int (k1 &&& (31 : Int32))), .val (.int ((1 : Int32) <<< ((k1 &&& (31 : Int32)) &&& 31))), .val (.int (1 : Int32)), .val (.int (own_has f a1)), .val (.int (own_has f b1)), .unset, .unset, .unset, .unset] [(.ref b)])) _
    refine XS.iloadN X17.here hx rfl (hb hby at_90) rfl ?_
    show Steps p.tables e below (T17.setTop (mkF m 91 #[.val (.int pp), .val (.long qq), .second, .val (.int a1), .val (.int b1), .val (.int k1), .val (.int f), .val (.long id), .second, .val (.ref b), .val (.int (k1 &&& (31 : Int32))), .val (.int ((1 : Int32) <<< ((k1 &&& (31 : Int32)) &&& 31))), .val (.int (1 : Int32)), .val (.int (own_has f a1)), .val (.int (own_has f b1)), .unset, .unset, .unset, .unset] [(.int a1), (.ref b)])) _
    refine XS.iload X17.here hx rfl (hb hby at_91) rfl ?_
    show Steps p.tables e below (T17.setTop (mkF m 93 #[.val (.int pp), .val (.long qq), .second, .val (.int a1), .val (.int b1), .val (.int k1), .val (.int f), .val (.long id), .second, .val (.ref b), .val (.int (k1 &&& (31 : Int32))), .val (.int ((1 : Int32) <<< ((k1 &&& (31 : Int32)) &&& 31))), .val (.int (1 : Int32)), .val (.int (own_has f a1)), .val (.int (own_has f b1)), .unset, .unset, .unset, .unset] [(.int b1), (.int a1), (.ref b)])) _
    refine XS.ior X17.here hx rfl (hb hby at_93) rfl ?_
    exact Steps.refl _
  obtain ⟨cq20, kq20, q20a, q20b, q20c⟩ := isOf hZ e17 E5
  obtain ⟨_, _, ⟨T20, L20, k20, n20⟩, -, X20, ⟨Lc20, hQ20, l20, y20, z20⟩, st20⟩ := X17.virtualBack hx (y := (⟨"com/example/pathsmith/pathsmith/pcep/Monitoring", "has", "(I)Z"⟩ : MethodName)) (z := (⟨"com/example/pathsmith/pathsmith/pcep/Monitoring", "has", "(I)Z"⟩ : MethodName)) hown (mvT hZ (hw _ (List.mem_of_getElem? (i := 21) rfl))) (mvT hZ (hw _ (List.mem_of_getElem? (i := 22) rfl))) (notFace_of_selects (args := #[]) (mvT hZ (hw _ (List.mem_of_getElem? (i := 24) rfl)))) (mvT hZ (hw _ (List.mem_of_getElem? (i := 24) rfl))) (mvT hZ (hw _ (List.mem_of_getElem? (i := 23) rfl))) (by decide) (backOf (W := 0) (rm4 l Z a0 hw [] b (a1 ||| b1) f T5.heap n0 (Nat.le_trans (Nat.le_trans Z0 E2.1) K5.1) F1) hZ (hw _ (List.mem_of_getElem? (i := 25) rfl)) (hw _ (List.mem_of_getElem? (i := 4) rfl)) (by decide) (by decide)) q20a q20c (g := (mkF m 94 #[.val (.int pp), .val (.long qq), .second, .val (.int a1), .val (.int b1), .val (.int k1), .val (.int f), .val (.long id), .second, .val (.ref b), .val (.int (k1 &&& (31 : Int32))), .val (.int ((1 : Int32) <<< ((k1 &&& (31 : Int32)) &&& 31))), .val (.int (1 : Int32)), .val (.int (own_has f a1)), .val (.int (own_has f b1)), .unset, .unset, .unset, .unset] [(.int (a1 ||| b1)), (.ref b)])) rfl (by rw [hml]; rfl) (Steps.refl _) (argsL := [(.int (a1 ||| b1))]) (rest := []) (lenOf pd_2 rfl) rfl (by show 2 * 0 + _ ≤ _; exact Nat.le_of_eq rfl) (hb hby at_94) (fun _ _ => ⟨rfl, e17, (by decide : 1 + 0 ≤ _), (by decide : 2 + 0 ≤ _)⟩)
  dsimp only [Pt.U, Pt.locs, Pt.cells, Pt.slots] at X20 l20 y20 z20 st20 hQ20
  subst l20 y20 z20
  obtain ⟨rfl, N20q, e20⟩ := hQ20
  have N20 := Fr.app N17 N20q
  have S21 : Steps p.tables e below Ω (T20.setTop (mkF m 97 #[.val (.int pp), .val (.long qq), .second, .val (.int a1), .val (.int b1), .val (.int k1), .val (.int f), .val (.long id), .second, .val (.ref b), .val (.int (k1 &&& (31 : Int32))), .val (.int ((1 : Int32) <<< ((k1 &&& (31 : Int32)) &&& 31))), .val (.int (1 : Int32)), .val (.int (own_has f a1)), .val (.int (own_has f b1)), .unset, .unset, .unset, .unset] [(.int (own_has f (a1 ||| b1)))])) := S19.trans st20
  have S22 : Steps p.tables e below Ω (T20.setTop (mkF m 99 #[.val (.int pp), .val (.long qq), .second, .val (.int a1), .val (.int b1), .val (.int k1), .val (.int f), .val (.long id), .second, .val (.ref b), .val (.int (k1 &&& (31 : Int32))), .val (.int ((1 : Int32) <<< ((k1 &&& (31 : Int32)) &&& 31))), .val (.int (1 : Int32)), .val (.int (own_has f a1)), .val (.int (own_has f b1)), .unset, .unset, .unset, .unset] [(.int (own_has f a1)), (.int (own_has f (a1 ||| b1)))])) := by
    refine S21.trans ?_
    refine XS.iload X20.here hx rfl (hb hby at_97) rfl ?_
    exact Steps.refl _
  obtain ⟨t2, h_t2, S25⟩ : ∃ (t2 : Int32), t2 = (if (own_has f a1) = (0 : Int32) then (if (own_has f b1) = (0 : Int32) then (0 : Int32) else (1 : Int32)) else (1 : Int32)) ∧ Steps p.tables e below Ω (T20.setTop (mkF m 112 #[.val (.int pp), .val (.long qq), .second, .val (.int a1), .val (.int b1), .val (.int k1), .val (.int f), .val (.long id), .second, .val (.ref b), .val (.int (k1 &&& (31 : Int32))), .val (.int ((1 : Int32) <<< ((k1 &&& (31 : Int32)) &&& 31))), .val (.int (1 : Int32)), .val (.int (own_has f a1)), .val (.int (own_has f b1)), .unset, .unset, .unset, .unset] [(.int t2), (.int (own_has f (a1 ||| b1)))])) := by
    by_cases c23 : (own_has f a1) = (0 : Int32)
    · by_cases c24 : (own_has f b1) = (0 : Int32)
      · refine ⟨(0 : Int32), (by rw [if_pos c23, if_pos c24]), S22.trans ?_⟩
        refine XS.ifNo X20.here hx rfl (hb hby at_99) rfl (XT.i0_ne_f c23) ?_
        show Steps p.tables e below (T20.setTop (mkF m 102 #[.val (.int pp), .val (.long qq), .second, .val (.int a1), .val (.int b1), .val (.int k1), .val (.int f), .val (.long id), .second, .val (.ref b), .val (.int (k1 &&& (31 : Int32))), .val (.int ((1 : Int32) <<< ((k1 &&& (31 : Int32)) &&& 31))), .val (.int (1 : Int32)), .val (.int (own_has f a1)), .val (.int (own_has f b1)), .unset, .unset, .unset, .unset] [(.int (own_has f (a1 ||| b1)))])) _
        refine XS.iload X20.here hx rfl (hb hby at_102) rfl ?_
        show Steps p.tables e below (T20.setTop (mkF m 104 #[.val (.int pp), .val (.long qq), .second, .val (.int a1), .val (.int b1), .val (.int k1), .val (.int f), .val (.long id), .second, .val (.ref b), .val (.int (k1 &&& (31 : Int32))), .val (.int ((1 : Int32) <<< ((k1 &&& (31 : Int32)) &&& 31))), .val (.int (1 : Int32)), .val (.int (own_has f a1)), .val (.int (own_has f b1)), .unset, .unset, .unset, .unset] [(.int (own_has f b1)), (.int (own_has f (a1 ||| b1)))])) _
        refine XS.ifYes X20.here hx rfl (pc0 := 104) (pc' := 111) rfl (hb hby at_104) rfl (XT.i0_eq_t c24) (by decide) (by decide) ?_
        show Steps p.tables e below (T20.setTop (mkF m 111 #[.val (.int pp), .val (.long qq), .second, .val (.int a1), .val (.int b1), .val (.int k1), .val (.int f), .val (.long id), .second, .val (.ref b), .val (.int (k1 &&& (31 : Int32))), .val (.int ((1 : Int32) <<< ((k1 &&& (31 : Int32)) &&& 31))), .val (.int (1 : Int32)), .val (.int (own_has f a1)), .val (.int (own_has f b1)), .unset, .unset, .unset, .unset] [(.int (own_has f (a1 ||| b1)))])) _
        refine XS.iconst X20.here hx rfl (hb hby at_111) ?_
        exact Steps.refl _
      · refine ⟨(1 : Int32), (by rw [if_pos c23, if_neg c24]), S22.trans ?_⟩
        refine XS.ifNo X20.here hx rfl (hb hby at_99) rfl (XT.i0_ne_f c23) ?_
        show Steps p.tables e below (T20.setTop (mkF m 102 #[.val (.int pp), .val (.long qq), .second, .val (.int a1), .val (.int b1), .val (.int k1), .val (.int f), .val (.long id), .second, .val (.ref b), .val (.int (k1 &&& (31 : Int32))), .val (.int ((1 : Int32) <<< ((k1 &&& (31 : Int32)) &&& 31))), .val (.int (1 : Int32)), .val (.int (own_has f a1)), .val (.int (own_has f b1)), .unset, .unset, .unset, .unset] [(.int (own_has f (a1 ||| b1)))])) _
        refine XS.iload X20.here hx rfl (hb hby at_102) rfl ?_
        show Steps p.tables e below (T20.setTop (mkF m 104 #[.val (.int pp), .val (.long qq), .second, .val (.int a1), .val (.int b1), .val (.int k1), .val (.int f), .val (.long id), .second, .val (.ref b), .val (.int (k1 &&& (31 : Int32))), .val (.int ((1 : Int32) <<< ((k1 &&& (31 : Int32)) &&& 31))), .val (.int (1 : Int32)), .val (.int (own_has f a1)), .val (.int (own_has f b1)), .unset, .unset, .unset, .unset] [(.int (own_has f b1)), (.int (own_has f (a1 ||| b1)))])) _
        refine XS.ifNo X20.here hx rfl (hb hby at_104) rfl (XT.i0_eq_f c24) ?_
        show Steps p.tables e below (T20.setTop (mkF m 107 #[.val (.int pp), .val (.long qq), .second, .val (.int a1), .val (.int b1), .val (.int k1), .val (.int f), .val (.long id), .second, .val (.ref b), .val (.int (k1 &&& (31 : Int32))), .val (.int ((1 : Int32) <<< ((k1 &&& (31 : Int32)) &&& 31))), .val (.int (1 : Int32)), .val (.int (own_has f a1)), .val (.int (own_has f b1)), .unset, .unset, .unset, .unset] [(.int (own_has f (a1 ||| b1)))])) _
        refine XS.iconst X20.here hx rfl (hb hby at_107) ?_
        show Steps p.tables e below (T20.setTop (mkF m 108 #[.val (.int pp), .val (.long qq), .second, .val (.int a1), .val (.int b1), .val (.int k1), .val (.int f), .val (.long id), .second, .val (.ref b), .val (.int (k1 &&& (31 : Int32))), .val (.int ((1 : Int32) <<< ((k1 &&& (31 : Int32)) &&& 31))), .val (.int (1 : Int32)), .val (.int (own_has f a1)), .val (.int (own_has f b1)), .unset, .unset, .unset, .unset] [(.int (1 : Int32)), (.int (own_has f (a1 ||| b1)))])) _
        refine XS.goto X20.here hx rfl (pc0 := 108) (pc' := 112) rfl (hb hby at_108) (by decide) (by decide) ?_
        exact Steps.refl _
    · refine ⟨(1 : Int32), (by rw [if_neg c23]), S22.trans ?_⟩
      refine XS.ifYes X20.here hx rfl (pc0 := 99) (pc' := 107) rfl (hb hby at_99) rfl (XT.i0_ne_t c23) (by decide) (by decide) ?_
      show Steps p.tables e below (T20.setTop (mkF m 107 #[.val (.int pp), .val (.long qq), .second, .val (.int a1), .val (.int b1), .val (.int k1), .val (.int f), .val (.long id), .second, .val (.ref b), .val (.int (k1 &&& (31 : Int32))), .val (.int ((1 : Int32) <<< ((k1 &&& (31 : Int32)) &&& 31))), .val (.int (1 : Int32)), .val (.int (own_has f a1)), .val (.int (own_has f b1)), .unset, .unset, .unset, .unset] [(.int (own_has f (a1 ||| b1)))])) _
      refine XS.iconst X20.here hx rfl (hb hby at_107) ?_
      show Steps p.tables e below (T20.setTop (mkF m 108 #[.val (.int pp), .val (.long qq), .second, .val (.int a1), .val (.int b1), .val (.int k1), .val (.int f), .val (.long id), .second, .val (.ref b), .val (.int (k1 &&& (31 : Int32))), .val (.int ((1 : Int32) <<< ((k1 &&& (31 : Int32)) &&& 31))), .val (.int (1 : Int32)), .val (.int (own_has f a1)), .val (.int (own_has f b1)), .unset, .unset, .unset, .unset] [(.int (1 : Int32)), (.int (own_has f (a1 ||| b1)))])) _
      refine XS.goto X20.here hx rfl (pc0 := 108) (pc' := 112) rfl (hb hby at_108) (by decide) (by decide) ?_
      exact Steps.refl _
  have S26 : Steps p.tables e below Ω (T20.setTop (mkF m 125 #[.val (.int pp), .val (.long qq), .second, .val (.int a1), .val (.int b1), .val (.int k1), .val (.int f), .val (.long id), .second, .val (.ref b), .val (.int (k1 &&& (31 : Int32))), .val (.int ((1 : Int32) <<< ((k1 &&& (31 : Int32)) &&& 31))), .val (.int (1 : Int32)), .val (.int (own_has f a1)), .val (.int (own_has f b1)), .val (.int (1 : Int32)), .unset, .unset, .unset] [(.int (0 : Int32)), (.ref b)])) := by
    refine S25.trans ?_
    refine XS.icmpNo X20.here hx rfl (hb hby at_112) rfl (XT.ii_ne_f ((own_union f a1 b1).trans h_t2.symm)) ?_
    show Steps p.tables e below (T20.setTop (mkF m 115 #[.val (.int pp), .val (.long qq), .second, .val (.int a1), .val (.int b1), .val (.int k1), .val (.int f), .val (.long id), .second, .val (.ref b), .val (.int (k1 &&& (31 : Int32))), .val (.int ((1 : Int32) <<< ((k1 &&& (31 : Int32)) &&& 31))), .val (.int (1 : Int32)), .val (.int (own_has f a1)), .val (.int (own_has f b1)), .unset, .unset, .unset, .unset] [])) _
    refine XS.iconst X20.here hx rfl (hb hby at_115) ?_
    show Steps p.tables e below (T20.setTop (mkF m 116 #[.val (.int pp), .val (.long qq), .second, .val (.int a1), .val (.int b1), .val (.int k1), .val (.int f), .val (.long id), .second, .val (.ref b), .val (.int (k1 &&& (31 : Int32))), .val (.int ((1 : Int32) <<< ((k1 &&& (31 : Int32)) &&& 31))), .val (.int (1 : Int32)), .val (.int (own_has f a1)), .val (.int (own_has f b1)), .unset, .unset, .unset, .unset] [(.int (1 : Int32))])) _
    refine XS.goto X20.here hx rfl (pc0 := 116) (pc' := 120) rfl (hb hby at_116) (by decide) (by decide) ?_
    show Steps p.tables e below (T20.setTop (mkF m 120 #[.val (.int pp), .val (.long qq), .second, .val (.int a1), .val (.int b1), .val (.int k1), .val (.int f), .val (.long id), .second, .val (.ref b), .val (.int (k1 &&& (31 : Int32))), .val (.int ((1 : Int32) <<< ((k1 &&& (31 : Int32)) &&& 31))), .val (.int (1 : Int32)), .val (.int (own_has f a1)), .val (.int (own_has f b1)), .unset, .unset, .unset, .unset] [(.int (1 : Int32))])) _
    refine XS.istore X20.here hx rfl (hb hby at_120) rfl (l' := #[.val (.int pp), .val (.long qq), .second, .val (.int a1), .val (.int b1), .val (.int k1), .val (.int f), .val (.long id), .second, .val (.ref b), .val (.int (k1 &&& (31 : Int32))), .val (.int ((1 : Int32) <<< ((k1 &&& (31 : Int32)) &&& 31))), .val (.int (1 : Int32)), .val (.int (own_has f a1)), .val (.int (own_has f b1)), .val (.int (1 : Int32)), .unset, .unset, .unset]) rfl ?_
    show Steps p.tables e below (T20.setTop (mkF m 122 #[.val (.int pp), .val (.long qq), .second, .val (.int a1), .val (.int b1), .val (.int k1), .val (.int f), .val (.long id), .second, .val (.ref b), .val (.int (k1 &&& (31 : Int32))), .val (.int ((1 : Int32) <<< ((k1 &&& (31 : Int32)) &&& 31))), .val (.int (1 : Int32)), .val (.int (own_has f a1)), .val (.int (own_has f b1)), .val (.int (1 : Int32)), .unset, .unset, .unset] [])) _
    refine XS.aload X20.here hx rfl (hb hby at_122) rfl rfl ?_
    show Steps p.tables e below (T20.setTop (mkF m 124 #[.val (.int pp), .val (.long qq), .second, .val (.int a1), .val (.int b1), .val (.int k1), .val (.int f), .val (.long id), .second, .val (.ref b), .val (.int (k1 &&& (31 : Int32))), .val (.int ((1 : Int32) <<< ((k1 &&& (31 : Int32)) &&& 31))), .val (.int (1 : Int32)), .val (.int (own_has f a1)), .val (.int (own_has f b1)), .val (.int (1 : Int32)), .unset, .unset, .unset] [(.ref b)])) _
    refine XS.iconst X20.here hx rfl (hb hby at_124) ?_
    exact Steps.refl _
  obtain ⟨cq27, kq27, q27a, q27b, q27c⟩ := isOf hZ e20 E5
  obtain ⟨_, _, ⟨T27, L27, k27, n27⟩, -, X27, ⟨Lc27, hQ27, l27, y27, z27⟩, st27⟩ := X20.virtualBack hx (y := (⟨"com/example/pathsmith/pathsmith/pcep/Monitoring", "has", "(I)Z"⟩ : MethodName)) (z := (⟨"com/example/pathsmith/pathsmith/pcep/Monitoring", "has", "(I)Z"⟩ : MethodName)) hown (mvT hZ (hw _ (List.mem_of_getElem? (i := 21) rfl))) (mvT hZ (hw _ (List.mem_of_getElem? (i := 22) rfl))) (notFace_of_selects (args := #[]) (mvT hZ (hw _ (List.mem_of_getElem? (i := 24) rfl)))) (mvT hZ (hw _ (List.mem_of_getElem? (i := 24) rfl))) (mvT hZ (hw _ (List.mem_of_getElem? (i := 23) rfl))) (by decide) (backOf (W := 0) (rm4 l Z a0 hw [] b (0 : Int32) f T5.heap n0 (Nat.le_trans (Nat.le_trans Z0 E2.1) K5.1) F1) hZ (hw _ (List.mem_of_getElem? (i := 25) rfl)) (hw _ (List.mem_of_getElem? (i := 4) rfl)) (by decide) (by decide)) q27a q27c (g := (mkF m 125 #[.val (.int pp), .val (.long qq), .second, .val (.int a1), .val (.int b1), .val (.int k1), .val (.int f), .val (.long id), .second, .val (.ref b), .val (.int (k1 &&& (31 : Int32))), .val (.int ((1 : Int32) <<< ((k1 &&& (31 : Int32)) &&& 31))), .val (.int (1 : Int32)), .val (.int (own_has f a1)), .val (.int (own_has f b1)), .val (.int (1 : Int32)), .unset, .unset, .unset] [(.int (0 : Int32)), (.ref b)])) rfl (by rw [hml]; rfl) (Steps.refl _) (argsL := [(.int (0 : Int32))]) (rest := []) (lenOf pd_2 rfl) rfl (by show 2 * 0 + _ ≤ _; exact Nat.le_of_eq rfl) (hb hby at_125) (fun _ _ => ⟨rfl, e20, (by decide : 1 + 0 ≤ _), (by decide : 2 + 0 ≤ _)⟩)
  dsimp only [Pt.U, Pt.locs, Pt.cells, Pt.slots] at X27 l27 y27 z27 st27 hQ27
  subst l27 y27 z27
  obtain ⟨rfl, N27q, e27⟩ := hQ27
  have N27 := Fr.app N20 N27q
  have S28 : Steps p.tables e below Ω (T27.setTop (mkF m 128 #[.val (.int pp), .val (.long qq), .second, .val (.int a1), .val (.int b1), .val (.int k1), .val (.int f), .val (.long id), .second, .val (.ref b), .val (.int (k1 &&& (31 : Int32))), .val (.int ((1 : Int32) <<< ((k1 &&& (31 : Int32)) &&& 31))), .val (.int (1 : Int32)), .val (.int (own_has f a1)), .val (.int (own_has f b1)), .val (.int (1 : Int32)), .unset, .unset, .unset] [(.int (own_has f (0 : Int32)))])) := S26.trans st27
  have S29 : Steps p.tables e below Ω (T27.setTop (mkF m 142 #[.val (.int pp), .val (.long qq), .second, .val (.int a1), .val (.int b1), .val (.int k1), .val (.int f), .val (.long id), .second, .val (.ref b), .val (.int (k1 &&& (31 : Int32))), .val (.int ((1 : Int32) <<< ((k1 &&& (31 : Int32)) &&& 31))), .val (.int (1 : Int32)), .val (.int (own_has f a1)), .val (.int (own_has f b1)), .val (.int (1 : Int32)), .val (.int (1 : Int32)), .unset, .unset] [(.int f), (.ref b)])) := by
    refine S28.trans ?_
    refine XS.ifNo X27.here hx rfl (hb hby at_128) rfl (XT.i0_ne_f (own_zero f)) ?_
    show Steps p.tables e below (T27.setTop (mkF m 131 #[.val (.int pp), .val (.long qq), .second, .val (.int a1), .val (.int b1), .val (.int k1), .val (.int f), .val (.long id), .second, .val (.ref b), .val (.int (k1 &&& (31 : Int32))), .val (.int ((1 : Int32) <<< ((k1 &&& (31 : Int32)) &&& 31))), .val (.int (1 : Int32)), .val (.int (own_has f a1)), .val (.int (own_has f b1)), .val (.int (1 : Int32)), .unset, .unset, .unset] [])) _
    refine XS.iconst X27.here hx rfl (hb hby at_131) ?_
    show Steps p.tables e below (T27.setTop (mkF m 132 #[.val (.int pp), .val (.long qq), .second, .val (.int a1), .val (.int b1), .val (.int k1), .val (.int f), .val (.long id), .second, .val (.ref b), .val (.int (k1 &&& (31 : Int32))), .val (.int ((1 : Int32) <<< ((k1 &&& (31 : Int32)) &&& 31))), .val (.int (1 : Int32)), .val (.int (own_has f a1)), .val (.int (own_has f b1)), .val (.int (1 : Int32)), .unset, .unset, .unset] [(.int (1 : Int32))])) _
    refine XS.goto X27.here hx rfl (pc0 := 132) (pc' := 136) rfl (hb hby at_132) (by decide) (by decide) ?_
    show Steps p.tables e below (T27.setTop (mkF m 136 #[.val (.int pp), .val (.long qq), .second, .val (.int a1), .val (.int b1), .val (.int k1), .val (.int f), .val (.long id), .second, .val (.ref b), .val (.int (k1 &&& (31 : Int32))), .val (.int ((1 : Int32) <<< ((k1 &&& (31 : Int32)) &&& 31))), .val (.int (1 : Int32)), .val (.int (own_has f a1)), .val (.int (own_has f b1)), .val (.int (1 : Int32)), .unset, .unset, .unset] [(.int (1 : Int32))])) _
    refine XS.istore X27.here hx rfl (hb hby at_136) rfl (l' := #[.val (.int pp), .val (.long qq), .second, .val (.int a1), .val (.int b1), .val (.int k1), .val (.int f), .val (.long id), .second, .val (.ref b), .val (.int (k1 &&& (31 : Int32))), .val (.int ((1 : Int32) <<< ((k1 &&& (31 : Int32)) &&& 31))), .val (.int (1 : Int32)), .val (.int (own_has f a1)), .val (.int (own_has f b1)), .val (.int (1 : Int32)), .val (.int (1 : Int32)), .unset, .unset]) rfl ?_
    show Steps p.tables e below (T27.setTop (mkF m 138 #[.val (.int pp), .val (.long qq), .second, .val (.int a1), .val (.int b1), .val (.int k1), .val (.int f), .val (.long id), .second, .val (.ref b), .val (.int (k1 &&& (31 : Int32))), .val (.int ((1 : Int32) <<< ((k1 &&& (31 : Int32)) &&& 31))), .val (.int (1 : Int32)), .val (.int (own_has f a1)), .val (.int (own_has f b1)), .val (.int (1 : Int32)), .val (.int (1 : Int32)), .unset, .unset] [])) _
    refine XS.aload X27.here hx rfl (hb hby at_138) rfl rfl ?_
    show Steps p.tables e below (T27.setTop (mkF m 140 #[.val (.int pp), .val (.long qq), .second, .val (.int a1), .val (.int b1), .val (.int k1), .val (.int f), .val (.long id), .second, .val (.ref b), .val (.int (k1 &&& (31 : Int32))), .val (.int ((1 : Int32) <<< ((k1 &&& (31 : Int32)) &&& 31))), .val (.int (1 : Int32)), .val (.int (own_has f a1)), .val (.int (own_has f b1)), .val (.int (1 : Int32)), .val (.int (1 : Int32)), .unset, .unset] [(.ref b)])) _
    refine XS.iload X27.here hx rfl (hb hby at_140) rfl ?_
    exact Steps.refl _
  obtain ⟨cq30, kq30, q30a, q30b, q30c⟩ := isOf hZ e27 E5
  obtain ⟨_, _, ⟨T30, L30, k30, n30⟩, -, X30, ⟨Lc30, hQ30, l30, y30, z30⟩, st30⟩ := X27.virtualBack hx (y := (⟨"com/example/pathsmith/pathsmith/pcep/Monitoring", "has", "(I)Z"⟩ : MethodName)) (z := (⟨"com/example/pathsmith/pathsmith/pcep/Monitoring", "has", "(I)Z"⟩ : MethodName)) hown (mvT hZ (hw _ (List.mem_of_getElem? (i := 21) rfl))) (mvT hZ (hw _ (List.mem_of_getElem? (i := 22) rfl))) (notFace_of_selects (args := #[]) (mvT hZ (hw _ (List.mem_of_getElem? (i := 24) rfl)))) (mvT hZ (hw _ (List.mem_of_getElem? (i := 24) rfl))) (mvT hZ (hw _ (List.mem_of_getElem? (i := 23) rfl))) (by decide) (backOf (W := 0) (rm4 l Z a0 hw [] b f f T5.heap n0 (Nat.le_trans (Nat.le_trans Z0 E2.1) K5.1) F1) hZ (hw _ (List.mem_of_getElem? (i := 25) rfl)) (hw _ (List.mem_of_getElem? (i := 4) rfl)) (by decide) (by decide)) q30a q30c (g := (mkF m 142 #[.val (.int pp), .val (.long qq), .second, .val (.int a1), .val (.int b1), .val (.int k1), .val (.int f), .val (.long id), .second, .val (.ref b), .val (.int (k1 &&& (31 : Int32))), .val (.int ((1 : Int32) <<< ((k1 &&& (31 : Int32)) &&& 31))), .val (.int (1 : Int32)), .val (.int (own_has f a1)), .val (.int (own_has f b1)), .val (.int (1 : Int32)), .val (.int (1 : Int32)), .unset, .unset] [(.int f), (.ref b)])) rfl (by rw [hml]; rfl) (Steps.refl _) (argsL := [(.int f)]) (rest := []) (lenOf pd_2 rfl) rfl (by show 2 * 0 + _ ≤ _; exact Nat.le_of_eq rfl) (hb hby at_142) (fun _ _ => ⟨rfl, e27, (by decide : 1 + 0 ≤ _), (by decide : 2 + 0 ≤ _)⟩)
  dsimp only [Pt.U, Pt.locs, Pt.cells, Pt.slots] at X30 l30 y30 z30 st30 hQ30
  subst l30 y30 z30
  obtain ⟨rfl, N30q, e30⟩ := hQ30
  have N30 := Fr.app N27 N30q
  have S31 : Steps p.tables e below Ω (T30.setTop (mkF m 145 #[.val (.int pp), .val (.long qq), .second, .val (.int a1), .val (.int b1), .val (.int k1), .val (.int f), .val (.long id), .second, .val (.ref b), .val (.int (k1 &&& (31 : Int32))), .val (.int ((1 : Int32) <<< ((k1 &&& (31 : Int32)) &&& 31))), .val (.int (1 : Int32)), .val (.int (own_has f a1)), .val (.int (own_has f b1)), .val (.int (1 : Int32)), .val (.int (1 : Int32)), .unset, .unset] [(.int (own_has f f))])) := S29.trans st30
  have S32 : Steps p.tables e below Ω (T30.setTop (mkF m 147 #[.val (.int pp), .val (.long qq), .second, .val (.int a1), .val (.int b1), .val (.int k1), .val (.int f), .val (.long id), .second, .val (.ref b), .val (.int (k1 &&& (31 : Int32))), .val (.int ((1 : Int32) <<< ((k1 &&& (31 : Int32)) &&& 31))), .val (.int (1 : Int32)), .val (.int (own_has f a1)), .val (.int (own_has f b1)), .val (.int (1 : Int32)), .val (.int (1 : Int32)), .unset, .unset] [(.int f), (.int (own_has f f))])) := by
    refine S31.trans ?_
    refine XS.iload X30.here hx rfl (hb hby at_145) rfl ?_
    exact Steps.refl _
  obtain ⟨t3, h_t3, S34⟩ : ∃ (t3 : Int32), t3 = (if f = (0 : Int32) then (0 : Int32) else (1 : Int32)) ∧ Steps p.tables e below Ω (T30.setTop (mkF m 155 #[.val (.int pp), .val (.long qq), .second, .val (.int a1), .val (.int b1), .val (.int k1), .val (.int f), .val (.long id), .second, .val (.ref b), .val (.int (k1 &&& (31 : Int32))), .val (.int ((1 : Int32) <<< ((k1 &&& (31 : Int32)) &&& 31))), .val (.int (1 : Int32)), .val (.int (own_has f a1)), .val (.int (own_has f b1)), .val (.int (1 : Int32)), .val (.int (1 : Int32)), .unset, .unset] [(.int t3), (.int (own_has f f))])) := by
    by_cases c33 : f = (0 : Int32)
    · refine ⟨(0 : Int32), (by rw [if_pos c33]), S32.trans ?_⟩
      refine XS.ifYes X30.here hx rfl (pc0 := 147) (pc' := 154) rfl (hb hby at_147) rfl (XT.i0_eq_t c33) (by decide) (by decide) ?_
      show Steps p.tables e below (T30.setTop (mkF m 154 #[.val (.int pp), .val (.long qq), .second, .val (.int a1), .val (.int b1), .val (.int k1), .val (.int f), .val (.long id), .second, .val (.ref b), .val (.int (k1 &&& (31 : Int32))), .val (.int ((1 : Int32) <<< ((k1 &&& (31 : Int32)) &&& 31))), .val (.int (1 : Int32)), .val (.int (own_has f a1)), .val (.int (own_has f b1)), .val (.int (1 : Int32)), .val (.int (1 : Int32)), .unset, .unset] [(.int (own_has f f))])) _
      refine XS.iconst X30.here hx rfl (hb hby at_154) ?_
      exact Steps.refl _
    · refine ⟨(1 : Int32), (by rw [if_neg c33]), S32.trans ?_⟩
      refine XS.ifNo X30.here hx rfl (hb hby at_147) rfl (XT.i0_eq_f c33) ?_
      show Steps p.tables e below (T30.setTop (mkF m 150 #[.val (.int pp), .val (.long qq), .second, .val (.int a1), .val (.int b1), .val (.int k1), .val (.int f), .val (.long id), .second, .val (.ref b), .val (.int (k1 &&& (31 : Int32))), .val (.int ((1 : Int32) <<< ((k1 &&& (31 : Int32)) &&& 31))), .val (.int (1 : Int32)), .val (.int (own_has f a1)), .val (.int (own_has f b1)), .val (.int (1 : Int32)), .val (.int (1 : Int32)), .unset, .unset] [(.int (own_has f f))])) _
      refine XS.iconst X30.here hx rfl (hb hby at_150) ?_
      show Steps p.tables e below (T30.setTop (mkF m 151 #[.val (.int pp), .val (.long qq), .second, .val (.int a1), .val (.int b1), .val (.int k1), .val (.int f), .val (.long id), .second, .val (.ref b), .val (.int (k1 &&& (31 : Int32))), .val (.int ((1 : Int32) <<< ((k1 &&& (31 : Int32)) &&& 31))), .val (.int (1 : Int32)), .val (.int (own_has f a1)), .val (.int (own_has f b1)), .val (.int (1 : Int32)), .val (.int (1 : Int32)), .unset, .unset] [(.int (1 : Int32)), (.int (own_has f f))])) _
      refine XS.goto X30.here hx rfl (pc0 := 151) (pc' := 155) rfl (hb hby at_151) (by decide) (by decide) ?_
      exact Steps.refl _
  have S35 : Steps p.tables e below Ω (T30.setTop (mkF m 173 #[.val (.int pp), .val (.long qq), .second, .val (.int a1), .val (.int b1), .val (.int k1), .val (.int f), .val (.long id), .second, .val (.ref b), .val (.int (k1 &&& (31 : Int32))), .val (.int ((1 : Int32) <<< ((k1 &&& (31 : Int32)) &&& 31))), .val (.int (1 : Int32)), .val (.int (own_has f a1)), .val (.int (own_has f b1)), .val (.int (1 : Int32)), .val (.int (1 : Int32)), .val (.int (1 : Int32)), .unset] [(.int (a1 &&& (16777215 : Int32))), (.ref b), (.int (own_has f a1))])) := by
    refine S34.trans ?_
    refine XS.icmpNo X30.here hx rfl (hb hby at_155) rfl (XT.ii_ne_f ((own_self f).trans h_t3.symm)) ?_
    show Steps p.tables e below (T30.setTop (mkF m 158 #[.val (.int pp), .val (.long qq), .second, .val (.int a1), .val (.int b1), .val (.int k1), .val (.int f), .val (.long id), .second, .val (.ref b), .val (.int (k1 &&& (31 : Int32))), .val (.int ((1 : Int32) <<< ((k1 &&& (31 : Int32)) &&& 31))), .val (.int (1 : Int32)), .val (.int (own_has f a1)), .val (.int (own_has f b1)), .val (.int (1 : Int32)), .val (.int (1 : Int32)), .unset, .unset] [])) _
    refine XS.iconst X30.here hx rfl (hb hby at_158) ?_
    show Steps p.tables e below (T30.setTop (mkF m 159 #[.val (.int pp), .val (.long qq), .second, .val (.int a1), .val (.int b1), .val (.int k1), .val (.int f), .val (.long id), .second, .val (.ref b), .val (.int (k1 &&& (31 : Int32))), .val (.int ((1 : Int32) <<< ((k1 &&& (31 : Int32)) &&& 31))), .val (.int (1 : Int32)), .val (.int (own_has f a1)), .val (.int (own_has f b1)), .val (.int (1 : Int32)), .val (.int (1 : Int32)), .unset, .unset] [(.int (1 : Int32))])) _
    refine XS.goto X30.here hx rfl (pc0 := 159) (pc' := 163) rfl (hb hby at_159) (by decide) (by decide) ?_
    show Steps p.tables e below (T30.setTop (mkF m 163 #[.val (.int pp), .val (.long qq), .second, .val (.int a1), .val (.int b1), .val (.int k1), .val (.int f), .val (.long id), .second, .val (.ref b), .val (.int (k1 &&& (31 : Int32))), .val (.int ((1 : Int32) <<< ((k1 &&& (31 : Int32)) &&& 31))), .val (.int (1 : Int32)), .val (.int (own_has f a1)), .val (.int (own_has f b1)), .val (.int (1 : Int32)), .val (.int (1 : Int32)), .unset, .unset] [(.int (1 : Int32))])) _
    refine XS.istore X30.here hx rfl (hb hby at_163) rfl (l' := #[.val (.int pp), .val (.long qq), .second, .val (.int a1), .val (.int b1), .val (.int k1), .val (.int f), .val (.long id), .second, .val (.ref b), .val (.int (k1 &&& (31 : Int32))), .val (.int ((1 : Int32) <<< ((k1 &&& (31 : Int32)) &&& 31))), .val (.int (1 : Int32)), .val (.int (own_has f a1)), .val (.int (own_has f b1)), .val (.int (1 : Int32)), .val (.int (1 : Int32)), .val (.int (1 : Int32)), .unset]) rfl ?_
    show Steps p.tables e below (T30.setTop (mkF m 165 #[.val (.int pp), .val (.long qq), .second, .val (.int a1), .val (.int b1), .val (.int k1), .val (.int f), .val (.long id), .second, .val (.ref b), .val (.int (k1 &&& (31 : Int32))), .val (.int ((1 : Int32) <<< ((k1 &&& (31 : Int32)) &&& 31))), .val (.int (1 : Int32)), .val (.int (own_has f a1)), .val (.int (own_has f b1)), .val (.int (1 : Int32)), .val (.int (1 : Int32)), .val (.int (1 : Int32)), .unset] [])) _
    refine XS.iload X30.here hx rfl (hb hby at_165) rfl ?_
    show Steps p.tables e below (T30.setTop (mkF m 167 #[.val (.int pp), .val (.long qq), .second, .val (.int a1), .val (.int b1), .val (.int k1), .val (.int f), .val (.long id), .second, .val (.ref b), .val (.int (k1 &&& (31 : Int32))), .val (.int ((1 : Int32) <<< ((k1 &&& (31 : Int32)) &&& 31))), .val (.int (1 : Int32)), .val (.int (own_has f a1)), .val (.int (own_has f b1)), .val (.int (1 : Int32)), .val (.int (1 : Int32)), .val (.int (1 : Int32)), .unset] [(.int (own_has f a1))])) _
    refine XS.aload X30.here hx rfl (hb hby at_167) rfl rfl ?_
    show Steps p.tables e below (T30.setTop (mkF m 169 #[.val (.int pp), .val (.long qq), .second, .val (.int a1), .val (.int b1), .val (.int k1), .val (.int f), .val (.long id), .second, .val (.ref b), .val (.int (k1 &&& (31 : Int32))), .val (.int ((1 : Int32) <<< ((k1 &&& (31 : Int32)) &&& 31))), .val (.int (1 : Int32)), .val (.int (own_has f a1)), .val (.int (own_has f b1)), .val (.int (1 : Int32)), .val (.int (1 : Int32)), .val (.int (1 : Int32)), .unset] [(.ref b), (.int (own_has f a1))])) _
    refine XS.iloadN X30.here hx rfl (hb hby at_169) rfl ?_
    show Steps p.tables e below (T30.setTop (mkF m 170 #[.val (.int pp), .val (.long qq), .second, .val (.int a1), .val (.int b1), .val (.int k1), .val (.int f), .val (.long id), .second, .val (.ref b), .val (.int (k1 &&& (31 : Int32))), .val (.int ((1 : Int32) <<< ((k1 &&& (31 : Int32)) &&& 31))), .val (.int (1 : Int32)), .val (.int (own_has f a1)), .val (.int (own_has f b1)), .val (.int (1 : Int32)), .val (.int (1 : Int32)), .val (.int (1 : Int32)), .unset] [(.int a1), (.ref b), (.int (own_has f a1))])) _
    refine X30.ldcInt hx hown (mvT hZ (hw _ (List.mem_of_getElem? (i := 0) rfl))) (g := (mkF m 170 #[.val (.int pp), .val (.long qq), .second, .val (.int a1), .val (.int b1), .val (.int k1), .val (.int f), .val (.long id), .second, .val (.ref b), .val (.int (k1 &&& (31 : Int32))), .val (.int ((1 : Int32) <<< ((k1 &&& (31 : Int32)) &&& 31))), .val (.int (1 : Int32)), .val (.int (own_has f a1)), .val (.int (own_has f b1)), .val (.int (1 : Int32)), .val (.int (1 : Int32)), .val (.int (1 : Int32)), .unset] [(.int a1), (.ref b), (.int (own_has f a1))])) rfl (hb hby at_170) _ ?_
    show Steps p.tables e below (T30.setTop (mkF m 172 #[.val (.int pp), .val (.long qq), .second, .val (.int a1), .val (.int b1), .val (.int k1), .val (.int f), .val (.long id), .second, .val (.ref b), .val (.int (k1 &&& (31 : Int32))), .val (.int ((1 : Int32) <<< ((k1 &&& (31 : Int32)) &&& 31))), .val (.int (1 : Int32)), .val (.int (own_has f a1)), .val (.int (own_has f b1)), .val (.int (1 : Int32)), .val (.int (1 : Int32)), .val (.int (1 : Int32)), .unset] [(.int (16777215 : Int32)), (.int a1), (.ref b), (.int (own_has f a1))])) _
    refine XS.iand X30.here hx rfl (hb hby at_172) rfl ?_
    exact Steps.refl _
  obtain ⟨cq36, kq36, q36a, q36b, q36c⟩ := isOf hZ e30 E5
  obtain ⟨_, _, ⟨T36, L36, k36, n36⟩, -, X36, ⟨Lc36, hQ36, l36, y36, z36⟩, st36⟩ := X30.virtualBack hx (y := (⟨"com/example/pathsmith/pathsmith/pcep/Monitoring", "has", "(I)Z"⟩ : MethodName)) (z := (⟨"com/example/pathsmith/pathsmith/pcep/Monitoring", "has", "(I)Z"⟩ : MethodName)) hown (mvT hZ (hw _ (List.mem_of_getElem? (i := 21) rfl))) (mvT hZ (hw _ (List.mem_of_getElem? (i := 22) rfl))) (notFace_of_selects (args := #[]) (mvT hZ (hw _ (List.mem_of_getElem? (i := 24) rfl)))) (mvT hZ (hw _ (List.mem_of_getElem? (i := 24) rfl))) (mvT hZ (hw _ (List.mem_of_getElem? (i := 23) rfl))) (by decide) (backOf (W := 1) (rm4 l Z a0 hw [] b (a1 &&& (16777215 : Int32)) f T5.heap n0 (Nat.le_trans (Nat.le_trans Z0 E2.1) K5.1) F1) hZ (hw _ (List.mem_of_getElem? (i := 25) rfl)) (hw _ (List.mem_of_getElem? (i := 4) rfl)) (by decide) (by decide)) q36a q36c (g := (mkF m 173 #[.val (.int pp), .val (.long qq), .second, .val (.int a1), .val (.int b1), .val (.int k1), .val (.int f), .val (.long id), .second, .val (.ref b), .val (.int (k1 &&& (31 : Int32))), .val (.int ((1 : Int32) <<< ((k1 &&& (31 : Int32)) &&& 31))), .val (.int (1 : Int32)), .val (.int (own_has f a1)), .val (.int (own_has f b1)), .val (.int (1 : Int32)), .val (.int (1 : Int32)), .val (.int (1 : Int32)), .unset] [(.int (a1 &&& (16777215 : Int32))), (.ref b), (.int (own_has f a1))])) rfl (by rw [hml]; rfl) (Steps.refl _) (argsL := [(.int (a1 &&& (16777215 : Int32)))]) (rest := [(.int (own_has f a1))]) (lenOf pd_2 rfl) rfl (by show 2 * 0 + _ ≤ _; exact Nat.le_of_eq rfl) (hb hby at_173) (fun _ _ => ⟨rfl, e30, (by decide : 1 + 0 ≤ _), (by decide : 2 + 0 ≤ _)⟩)
  dsimp only [Pt.U, Pt.locs, Pt.cells, Pt.slots] at X36 l36 y36 z36 st36 hQ36
  subst l36 y36 z36
  obtain ⟨rfl, N36q, e36⟩ := hQ36
  have N36 := Fr.app N30 N36q
  have S37 : Steps p.tables e below Ω (T36.setTop (mkF m 176 #[.val (.int pp), .val (.long qq), .second, .val (.int a1), .val (.int b1), .val (.int k1), .val (.int f), .val (.long id), .second, .val (.ref b), .val (.int (k1 &&& (31 : Int32))), .val (.int ((1 : Int32) <<< ((k1 &&& (31 : Int32)) &&& 31))), .val (.int (1 : Int32)), .val (.int (own_has f a1)), .val (.int (own_has f b1)), .val (.int (1 : Int32)), .val (.int (1 : Int32)), .val (.int (1 : Int32)), .unset] [(.int (own_has f (a1 &&& (16777215 : Int32)))), (.int (own_has f a1))])) := S35.trans st36
  have S38 : Steps p.tables e below Ω (T36.setTop (mkF m 216 #[.val (.int pp), .val (.long qq), .second, .val (.int a1), .val (.int b1), .val (.int k1), .val (.int f), .val (.long id), .second, .val (.ref b), .val (.int (k1 &&& (31 : Int32))), .val (.int ((1 : Int32) <<< ((k1 &&& (31 : Int32)) &&& 31))), .val (.int (1 : Int32)), .val (.int (own_has f a1)), .val (.int (own_has f b1)), .val (.int (1 : Int32)), .val (.int (1 : Int32)), .val (.int (1 : Int32)), .val (.int (1 : Int32))] [(.int (1 : Int32))])) := by
    refine S37.trans ?_
    refine XS.icmpNo X36.here hx rfl (hb hby at_176) rfl (XT.ii_ne_f (by rw [h_f]; exact own_high pp a1)) ?_
    show Steps p.tables e below (T36.setTop (mkF m 179 #[.val (.int pp), .val (.long qq), .second, .val (.int a1), .val (.int b1), .val (.int k1), .val (.int f), .val (.long id), .second, .val (.ref b), .val (.int (k1 &&& (31 : Int32))), .val (.int ((1 : Int32) <<< ((k1 &&& (31 : Int32)) &&& 31))), .val (.int (1 : Int32)), .val (.int (own_has f a1)), .val (.int (own_has f b1)), .val (.int (1 : Int32)), .val (.int (1 : Int32)), .val (.int (1 : Int32)), .unset] [])) _
    refine XS.iconst X36.here hx rfl (hb hby at_179) ?_
    show Steps p.tables e below (T36.setTop (mkF m 180 #[.val (.int pp), .val (.long qq), .second, .val (.int a1), .val (.int b1), .val (.int k1), .val (.int f), .val (.long id), .second, .val (.ref b), .val (.int (k1 &&& (31 : Int32))), .val (.int ((1 : Int32) <<< ((k1 &&& (31 : Int32)) &&& 31))), .val (.int (1 : Int32)), .val (.int (own_has f a1)), .val (.int (own_has f b1)), .val (.int (1 : Int32)), .val (.int (1 : Int32)), .val (.int (1 : Int32)), .unset] [(.int (1 : Int32))])) _
    refine XS.goto X36.here hx rfl (pc0 := 180) (pc' := 184) rfl (hb hby at_180) (by decide) (by decide) ?_
    show Steps p.tables e below (T36.setTop (mkF m 184 #[.val (.int pp), .val (.long qq), .second, .val (.int a1), .val (.int b1), .val (.int k1), .val (.int f), .val (.long id), .second, .val (.ref b), .val (.int (k1 &&& (31 : Int32))), .val (.int ((1 : Int32) <<< ((k1 &&& (31 : Int32)) &&& 31))), .val (.int (1 : Int32)), .val (.int (own_has f a1)), .val (.int (own_has f b1)), .val (.int (1 : Int32)), .val (.int (1 : Int32)), .val (.int (1 : Int32)), .unset] [(.int (1 : Int32))])) _
    refine XS.istore X36.here hx rfl (hb hby at_184) rfl (l' := #[.val (.int pp), .val (.long qq), .second, .val (.int a1), .val (.int b1), .val (.int k1), .val (.int f), .val (.long id), .second, .val (.ref b), .val (.int (k1 &&& (31 : Int32))), .val (.int ((1 : Int32) <<< ((k1 &&& (31 : Int32)) &&& 31))), .val (.int (1 : Int32)), .val (.int (own_has f a1)), .val (.int (own_has f b1)), .val (.int (1 : Int32)), .val (.int (1 : Int32)), .val (.int (1 : Int32)), .val (.int (1 : Int32))]) rfl ?_
    show Steps p.tables e below (T36.setTop (mkF m 186 #[.val (.int pp), .val (.long qq), .second, .val (.int a1), .val (.int b1), .val (.int k1), .val (.int f), .val (.long id), .second, .val (.ref b), .val (.int (k1 &&& (31 : Int32))), .val (.int ((1 : Int32) <<< ((k1 &&& (31 : Int32)) &&& 31))), .val (.int (1 : Int32)), .val (.int (own_has f a1)), .val (.int (own_has f b1)), .val (.int (1 : Int32)), .val (.int (1 : Int32)), .val (.int (1 : Int32)), .val (.int (1 : Int32))] [])) _
    refine XS.iload X36.here hx rfl (hb hby at_186) rfl ?_
    show Steps p.tables e below (T36.setTop (mkF m 188 #[.val (.int pp), .val (.long qq), .second, .val (.int a1), .val (.int b1), .val (.int k1), .val (.int f), .val (.long id), .second, .val (.ref b), .val (.int (k1 &&& (31 : Int32))), .val (.int ((1 : Int32) <<< ((k1 &&& (31 : Int32)) &&& 31))), .val (.int (1 : Int32)), .val (.int (own_has f a1)), .val (.int (own_has f b1)), .val (.int (1 : Int32)), .val (.int (1 : Int32)), .val (.int (1 : Int32)), .val (.int (1 : Int32))] [(.int (1 : Int32))])) _
    refine XS.ifNo X36.here hx rfl (hb hby at_188) rfl (XT.i0_eq_f (by decide)) ?_
    show Steps p.tables e below (T36.setTop (mkF m 191 #[.val (.int pp), .val (.long qq), .second, .val (.int a1), .val (.int b1), .val (.int k1), .val (.int f), .val (.long id), .second, .val (.ref b), .val (.int (k1 &&& (31 : Int32))), .val (.int ((1 : Int32) <<< ((k1 &&& (31 : Int32)) &&& 31))), .val (.int (1 : Int32)), .val (.int (own_has f a1)), .val (.int (own_has f b1)), .val (.int (1 : Int32)), .val (.int (1 : Int32)), .val (.int (1 : Int32)), .val (.int (1 : Int32))] [])) _
    refine XS.iload X36.here hx rfl (hb hby at_191) rfl ?_
    show Steps p.tables e below (T36.setTop (mkF m 193 #[.val (.int pp), .val (.long qq), .second, .val (.int a1), .val (.int b1), .val (.int k1), .val (.int f), .val (.long id), .second, .val (.ref b), .val (.int (k1 &&& (31 : Int32))), .val (.int ((1 : Int32) <<< ((k1 &&& (31 : Int32)) &&& 31))), .val (.int (1 : Int32)), .val (.int (own_has f a1)), .val (.int (own_has f b1)), .val (.int (1 : Int32)), .val (.int (1 : Int32)), .val (.int (1 : Int32)), .val (.int (1 : Int32))] [(.int (1 : Int32))])) _
    refine XS.ifNo X36.here hx rfl (hb hby at_193) rfl (XT.i0_eq_f (by decide)) ?_
    show Steps p.tables e below (T36.setTop (mkF m 196 #[.val (.int pp), .val (.long qq), .second, .val (.int a1), .val (.int b1), .val (.int k1), .val (.int f), .val (.long id), .second, .val (.ref b), .val (.int (k1 &&& (31 : Int32))), .val (.int ((1 : Int32) <<< ((k1 &&& (31 : Int32)) &&& 31))), .val (.int (1 : Int32)), .val (.int (own_has f a1)), .val (.int (own_has f b1)), .val (.int (1 : Int32)), .val (.int (1 : Int32)), .val (.int (1 : Int32)), .val (.int (1 : Int32))] [])) _
    refine XS.iload X36.here hx rfl (hb hby at_196) rfl ?_
    show Steps p.tables e below (T36.setTop (mkF m 198 #[.val (.int pp), .val (.long qq), .second, .val (.int a1), .val (.int b1), .val (.int k1), .val (.int f), .val (.long id), .second, .val (.ref b), .val (.int (k1 &&& (31 : Int32))), .val (.int ((1 : Int32) <<< ((k1 &&& (31 : Int32)) &&& 31))), .val (.int (1 : Int32)), .val (.int (own_has f a1)), .val (.int (own_has f b1)), .val (.int (1 : Int32)), .val (.int (1 : Int32)), .val (.int (1 : Int32)), .val (.int (1 : Int32))] [(.int (1 : Int32))])) _
    refine XS.ifNo X36.here hx rfl (hb hby at_198) rfl (XT.i0_eq_f (by decide)) ?_
    show Steps p.tables e below (T36.setTop (mkF m 201 #[.val (.int pp), .val (.long qq), .second, .val (.int a1), .val (.int b1), .val (.int k1), .val (.int f), .val (.long id), .second, .val (.ref b), .val (.int (k1 &&& (31 : Int32))), .val (.int ((1 : Int32) <<< ((k1 &&& (31 : Int32)) &&& 31))), .val (.int (1 : Int32)), .val (.int (own_has f a1)), .val (.int (own_has f b1)), .val (.int (1 : Int32)), .val (.int (1 : Int32)), .val (.int (1 : Int32)), .val (.int (1 : Int32))] [])) _
    refine XS.iload X36.here hx rfl (hb hby at_201) rfl ?_
    show Steps p.tables e below (T36.setTop (mkF m 203 #[.val (.int pp), .val (.long qq), .second, .val (.int a1), .val (.int b1), .val (.int k1), .val (.int f), .val (.long id), .second, .val (.ref b), .val (.int (k1 &&& (31 : Int32))), .val (.int ((1 : Int32) <<< ((k1 &&& (31 : Int32)) &&& 31))), .val (.int (1 : Int32)), .val (.int (own_has f a1)), .val (.int (own_has f b1)), .val (.int (1 : Int32)), .val (.int (1 : Int32)), .val (.int (1 : Int32)), .val (.int (1 : Int32))] [(.int (1 : Int32))])) _
    refine XS.ifNo X36.here hx rfl (hb hby at_203) rfl (XT.i0_eq_f (by decide)) ?_
    show Steps p.tables e below (T36.setTop (mkF m 206 #[.val (.int pp), .val (.long qq), .second, .val (.int a1), .val (.int b1), .val (.int k1), .val (.int f), .val (.long id), .second, .val (.ref b), .val (.int (k1 &&& (31 : Int32))), .val (.int ((1 : Int32) <<< ((k1 &&& (31 : Int32)) &&& 31))), .val (.int (1 : Int32)), .val (.int (own_has f a1)), .val (.int (own_has f b1)), .val (.int (1 : Int32)), .val (.int (1 : Int32)), .val (.int (1 : Int32)), .val (.int (1 : Int32))] [])) _
    refine XS.iload X36.here hx rfl (hb hby at_206) rfl ?_
    show Steps p.tables e below (T36.setTop (mkF m 208 #[.val (.int pp), .val (.long qq), .second, .val (.int a1), .val (.int b1), .val (.int k1), .val (.int f), .val (.long id), .second, .val (.ref b), .val (.int (k1 &&& (31 : Int32))), .val (.int ((1 : Int32) <<< ((k1 &&& (31 : Int32)) &&& 31))), .val (.int (1 : Int32)), .val (.int (own_has f a1)), .val (.int (own_has f b1)), .val (.int (1 : Int32)), .val (.int (1 : Int32)), .val (.int (1 : Int32)), .val (.int (1 : Int32))] [(.int (1 : Int32))])) _
    refine XS.ifNo X36.here hx rfl (hb hby at_208) rfl (XT.i0_eq_f (by decide)) ?_
    show Steps p.tables e below (T36.setTop (mkF m 211 #[.val (.int pp), .val (.long qq), .second, .val (.int a1), .val (.int b1), .val (.int k1), .val (.int f), .val (.long id), .second, .val (.ref b), .val (.int (k1 &&& (31 : Int32))), .val (.int ((1 : Int32) <<< ((k1 &&& (31 : Int32)) &&& 31))), .val (.int (1 : Int32)), .val (.int (own_has f a1)), .val (.int (own_has f b1)), .val (.int (1 : Int32)), .val (.int (1 : Int32)), .val (.int (1 : Int32)), .val (.int (1 : Int32))] [])) _
    refine XS.iconst X36.here hx rfl (hb hby at_211) ?_
    show Steps p.tables e below (T36.setTop (mkF m 212 #[.val (.int pp), .val (.long qq), .second, .val (.int a1), .val (.int b1), .val (.int k1), .val (.int f), .val (.long id), .second, .val (.ref b), .val (.int (k1 &&& (31 : Int32))), .val (.int ((1 : Int32) <<< ((k1 &&& (31 : Int32)) &&& 31))), .val (.int (1 : Int32)), .val (.int (own_has f a1)), .val (.int (own_has f b1)), .val (.int (1 : Int32)), .val (.int (1 : Int32)), .val (.int (1 : Int32)), .val (.int (1 : Int32))] [(.int (1 : Int32))])) _
    refine XS.goto X36.here hx rfl (pc0 := 212) (pc' := 216) rfl (hb hby at_212) (by decide) (by decide) ?_
    exact Steps.refl _
  obtain ⟨fs, hr, hrun, hended, hW, hsame⟩ := X36.leave (v := some (.int (1 : Int32))) (fun h => by rw [Bd.returns] at h; cases h)
  have hfin : Steps p.tables e below Ω (T36.setFrames fs) := by
    refine S38.trans ?_
    exact own_retZ X36 hx Bd.returns (by decide) (hb hby at_216) hr
  rw [hΩ] at hfin
  refine ⟨_, _, hfin, hrun, hended, _, _, rfl, ?_, ⟨_, rfl⟩, hW, hsame.mono (by decide) (by decide)⟩
  show Q0 Z pp qq a1 b1 k1 h0 n0 _ T36.heap _
  rw [e36]
  exact ⟨rfl, N36⟩
set_option maxRecDepth 65536 in
set_option maxHeartbeats 40000000 in
theorem comes_1 {Post : Tables → Env → Array Value → State → Outcome → State → Prop} (hpost : ∀ tb e args s v u, (limb_1_1.after args s (.returned v) u = true ∧ limb_1_2.after args s (.returned v) u = true ∧ True) → FrameEnd s (.returned v) u (Jvm.fieldLocs frame_1_writes args s ++ Jvm.arrayLocs frame_1_arrays args s ++ Jvm.staticLocs frame_1_statics s) 16 128 → Post tb e args s (.returned v) u) :
    ArmFor flags0 classFile x code maxLocals ret World_1 tables_1 room_1 Calls_1 rest_1 Pre_1 Post := by
  intro l hfl _ _ p e ha hc hk s m args below hf hA hF happ hP
  obtain ⟨hcalls, hrest, hpre⟩ := hP
  obtain ⟨-, -, -, hnamed, -, -, -, hat⟩ := (Spec.applies_iff hf).mp happ
  obtain ⟨hg, hn⟩ := and_e (Cond.before_iff.mp (show (Jvm.Cond.and given_1 narrow_1).before args s = true from hpre))
  obtain ⟨gc, g0⟩ := and_e hg
  obtain ⟨k0, g1⟩ := and_e g0
  obtain ⟨k1, g2⟩ := and_e g1
  obtain ⟨k2, g3⟩ := and_e g2
  obtain ⟨k3, g4⟩ := and_e g3
  obtain ⟨w0, w1, w2, w3, w4, rfl⟩ : ∃ w0 w1 w2 w3 w4 : Value, args = #[w0, w1, w2, w3, w4] := by
    have hs : args.size = 5 := by simpa [Cond.value, given_1] using gc
    obtain ⟨L⟩ := args
    match L, hs with
    | [w0, w1, w2, w3, w4], _ => exact ⟨w0, w1, w2, w3, w4, rfl⟩
  have hw := fun d (hd : d ∈ tables_1) => atoms_spec (ws := Jvm.Cond.code x code maxLocals ret :: tables_1) hat d (List.mem_cons_of_mem _ hd)
  have hfit : Fit s := fun {y c} hc i hi => by
    obtain ⟨ha, rfl⟩ := Array.getElem?_eq_some_iff.mp hc
    have q := List.all_eq_true.mp ((Array.all_eq_true_iff_forall_mem.mp hF) _ (Array.getElem_mem ha)) i (List.mem_range.mpr hi)
    simpa [Array.getElem?_eq_getElem hi] using q
  obtain ⟨i0, ei0⟩ := is_v k0
  obtain rfl : w0 = (.int i0) := Option.some.inj ei0
  obtain ⟨i1, ei1⟩ := isL_v k1
  obtain rfl : w1 = (.long i1) := Option.some.inj ei1
  obtain ⟨i2, ei2⟩ := is_v k2
  obtain rfl : w2 = (.int i2) := Option.some.inj ei2
  obtain ⟨i3, ei3⟩ := is_v k3
  obtain rfl : w3 = (.int i3) := Option.some.inj ei3
  obtain ⟨i4, ei4⟩ := is_v g4
  obtain rfl : w4 = (.int i4) := Option.some.inj ei4
  obtain ⟨n, o, h1, h2, h3, _, L, rfl, ⟨rfl, N⟩, hq⟩ := rm0 l s _ hw tables_1 i0 i1 i2 i3 i4  s.heap s.heap.size (Nat.le_refl _)  p e ha hc hk s m _ below hf ((Spec.applies_iff_loose hf).mp happ).1 ⟨rfl, State.Warmed39.refl s, rfl⟩ trivial
  refine ⟨n, _, h1, h2, h3, hpost _ _ _ _ _ _ ⟨Cond.after_iff.mpr rfl, Cond.after_iff.mpr (eq_i res_at (Term.int_eval (1)) rfl), trivial⟩ ⟨hq.1, hq.2.1, (hq.2.2.sift fun y hy => Or.inr (N y hy)).mono (by decide) (by decide)⟩⟩
theorem main_1_1 : Claimed_1_1 := comes_1 fun _ _ _ _ _ _ h hF => ⟨h.1, hF⟩
theorem main_1_2 : Claimed_1_2 := comes_1 fun _ _ _ _ _ _ h hF => ⟨h.2.1, hF⟩
end Jvm.Pilot.@@N@@
namespace Jvm.Pilot.@@N@@
open Jvm Jvm.ClassFile Sem Op Lib Jvm.Free Jvm.Stand Jvm.Pilot.@@N@@.Jvm.D
/-! MADE BY PROGRAM (witnessworld.py) out of the Statement's table words and the real class files: 10 classes; the members and pool entries that the words name. The judged class is class 1, her method 1. -/
namespace start1
open Jvm.ClassFile
def u (s : String) : CpInfo := .utf8 (stringToUtf16 s)
/-- a pool by its gaps: so many unusable entries, then the entry; so many at the end -/
def gap : Nat → List CpInfo → List CpInfo
  | 0, r => r
  | n + 1, r => .unusable :: gap n r
def poolList (es : List (Nat × CpInfo)) (last : Nat) : List CpInfo := es.foldr (fun e r => gap e.1 (e.2 :: r)) (gap last [])
def pool (es : List (Nat × CpInfo)) (last : Nat) : Array CpInfo := ⟨poolList es last⟩
def fileOf (pool : Array CpInfo) (this : Nat) (attrs : Array Attribute := #[]) (ms : Array MethodInfo := #[]) (fl : Nat := 33) (sup : Nat := 0) (ifs : Array Nat := #[]) (fds : Array FieldInfo := #[]) : ClassFile where
  minorVersion := 0
  majorVersion := 65
  constantPool := pool
  accessFlags := fl
  thisClass := this
  superClass := sup
  interfaces := ifs
  fields := fds
  methods := ms
  attributes := attrs
def plain (name : String) (sup : Option ClassId) : Class where
  name := name
  kind := .ordinary
  loader := none
  accessFlags := 33
  super := sup
  interfaces := #[]
  cf := none
  fields := #[]
  methods := #[]
  instanceTypes := #[]
  staticTypes := #[]
  resolved := #[]
  callSites := []
  init := .initialized
  statics := none
  mirror := none

def pool0 : Array CpInfo := pool [(5, u "<init>"), (0, u "()V"), (1, .class_ 10), (1, u "java/lang/Object")] 113

def k0c0 : Code := { maxStack := 0, maxLocals := 1, code := object_method_1_code, exceptionTable := #[], attributes := #[] }
def k0m0 : Method := { name := "<init>", desc := "()V", sig := { parameters := [], returnType := none }, accessFlags := 1, code := some k0c0 }
/-- java/lang/Object -/
def k0 : Class := { plain "java/lang/Object" none with
  accessFlags := 33
  interfaces := #[]
  cf := some (fileOf pool0 8 #[] #[{ accessFlags := 1, nameIndex := 5, descriptorIndex := 6, attributes := #[] }] 33 0 #[] #[])
  fields := #[]
  methods := #[k0m0]
  instanceTypes := #[]
  staticTypes := #[]
  resolved := Array.replicate 124 none
  statics := none }

def pool1 : Array CpInfo := pool [(2, .class_ 4), (1, u "java/lang/Object"), (0, u "<init>"), (0, u "()V"), (0, .integer 16777215), (0, .long 4294967295), (1, .class_ 11), (0, u "com/example/pathsmith/pathsmith/pcep/Monitoring"), (0, .methodref 10 13), (0, .nameAndType 5 14), (0, u "(IJ)V"), (0, .methodref 10 16), (0, .nameAndType 17 18), (0, u "has"), (0, u "(I)Z"), (0, .class_ 20), (0, u "com/example/pathsmith/pathsmith/pcep/MonitoringHasPinLaw"), (2, u "law"), (0, u "(IJIII)Z")] 3

def k1m0 : Method := { name := "<init>", desc := "()V", sig := { parameters := [], returnType := none }, accessFlags := 1, code := none }
def k1c1 : Code := { maxStack := 5, maxLocals := 19, code := code, exceptionTable := #[], attributes := #[] }
def k1m1 : Method := { name := "law", desc := "(IJIII)Z", sig := { parameters := [.int, .long, .int, .int, .int], returnType := some .boolean }, accessFlags := 9, code := some k1c1 }
/-- com/example/pathsmith/pathsmith/pcep/MonitoringHasPinLaw -/
def k1 : Class := { plain "com/example/pathsmith/pathsmith/pcep/MonitoringHasPinLaw" (some 0) with
  accessFlags := 49
  interfaces := #[]
  cf := some (fileOf pool1 19 #[] #[{ accessFlags := 1, nameIndex := 5, descriptorIndex := 6, attributes := #[] }, { accessFlags := 9, nameIndex := 23, descriptorIndex := 24, attributes := #[] }] 49 2 #[] #[])
  fields := #[]
  methods := #[k1m0, k1m1]
  instanceTypes := #[]
  staticTypes := #[]
  resolved := Array.replicate 28 none
  statics := none }

def pool2 : Array CpInfo := pool [(1, .methodref 2 3), (0, .class_ 4), (0, .nameAndType 5 6), (0, u "java/lang/Object"), (0, u "<init>"), (0, u "()V"), (0, .class_ 8), (0, u "java/lang/Record")] 13

def k2c0 : Code := { maxStack := 1, maxLocals := 1, code := jdk_30_method_1_code, exceptionTable := #[], attributes := #[] }
def k2m0 : Method := { name := "<init>", desc := "()V", sig := { parameters := [], returnType := none }, accessFlags := 4, code := some k2c0 }
/-- java/lang/Record -/
def k2 : Class := { plain "java/lang/Record" (some 0) with
  accessFlags := 1057
  interfaces := #[]
  cf := some (fileOf pool2 7 #[] #[{ accessFlags := 4, nameIndex := 5, descriptorIndex := 6, attributes := #[] }] 1057 2 #[] #[])
  fields := #[]
  methods := #[k2m0]
  instanceTypes := #[]
  staticTypes := #[]
  resolved := Array.replicate 22 none
  statics := none }

def pool3 : Array CpInfo := pool [(1, .methodref 2 3), (0, .class_ 4), (0, .nameAndType 5 6), (0, u "java/lang/Record"), (0, u "<init>"), (0, u "()V"), (0, .class_ 8), (0, u "com/example/pathsmith/pathsmith/pcep/Monitoring"), (0, .integer 4278190080), (9, .fieldref 7 20), (0, .nameAndType 21 22), (0, u "flags"), (0, u "I"), (0, .fieldref 7 24), (0, .nameAndType 25 26), (0, u "id"), (0, u "J"), (17, u "(IJ)V"), (26, u "LIVENESS"), (2, u "GENERAL"), (1, u "PROCESSING_TIME"), (1, u "OVERLOAD"), (1, u "INCOMPLETE"), (1, u "TYPE"), (0, u "FLAGS"), (9, u "has"), (0, u "(I)Z")] 34

def k3c0 : Code := { maxStack := 5, maxLocals := 4, code := prog_57_method_1_code, exceptionTable := #[], attributes := #[] }
def k3m0 : Method := { name := "<init>", desc := "(IJ)V", sig := { parameters := [.int, .long], returnType := none }, accessFlags := 1, code := some k3c0 }
def k3c1 : Code := { maxStack := 2, maxLocals := 2, code := prog_57_method_3_code, exceptionTable := #[], attributes := #[] }
def k3m1 : Method := { name := "has", desc := "(I)Z", sig := { parameters := [.int], returnType := some .boolean }, accessFlags := 1, code := some k3c1 }
/-- com/example/pathsmith/pathsmith/pcep/Monitoring -/
def k3 : Class := { plain "com/example/pathsmith/pathsmith/pcep/Monitoring" (some 2) with
  accessFlags := 49
  interfaces := #[]
  cf := some (fileOf pool3 7 #[] #[{ accessFlags := 1, nameIndex := 5, descriptorIndex := 44, attributes := #[] }, { accessFlags := 1, nameIndex := 93, descriptorIndex := 94, attributes := #[] }] 49 2 #[] #[{ accessFlags := 18, nameIndex := 21, descriptorIndex := 22, attributes := #[] }, { accessFlags := 18, nameIndex := 25, descriptorIndex := 26, attributes := #[] }, { accessFlags := 25, nameIndex := 71, descriptorIndex := 22, attributes := #[] }, { accessFlags := 25, nameIndex := 74, descriptorIndex := 22, attributes := #[] }, { accessFlags := 25, nameIndex := 76, descriptorIndex := 22, attributes := #[] }, { accessFlags := 25, nameIndex := 78, descriptorIndex := 22, attributes := #[] }, { accessFlags := 25, nameIndex := 80, descriptorIndex := 22, attributes := #[] }, { accessFlags := 25, nameIndex := 82, descriptorIndex := 22, attributes := #[] }, { accessFlags := 26, nameIndex := 83, descriptorIndex := 22, attributes := #[] }])
  fields := #[{ name := "flags", type := .int, accessFlags := 18, slot := 0, constantValue := 0 }, { name := "id", type := .long, accessFlags := 18, slot := 1, constantValue := 0 }, { name := "LIVENESS", type := .int, accessFlags := 25, slot := 0, constantValue := 0 }, { name := "GENERAL", type := .int, accessFlags := 25, slot := 1, constantValue := 0 }, { name := "PROCESSING_TIME", type := .int, accessFlags := 25, slot := 2, constantValue := 0 }, { name := "OVERLOAD", type := .int, accessFlags := 25, slot := 3, constantValue := 0 }, { name := "INCOMPLETE", type := .int, accessFlags := 25, slot := 4, constantValue := 0 }, { name := "TYPE", type := .int, accessFlags := 25, slot := 5, constantValue := 0 }, { name := "FLAGS", type := .int, accessFlags := 26, slot := 6, constantValue := 0 }]
  methods := #[k3m0, k3m1]
  instanceTypes := #[.int, .long]
  staticTypes := #[.int, .int, .int, .int, .int, .int, .int]
  resolved := Array.replicate 129 none
  statics := none }

def pool4 : Array CpInfo := pool [(1, u "java/lang/Cloneable"), (0, .class_ 1), (0, u "java/lang/Object"), (0, .class_ 3)] 3

/-- java/lang/Cloneable -/
def k4 : Class := { plain "java/lang/Cloneable" (some 0) with
  accessFlags := 1537
  interfaces := #[]
  cf := some (fileOf pool4 2 #[] #[] 1537 4 #[] #[])
  fields := #[]
  methods := #[]
  instanceTypes := #[]
  staticTypes := #[]
  resolved := Array.replicate 8 none
  statics := none }

def pool5 : Array CpInfo := pool [(1, u "java/io/Serializable"), (0, .class_ 1), (0, u "java/lang/Object"), (0, .class_ 3)] 3

/-- java/io/Serializable -/
def k5 : Class := { plain "java/io/Serializable" (some 0) with
  accessFlags := 1537
  interfaces := #[]
  cf := some (fileOf pool5 2 #[] #[] 1537 4 #[] #[])
  fields := #[]
  methods := #[]
  instanceTypes := #[]
  staticTypes := #[]
  resolved := Array.replicate 8 none
  statics := none }

/-- the primitive byte -/
def k6 : Class := { plain "byte" none with kind := .primitive 'B', accessFlags := 0x411 }
/-- [B -/
def k7 : Class := { plain "[B" (some 0) with kind := .array 6 .byte, interfaces := #[4, 5], accessFlags := 1041 }

/-- the primitive int -/
def k8 : Class := { plain "int" none with kind := .primitive 'I', accessFlags := 0x411 }
/-- [I -/
def k9 : Class := { plain "[I" (some 0) with kind := .array 8 .int, interfaces := #[4, 5], accessFlags := 1041 }

def heap : Heap := #[]
def classes : Array Class := #[k0, k1, k2, k3, k4, k5, k6, k7, k8, k9]
def interned : List (Array UInt16 × Addr) := []
def slotsUsed : Nat := 0
def theMethod : MethodId := ⟨1, 1⟩
def args0 : Array Value := #[.int 5, .long 300, .int 7, .int 1, .int 3]
def aboutOver (below : List Frame) : State where
  vm := { classes := classes, interned := interned.toArray }
  heap := heap
  slotsUsed := slotsUsed
  threads := #[{ frames := .invoking theMethod args0 :: below }]
def below0 : List Frame := [.native { method := ⟨0, 0⟩, args := #[] }]
def about1 : State := aboutOver below0
def p0 : Program := .bare "" "" ""
def e0 : Env := launch0.env 0 0 0
theorem w_frames : about1.frames = Frame.invoking theMethod args0 :: below0 := rfl
set_option maxRecDepth 65536 in
theorem w_args : argsFit about1.vm theMethod args0 = true := by decide +kernel
set_option maxRecDepth 65536 in
theorem w_heap : heapFits about1 = true := by decide +kernel
set_option maxRecDepth 65536 in
theorem w_runnable : about1.curStatus? = some .runnable := by decide +kernel
set_option maxRecDepth 65536 in
theorem w_alone : about1.alone = true := by decide +kernel
set_option maxRecDepth 65536 in
theorem w_named : about1.methodNamed? x = some theMethod := by decide +kernel
set_option maxRecDepth 65536 in
theorem w_hears : about1.hears theMethod below0 = true := by decide +kernel
set_option maxRecDepth 65536 in
theorem w_ripe : about1.ripe theMethod args0 below0 = true := by decide +kernel
theorem w_running : about1.status = .running := rfl
set_option maxRecDepth 65536 in
theorem w_room : about1.hasRoom e0.platform room_1 = true :=
  launch0.hasRoom_least _ room_1 (by decide +kernel) (by decide +kernel) (by decide +kernel) (by decide +kernel) (by decide +kernel) (by decide +kernel)
theorem allAtoms_all (ts : List Jvm.Cond) (a : Array Jvm.Value) (st : Jvm.State) : (allAtoms ts).before a st = ts.all (fun c => c.before a st) := by
  induction ts with
  | nil => rfl
  | cons c t ih =>
    show (Jvm.Cond.and c (allAtoms t)).before a st = _
    rw [Jvm.Cond.before_and, ih, List.all_cons]
def words1 : List Jvm.Cond := Jvm.Cond.code x code maxLocals ret :: tables_1
/-- a 'code' word, met by the world's own term for the bytes: nothing is compared byte by byte -/
theorem code_word {y : MethodName} {bytes : ByteArray} {mx : Nat} {rt : Option FieldType} {a : Array Value} {s : State} {m : MethodId} {meth : Method} {c : Code} (h1 : s.methodNamed? y = some m) (h2 : s.vm.method? m = some meth) (h3 : meth.code = some c) (h4 : c.code = bytes)
    (h5 : (c.maxLocals == mx && c.exceptionTable.isEmpty && decide (c.maxStack ≤ mostOperands) && decide (meth.sig.returnType = rt) && !meth.locks && decide (parseMethodDescriptor y.desc = some meth.sig)) = true) : (Jvm.Cond.code y bytes mx rt).before a s = true := by
  simp only [Bool.and_eq_true, beq_iff_eq, Bool.not_eq_true', decide_eq_true_eq] at h5
  obtain ⟨⟨⟨⟨⟨g1, g2⟩, g3⟩, g4⟩, g5⟩, g6⟩ := h5
  simp [Cond.before, Cond.holds, Cond.value, h1, h2, h3, h4, g1, g2, g3, g4, g5, g6]
def isCode : Jvm.Cond → Bool
  | .code _ _ _ _ => true
  | _ => false
theorem all_split {L : List Jvm.Cond} {P : Jvm.Cond → Bool} (h1 : L.all (fun c => isCode c || P c) = true) (h2 : ∀ c ∈ L.filter isCode, P c = true) : L.all P = true := by
  refine List.all_eq_true.mpr fun c hc => ?_
  have h := List.all_eq_true.mp h1 c hc
  rcases Bool.eq_false_or_eq_true (isCode c) with hi | hi
  · exact h2 c (List.mem_filter.mpr ⟨hc, hi⟩)
  · simpa [hi] using h
set_option maxRecDepth 65536 in
theorem w_c0 : (Jvm.Cond.code x code maxLocals ret).before args0 about1 = true := code_word (m := ⟨1, 1⟩) (meth := k1m1) (c := k1c1) (by decide +kernel) rfl rfl rfl (by decide +kernel)
set_option maxRecDepth 65536 in
theorem w_c1 : (Jvm.Cond.code ({ cls := "com/example/pathsmith/pathsmith/pcep/Monitoring", name := "<init>", desc := "(IJ)V" } : Jvm.MethodName) prog_57_method_1_code (4 : Nat) (Option.none : Option Jvm.ClassFile.FieldType)).before args0 about1 = true := code_word (m := ⟨3, 0⟩) (meth := k3m0) (c := k3c0) (by decide +kernel) rfl rfl rfl (by decide +kernel)
set_option maxRecDepth 65536 in
theorem w_c2 : (Jvm.Cond.code ({ cls := "java/lang/Record", name := "<init>", desc := "()V" } : Jvm.MethodName) jdk_30_method_1_code (1 : Nat) (Option.none : Option Jvm.ClassFile.FieldType)).before args0 about1 = true := code_word (m := ⟨2, 0⟩) (meth := k2m0) (c := k2c0) (by decide +kernel) rfl rfl rfl (by decide +kernel)
set_option maxRecDepth 65536 in
theorem w_c3 : (Jvm.Cond.code ({ cls := "java/lang/Object", name := "<init>", desc := "()V" } : Jvm.MethodName) object_method_1_code (1 : Nat) (Option.none : Option Jvm.ClassFile.FieldType)).before args0 about1 = true := code_word (m := ⟨0, 0⟩) (meth := k0m0) (c := k0c0) (by decide +kernel) rfl rfl rfl (by decide +kernel)
set_option maxRecDepth 65536 in
theorem w_c4 : (Jvm.Cond.code ({ cls := "com/example/pathsmith/pathsmith/pcep/Monitoring", name := "has", desc := "(I)Z" } : Jvm.MethodName) prog_57_method_3_code (2 : Nat) (Option.some Jvm.ClassFile.FieldType.boolean)).before args0 about1 = true := code_word (m := ⟨3, 1⟩) (meth := k3m1) (c := k3c1) (by decide +kernel) rfl rfl rfl (by decide +kernel)
def codes1 : List Jvm.Cond := [Jvm.Cond.code x code maxLocals ret, Jvm.Cond.code ({ cls := "com/example/pathsmith/pathsmith/pcep/Monitoring", name := "<init>", desc := "(IJ)V" } : Jvm.MethodName) prog_57_method_1_code (4 : Nat) (Option.none : Option Jvm.ClassFile.FieldType), Jvm.Cond.code ({ cls := "java/lang/Record", name := "<init>", desc := "()V" } : Jvm.MethodName) jdk_30_method_1_code (1 : Nat) (Option.none : Option Jvm.ClassFile.FieldType), Jvm.Cond.code ({ cls := "java/lang/Object", name := "<init>", desc := "()V" } : Jvm.MethodName) object_method_1_code (1 : Nat) (Option.none : Option Jvm.ClassFile.FieldType), Jvm.Cond.code ({ cls := "com/example/pathsmith/pathsmith/pcep/Monitoring", name := "has", desc := "(I)Z" } : Jvm.MethodName) prog_57_method_3_code (2 : Nat) (Option.some Jvm.ClassFile.FieldType.boolean)]
set_option maxRecDepth 65536 in
theorem codes_eq : words1.filter isCode = codes1 := rfl
theorem w_codes : ∀ c ∈ words1.filter isCode, c.before args0 about1 = true := by
  rw [codes_eq]
  intro c hc
  simp only [codes1, List.mem_cons, List.not_mem_nil, or_false] at hc
  rcases hc with rfl | rfl | rfl | rfl | rfl
  · exact w_c0
  · exact w_c1
  · exact w_c2
  · exact w_c3
  · exact w_c4
set_option maxRecDepth 65536 in
theorem w_t1 : (words1.take 24).all (fun c => isCode c || c.before args0 about1) = true := by decide +kernel
set_option maxRecDepth 65536 in
theorem w_t2 : (words1.drop 24).all (fun c => isCode c || c.before args0 about1) = true := by decide +kernel
theorem w_tables : (allAtoms (Jvm.Cond.code x code maxLocals ret :: tables_1)).before args0 about1 = true := by
  rw [allAtoms_all]
  show words1.all (fun c => c.before args0 about1) = true
  refine all_split ?_ w_codes
  rw [← List.take_append_drop 24 words1, List.all_append, w_t1, w_t2]
  rfl
set_option maxRecDepth 65536 in
theorem w_case : (Jvm.Cond.and given_1 narrow_1).before args0 about1 = true := by decide +kernel
theorem w_applies : (headSpec (Jvm.Cond.code x code maxLocals ret :: tables_1) room_1).applies x e0.platform about1 = true :=
  (Spec.applies_iff w_frames).mpr ⟨w_running, w_runnable, w_alone, w_named, w_hears, w_ripe, w_room, w_tables⟩
theorem atStart : AtStart classFile x code maxLocals ret World_1 tables_1 room_1 Calls_1 rest_1 Pre_1 launch0 p0 e0 about1 theMethod args0 below0 :=
  ⟨lists_1, trivial, launch0.admits_env _ _ _, launch0.least_env, fairChoices_fair.cas, fairChoices_fair.clock, w_frames, w_args, w_heap, w_applies, trivial, trivial, w_case⟩
end start1
theorem witness_1 : WitnessClaimed_1 := ⟨start1.p0, start1.e0, start1.about1, start1.theMethod, start1.args0, start1.below0, start1.atStart⟩
end Jvm.Pilot.@@N@@
