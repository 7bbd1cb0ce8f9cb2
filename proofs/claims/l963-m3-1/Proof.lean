import JvmDerived
import JvmDerived.Pilot.@@N@@Statement
import JvmDerived.Pilot.@@N@@Code
set_option linter.unusedVariables false
set_option linter.unusedSimpArgs false
namespace Jvm.RoadKit
open Sem ClassFile Op Lib Jvm.Stand Jvm.Free Jvm.LawKit
section New
variable {p : Program} {l : Launch} {e : Env} {R : Room} {s : State} {m : MethodId} {args : Array Value} {below : List Frame} {meth : Method} {c : Code} {T : State} {locs : List Loc} {cells slots : Nat}
theorem retI (X : Stand p l e R s m args below meth c T locs cells slots) (hx : p.tables.exec = Jvm.exec) {pc : Nat} {Ls : Array Slot} {z : Int32} {rest : List Value} (hret : meth.sig.returnType = some .int) (hd : decode c.code pc = .ok (.ireturn, 1)) {fs : List Frame}
    (hl : ∀ (f : JFrame) (acts : List Action), f.method = m → f.locked = none → f.entered = [] → (doReturn e (T.setTop f) acts (some (.int z))).1 = T.setFrames fs) : Steps p.tables e below (T.setTop (mkF m pc Ls (.int z :: rest))) (T.setFrames fs) := by
  have hm' : T.vm.method? m = some meth := X.method'
  have hn : narrow .int (.int z) = .int z := rfl
  show Steps p.tables e below (T.setTop { method := m, pc := pc, locals := Ls, stack := _ :: rest, locked := none }) _
  jvm_step X.here [X.here.top, hx, hd, hm', hret, hn]
  first | (intro acts; rw [hl _ acts rfl rfl rfl]) | rw [hl _ _ rfl rfl rfl]
  exact Steps.refl _
theorem own_retZ (X : Stand p l e R s m args below meth c T locs cells slots) (hx : p.tables.exec = Jvm.exec) {pc : Nat} {Ls : Array Slot} {z : Int32} {rest : List Value} (hret : meth.sig.returnType = some .boolean) (hz : z &&& 1 = z) (hd : decode c.code pc = .ok (.ireturn, 1)) {fs : List Frame}
    (hl : ∀ (f : JFrame) (acts : List Action), f.method = m → f.locked = none → f.entered = [] → (doReturn e (T.setTop f) acts (some (.int z))).1 = T.setFrames fs) : Steps p.tables e below (T.setTop (mkF m pc Ls (.int z :: rest))) (T.setFrames fs) :=
  retN X hx (t := .boolean) hret (Or.inl rfl) hd (by have q : nar .boolean z = z := hz; rw [q]; exact hl)
theorem own_lrem {g : JFrame} {target : State} (X : Stand p l e R s m args below meth c T locs cells slots) (hx : p.tables.exec = Jvm.exec) (hg : g.method = m) {x y : Int64} {rest : List Value} (hd : decode c.code g.pc = .ok (.lrem, 1)) (hs : g.stack = .long y :: .long x :: rest) (hy : y ≠ 0)
    (hr : Steps p.tables e below (T.setTop { g with pc := g.pc + 1, stack := .long (x % y) :: rest }) target) : Steps p.tables e below (T.setTop g) target :=
  XS.lrem X.here hx hg hd hs hy (by rw [lrem_mod x y]; exact hr)
end New
end Jvm.RoadKit
namespace Jvm.Pilot.@@N@@
open Jvm Jvm.ClassFile Sem Op Lib Jvm.Free Jvm.Stand Jvm.LawKit Jvm.RoadKit Bundle Jvm.Pilot.@@N@@.Jvm.D
theorem own_sh (q : Int32) : ∃ k : Nat, k < 32 ∧ (q &&& 31).toBitVec.toNat = k ∧ (∀ x : Int32, (x <<< (q &&& 31)).toBitVec = x.toBitVec <<< k) ∧ (∀ x : Int32, ((x.toUInt32 >>> (q &&& 31).toUInt32).toInt32).toBitVec = x.toBitVec >>> k) := by
  obtain ⟨n, hn⟩ : ∃ n : Nat, (q &&& 31).toBitVec.toNat = n := ⟨_, rfl⟩
  have hlt : n < 32 := by
    rw [← hn, Int32.toBitVec_and, BitVec.toNat_and]
    exact Nat.lt_of_le_of_lt Nat.and_le_right (by decide)
  have hs := sm32 q n (by
    rw [← hn, Int32.toBitVec_and, BitVec.toNat_and]
    have q : (31 : Int32).toBitVec.toNat = 2 ^ 5 - 1 := by decide
    rw [q, Nat.and_two_pow_sub_one_eq_mod])
  refine ⟨n, hlt, hn, fun x => ?_, fun x => ?_⟩
  · rw [Int32.toBitVec_shiftLeft, BitVec.shiftLeft_eq', hs]
  · show (x.toUInt32 >>> (q &&& 31).toUInt32).toBitVec = _
    rw [UInt32.toBitVec_shiftRight]
    have r : ((q &&& 31).toUInt32.toBitVec % 32).toNat = n := by
      show ((q &&& 31).toBitVec % 32).toNat = n
      rw [BitVec.toNat_umod, hn]
      exact Nat.mod_eq_of_lt hlt
    show x.toBitVec >>> ((q &&& 31).toUInt32.toBitVec % 32).toNat = _
    rw [r]

def own_mask (l : Int32) : Int32 := if l = (0 : Int32) then (0 : Int32) else ((-1 : Int32) <<< (((32 : Int32) - l) &&& 31))
def own_con (ad l c : Int32) : Int32 := if (c &&& (own_mask l)) = ad then (1 : Int32) else (0 : Int32)
def own_ad (a l : Int32) : Int32 := (if l = (0 : Int32) then (0 : Int32) else (((a.toUInt32 >>> (((32 : Int32) - l) &&& 31).toUInt32).toInt32) <<< (((32 : Int32) - l) &&& 31)))
def own_ex (ad l c : Int32) : Int32 := (if l = (0 : Int32) then (1 : Int32) else (if (((c ^^^ ad).toUInt32 >>> (((32 : Int32) - l) &&& 31).toUInt32).toInt32) = (0 : Int32) then (1 : Int32) else (0 : Int32)))
theorem own_ok (a l : Int32) : (own_ad a l &&& (own_mask l ^^^ (-1 : Int32))) = (0 : Int32) := by
  unfold own_ad own_mask
  by_cases h : l = 0
  · rw [if_pos h, if_pos h, Int32.zero_and]
  · rw [if_neg h, if_neg h]
    obtain ⟨k, hk, -, hl, hr⟩ := own_sh ((32 : Int32) - l)
    rw [← Int32.toBitVec_inj, Int32.toBitVec_and, Int32.toBitVec_xor, hl, hl, hr]
    have e1 : (-1 : Int32).toBitVec = BitVec.allOnes 32 := by decide
    have e0 : (0 : Int32).toBitVec = 0#32 := rfl
    rw [e1, e0]
    apply BitVec.eq_of_getLsbD_eq
    intro i hi
    rw [BitVec.getLsbD_and, BitVec.getLsbD_xor, BitVec.getLsbD_shiftLeft, BitVec.getLsbD_shiftLeft, BitVec.getLsbD_allOnes, BitVec.getLsbD_allOnes, BitVec.getLsbD_zero]
    by_cases q : i < k
    · simp [q]
    · have q2 : i - k < 32 := by omega
      simp [q, hi, q2]
theorem own_same (a l c : Int32) : own_con (own_ad a l) l c = own_ex (own_ad a l) l c := by
  unfold own_con own_ex
  by_cases h : l = 0
  · rw [if_pos h]
    unfold own_ad own_mask
    rw [if_pos h, if_pos h, if_pos Int32.and_zero]
  · rw [if_neg h]
    have e : (c &&& own_mask l) = own_ad a l ↔ (((c ^^^ (own_ad a l)).toUInt32 >>> (((32 : Int32) - l) &&& 31).toUInt32).toInt32) = (0 : Int32) := by
      unfold own_ad own_mask
      rw [if_neg h, if_neg h]
      obtain ⟨k, hk, -, hl, hr⟩ := own_sh ((32 : Int32) - l)
      rw [← Int32.toBitVec_inj, ← Int32.toBitVec_inj, Int32.toBitVec_and, hr, Int32.toBitVec_xor, hl, hl, hr]
      have e1 : (-1 : Int32).toBitVec = BitVec.allOnes 32 := by decide
      have e0 : (0 : Int32).toBitVec = 0#32 := rfl
      rw [e1, e0]
      generalize c.toBitVec = C
      generalize a.toBitVec = A
      constructor
      · intro q
        apply BitVec.eq_of_getLsbD_eq
        intro i hi
        have r := congrArg (fun z => BitVec.getLsbD z (k + i)) q
        simp only [BitVec.getLsbD_and, BitVec.getLsbD_shiftLeft, BitVec.getLsbD_allOnes, BitVec.getLsbD_ushiftRight] at r
        rw [BitVec.getLsbD_ushiftRight, BitVec.getLsbD_xor, BitVec.getLsbD_shiftLeft, BitVec.getLsbD_ushiftRight, BitVec.getLsbD_zero]
        by_cases hb : k + i < 32
        · have z1 : ¬ k + i < k := by omega
          have z2 : k + i - k = i := by omega
          have z3 : k + (k + i - k) = k + i := by omega
          simp [hb, z1, z2, hi] at r ⊢
          exact r
        · have z : C.getLsbD (k + i) = false := BitVec.getLsbD_of_ge _ _ (by omega)
          simp [hb, z]
      · intro q
        apply BitVec.eq_of_getLsbD_eq
        intro i hi
        rw [BitVec.getLsbD_and, BitVec.getLsbD_shiftLeft, BitVec.getLsbD_allOnes, BitVec.getLsbD_shiftLeft, BitVec.getLsbD_ushiftRight]
        by_cases hb : i < k
        · simp [hb]
        · have r := congrArg (fun z => BitVec.getLsbD z (i - k)) q
          have z2 : k + (i - k) = i := by omega
          have z3 : i - k < 32 := by omega
          simp only [BitVec.getLsbD_ushiftRight, BitVec.getLsbD_xor, BitVec.getLsbD_shiftLeft, BitVec.getLsbD_zero, z2] at r
          simp [hb, hi, z3, z2] at r ⊢
          exact r
    by_cases q : (c &&& own_mask l) = own_ad a l
    · rw [if_pos q, if_pos (e.mp q)]
    · rw [if_neg q, if_neg (fun z => q (e.mpr z))]
theorem d2_0 : decode jdk_30_method_1_code 0 = .ok (.aload_n 0, 1) := by decide +kernel
theorem d2_1 : decode jdk_30_method_1_code 1 = .ok (.invokespecial 1, 3) := by decide +kernel
theorem d2_4 : decode jdk_30_method_1_code 4 = .ok (.return_, 1) := by decide +kernel
theorem pn_0 : plainName "java/lang/Record" = true := by first | (simp [plainName, overriddenIn]; done) | decide +kernel
theorem ef_rm2 (m : MethodId) (x0 : Addr) : entryFrame m #[(.ref x0)] 1 = mkF m 0 #[.val (.ref x0)] [] := by first | (simp [entryFrame, mkF, argsToLocals, Value.category]; done) | rfl
def Q2 (Z : State) (a : Addr) (h0 : Heap) (n0 : Nat) (v : Option Value) (h : Heap) (L : List Loc) : Prop := v = none ∧ Fr n0 L ∧ h = h0
set_option maxRecDepth 65536 in
set_option maxHeartbeats 40000000 in
theorem rm2 (l : Launch) (Z : State) (a0 : Array Value) (hw : ∀ d ∈ tables_1, d.before a0 Z = true) (ws : List Jvm.Cond) (a : Addr) (h0 : Heap) (n0 : Nat) (Z0 : n0 ≤ h0.size) :
    MetFree l (⟨"java/lang/Record", "<init>", "()V"⟩ : MethodName) (head1 (Jvm.Cond.code (⟨"java/lang/Record", "<init>", "()V"⟩ : MethodName) jdk_30_method_1_code 1 none :: ws) ({ frames := 1, cells := 0, slots := 0, locals := 12 } : Room)) (fun aa U => aa = #[(.ref a)] ∧ Z.Warmed39 U.vm ∧ U.heap = h0) (fun _ _ _ _ _ => True) (fun _ U o U' => ∃ v L, o = .returned v ∧ Q2 Z a h0 n0 v U'.heap L ∧ FrameEnd U o U' L ({ frames := 1, cells := 0, slots := 0, locals := 12 } : Room).cells ({ frames := 1, cells := 0, slots := 0, locals := 12 } : Room).slots) := by
  refine MetFree.of_bodySF (plainFor_of_name pn_0) hisR ?_
  intro p e s m args below meth c s₁ Bd hml0 hP hK
  obtain ⟨rfl, hZ, hh⟩ := hP
  have hx := Bd.exec
  have hby := Bd.bytes
  have hml : c.maxLocals = 1 := hml0
  have hown : s.vm.findClass "java/lang/Record" = some m.cls := findClass_of_methodNamed Bd.named
  have hnm := (name_of_methodNamed Bd.named Bd.method).1
  have X0 : Stand p l e ({ frames := 1, cells := 0, slots := 0, locals := 12 } : Room) s m #[(.ref a)] below meth c s₁ [] 0 0 := Stand.of_body Bd
  have e0 : s₁.heap = h0 := by rw [← hh, Bd.state]; rfl
  have N0 := Fr.nil n0
  obtain ⟨Ω, hΩ⟩ : ∃ z, z = s₁.setTop (entryFrame m #[(.ref a)] 1) := ⟨_, rfl⟩
  have S0 : Steps p.tables e below Ω (s₁.setTop (mkF m 0 #[.val (.ref a)] [])) := by rw [hΩ]; exact castTop (ef_rm2 m a) (Steps.refl _)
  have S1 : Steps p.tables e below Ω (s₁.setTop (mkF m 1 #[.val (.ref a)] [(.ref a)])) := by
    refine S0.trans ?_
    refine XS.aloadN X0.here hx rfl (hb hby d2_0) rfl rfl ?_
    exact Steps.refl _
  obtain ⟨T2, X2, e2, st2⟩ := initO X0 hx hZ hown (hw _ (List.mem_of_getElem? (i := 12) rfl)) (hw _ (List.mem_of_getElem? (i := 13) rfl)) (hw _ (List.mem_of_getElem? (i := 14) rfl)) e0 (g := (mkF m 1 #[.val (.ref a)] [(.ref a)])) rfl (by rw [hml]; rfl) rfl (hb hby d2_1) (by decide) (W := 0) (by show 2 * 0 + _ ≤ _; exact Nat.le_of_eq rfl) (by decide)
  have S3 : Steps p.tables e below Ω (T2.setTop (mkF m 4 #[.val (.ref a)] [])) := S1.trans (st2 _ (Steps.refl _))
  obtain ⟨fs, hr, hrun, hended, hW, hsame⟩ := X2.leave (v := none) (fun _ => rfl)
  have hfin : Steps p.tables e below Ω (T2.setFrames fs) := by
    refine S3.trans ?_
    exact X2.returnOut hx Bd.returns (hb hby d2_4) hr
  rw [hΩ] at hfin
  refine ⟨_, _, hfin, hrun, hended, _, _, rfl, ?_, ⟨_, rfl⟩, hW, hsame.mono (by decide) (by decide)⟩
  show Q2 Z a h0 n0 _ T2.heap _
  rw [e2]
  exact ⟨rfl, N0, rfl⟩
theorem d4_0 : decode prog_73_method_4_code 0 = .ok (.iload_n 0, 1) := by decide +kernel
theorem d4_1 : decode prog_73_method_4_code 1 = .ok (.ifCond .ne 7, 3) := by decide +kernel
theorem d4_4 : decode prog_73_method_4_code 4 = .ok (.iconst 0, 1) := by decide +kernel
theorem d4_5 : decode prog_73_method_4_code 5 = .ok (.goto 9, 3) := by decide +kernel
theorem d4_14 : decode prog_73_method_4_code 14 = .ok (.ireturn, 1) := by decide +kernel
theorem d4_8 : decode prog_73_method_4_code 8 = .ok (.iconst (-1), 1) := by decide +kernel
theorem d4_9 : decode prog_73_method_4_code 9 = .ok (.bipush 32, 2) := by decide +kernel
theorem d4_11 : decode prog_73_method_4_code 11 = .ok (.iload_n 0, 1) := by decide +kernel
theorem d4_12 : decode prog_73_method_4_code 12 = .ok (.isub, 1) := by decide +kernel
theorem d4_13 : decode prog_73_method_4_code 13 = .ok (.ishl, 1) := by decide +kernel
theorem pn_1 : plainName "com/example/pathsmith/pathsmith/server/Ipv4Prefix" = true := by first | (simp [plainName, overriddenIn]; done) | decide +kernel
theorem ef_rm4 (m : MethodId) (x0 : Int32) : entryFrame m #[(.int x0)] 1 = mkF m 0 #[.val (.int x0)] [] := by first | (simp [entryFrame, mkF, argsToLocals, Value.category]; done) | rfl
def Q4 (Z : State) (l1 : Int32) (h0 : Heap) (n0 : Nat) (v : Option Value) (h : Heap) (L : List Loc) : Prop := v = some (.int (own_mask l1)) ∧ Fr n0 L ∧ h = h0
set_option maxRecDepth 65536 in
set_option maxHeartbeats 40000000 in
theorem rm4 (l : Launch) (Z : State) (a0 : Array Value) (hw : ∀ d ∈ tables_1, d.before a0 Z = true) (ws : List Jvm.Cond) (l1 : Int32) (h0 : Heap) (n0 : Nat) (Z0 : n0 ≤ h0.size) :
    MetFree l (⟨"com/example/pathsmith/pathsmith/server/Ipv4Prefix", "mask", "(I)I"⟩ : MethodName) (head1 (Jvm.Cond.code (⟨"com/example/pathsmith/pathsmith/server/Ipv4Prefix", "mask", "(I)I"⟩ : MethodName) prog_73_method_4_code 1 (some .int) :: ws) ({ frames := 0, cells := 0, slots := 0, locals := 0 } : Room)) (fun aa U => aa = #[(.int l1)] ∧ Z.Warmed39 U.vm ∧ U.heap = h0) (fun _ _ _ _ _ => True) (fun _ U o U' => ∃ v L, o = .returned v ∧ Q4 Z l1 h0 n0 v U'.heap L ∧ FrameEnd U o U' L ({ frames := 0, cells := 0, slots := 0, locals := 0 } : Room).cells ({ frames := 0, cells := 0, slots := 0, locals := 0 } : Room).slots) := by
  refine MetFree.of_bodySF (plainFor_of_name pn_1) hisR ?_
  intro p e s m args below meth c s₁ Bd hml0 hP hK
  obtain ⟨rfl, hZ, hh⟩ := hP
  have hx := Bd.exec
  have hby := Bd.bytes
  have hml : c.maxLocals = 1 := hml0
  have hown : s.vm.findClass "com/example/pathsmith/pathsmith/server/Ipv4Prefix" = some m.cls := findClass_of_methodNamed Bd.named
  have hnm := (name_of_methodNamed Bd.named Bd.method).1
  have X0 : Stand p l e ({ frames := 0, cells := 0, slots := 0, locals := 0 } : Room) s m #[(.int l1)] below meth c s₁ [] 0 0 := Stand.of_body Bd
  have e0 : s₁.heap = h0 := by rw [← hh, Bd.state]; rfl
  have N0 := Fr.nil n0
  obtain ⟨Ω, hΩ⟩ : ∃ z, z = s₁.setTop (entryFrame m #[(.int l1)] 1) := ⟨_, rfl⟩
  have S0 : Steps p.tables e below Ω (s₁.setTop (mkF m 0 #[.val (.int l1)] [])) := by rw [hΩ]; exact castTop (ef_rm4 m l1) (Steps.refl _)
  have S1 : Steps p.tables e below Ω (s₁.setTop (mkF m 1 #[.val (.int l1)] [(.int l1)])) := by
    refine S0.trans ?_
    refine XS.iloadN X0.here hx rfl (hb hby d4_0) rfl ?_
    exact Steps.refl _
  by_cases hc : l1 = (0 : Int32)
  · have qhc : l1.toInt = 0 := congrArg Int32.toInt hc
    have S2 : Steps p.tables e below Ω (s₁.setTop (mkF m 14 #[.val (.int l1)] [(.int (0 : Int32))])) := by
      refine S1.trans ?_
      refine XS.ifNo X0.here hx rfl (hb hby d4_1) rfl (XT.i0_ne_f hc) ?_
      show Steps p.tables e below (s₁.setTop (mkF m 4 #[.val (.int l1)] [])) _
      refine XS.iconst X0.here hx rfl (hb hby d4_4) ?_
      show Steps p.tables e below (s₁.setTop (mkF m 5 #[.val (.int l1)] [(.int (0 : Int32))])) _
      refine XS.goto X0.here hx rfl (pc0 := 5) (pc' := 14) rfl (hb hby d4_5) (by decide) (by decide) ?_
      exact Steps.refl _
    obtain ⟨fs, hr, hrun, hended, hW, hsame⟩ := X0.leave (v := some (.int (0 : Int32))) (fun h => by rw [Bd.returns] at h; cases h)
    have hfin : Steps p.tables e below Ω (s₁.setFrames fs) := by
      refine S2.trans ?_
      exact retI X0 hx Bd.returns (hb hby d4_14) hr
    rw [hΩ] at hfin
    refine ⟨_, _, hfin, hrun, hended, _, _, rfl, ?_, ⟨_, rfl⟩, hW, hsame.mono (by decide) (by decide)⟩
    show Q4 Z l1 h0 n0 _ s₁.heap _
    rw [e0]
    exact ⟨by rw [own_mask, if_pos hc], N0, rfl⟩
  · have qhc : ¬ l1.toInt = 0 := fun q => hc (Int32.toInt_inj.mp q)
    have S3 : Steps p.tables e below Ω (s₁.setTop (mkF m 14 #[.val (.int l1)] [(.int ((-1 : Int32) <<< (((32 : Int32) - l1) &&& 31)))])) := by
      refine S1.trans ?_
      refine XS.ifYes X0.here hx rfl (pc0 := 1) (pc' := 8) rfl (hb hby d4_1) rfl (XT.i0_ne_t hc) (by decide) (by decide) ?_
      show Steps p.tables e below (s₁.setTop (mkF m 8 #[.val (.int l1)] [])) _
      refine XS.iconst X0.here hx rfl (hb hby d4_8) ?_
      show Steps p.tables e below (s₁.setTop (mkF m 9 #[.val (.int l1)] [(.int (-1 : Int32))])) _
      refine XS.bipush X0.here hx rfl (hb hby d4_9) ?_
      show Steps p.tables e below (s₁.setTop (mkF m 11 #[.val (.int l1)] [(.int (32 : Int32)), (.int (-1 : Int32))])) _
      refine XS.iloadN X0.here hx rfl (hb hby d4_11) rfl ?_
      show Steps p.tables e below (s₁.setTop (mkF m 12 #[.val (.int l1)] [(.int l1), (.int (32 : Int32)), (.int (-1 : Int32))])) _
      refine XS.isub X0.here hx rfl (hb hby d4_12) rfl ?_
      show Steps p.tables e below (s₁.setTop (mkF m 13 #[.val (.int l1)] [(.int ((32 : Int32) - l1)), (.int (-1 : Int32))])) _
      refine XS.ishl X0.here hx rfl (hb hby d4_13) rfl ?_
      exact Steps.refl _
    obtain ⟨fs, hr, hrun, hended, hW, hsame⟩ := X0.leave (v := some (.int ((-1 : Int32) <<< (((32 : Int32) - l1) &&& 31)))) (fun h => by rw [Bd.returns] at h; cases h)
    have hfin : Steps p.tables e below Ω (s₁.setFrames fs) := by
      refine S3.trans ?_
      exact retI X0 hx Bd.returns (hb hby d4_14) hr
    rw [hΩ] at hfin
    refine ⟨_, _, hfin, hrun, hended, _, _, rfl, ?_, ⟨_, rfl⟩, hW, hsame.mono (by decide) (by decide)⟩
    show Q4 Z l1 h0 n0 _ s₁.heap _
    rw [e0]
    exact ⟨by rw [own_mask, if_neg hc], N0, rfl⟩
theorem d1_0 : decode prog_73_method_1_code 0 = .ok (.aload_n 0, 1) := by decide +kernel
theorem pd_0 : parseMethodDescriptor "()V" = some ⟨[], none⟩ := by decide +kernel
theorem d1_1 : decode prog_73_method_1_code 1 = .ok (.invokespecial 1, 3) := by decide +kernel
theorem d1_4 : decode prog_73_method_1_code 4 = .ok (.iload_n 2, 1) := by decide +kernel
theorem d1_5 : decode prog_73_method_1_code 5 = .ok (.ifCond .lt 9, 3) := by decide +kernel
theorem d1_8 : decode prog_73_method_1_code 8 = .ok (.iload_n 2, 1) := by decide +kernel
theorem d1_9 : decode prog_73_method_1_code 9 = .ok (.bipush 32, 2) := by decide +kernel
theorem d1_11 : decode prog_73_method_1_code 11 = .ok (.if_icmp .le 17, 3) := by decide +kernel
theorem d1_28 : decode prog_73_method_1_code 28 = .ok (.iload_n 1, 1) := by decide +kernel
theorem d1_29 : decode prog_73_method_1_code 29 = .ok (.iload_n 2, 1) := by decide +kernel
theorem pd_1 : parseMethodDescriptor "(I)I" = some ⟨[.int], some .int⟩ := by decide +kernel
theorem d1_30 : decode prog_73_method_1_code 30 = .ok (.invokestatic 16, 3) := by decide +kernel
theorem d1_33 : decode prog_73_method_1_code 33 = .ok (.iconst (-1), 1) := by decide +kernel
theorem d1_34 : decode prog_73_method_1_code 34 = .ok (.ixor, 1) := by decide +kernel
theorem d1_35 : decode prog_73_method_1_code 35 = .ok (.iand, 1) := by decide +kernel
theorem d1_36 : decode prog_73_method_1_code 36 = .ok (.ifCond .eq 21, 3) := by decide +kernel
theorem d1_57 : decode prog_73_method_1_code 57 = .ok (.aload_n 0, 1) := by decide +kernel
theorem d1_58 : decode prog_73_method_1_code 58 = .ok (.iload_n 1, 1) := by decide +kernel
theorem d1_59 : decode prog_73_method_1_code 59 = .ok (.putfield 30, 3) := by decide +kernel
theorem d1_62 : decode prog_73_method_1_code 62 = .ok (.aload_n 0, 1) := by decide +kernel
theorem d1_63 : decode prog_73_method_1_code 63 = .ok (.iload_n 2, 1) := by decide +kernel
theorem d1_64 : decode prog_73_method_1_code 64 = .ok (.putfield 34, 3) := by decide +kernel
theorem d1_67 : decode prog_73_method_1_code 67 = .ok (.return_, 1) := by decide +kernel
theorem ef_rm1 (m : MethodId) (x0 : Addr) (x1 : Int32) (x2 : Int32) : entryFrame m #[(.ref x0), (.int x1), (.int x2)] 3 = mkF m 0 #[.val (.ref x0), .val (.int x1), .val (.int x2)] [] := by first | (simp [entryFrame, mkF, argsToLocals, Value.category]; done) | rfl
def Q1 (Z : State) (a : Addr) (p1 : Int32) (p2 : Int32) (h0 : Heap) (n0 : Nat) (v : Option Value) (h : Heap) (L : List Loc) : Prop := v = none ∧ Fr n0 L ∧ Keep h0 h [a] ∧ Exa Z h a "com/example/pathsmith/pathsmith/server/Ipv4Prefix" ∧ Fld Z h a "com/example/pathsmith/pathsmith/server/Ipv4Prefix" "address" "I" (.int p1) ∧ Fld Z h a "com/example/pathsmith/pathsmith/server/Ipv4Prefix" "length" "I" (.int p2)
set_option maxRecDepth 65536 in
set_option maxHeartbeats 40000000 in
theorem rm1 (l : Launch) (Z : State) (a0 : Array Value) (hw : ∀ d ∈ tables_1, d.before a0 Z = true) (ws : List Jvm.Cond) (a : Addr) (p1 : Int32) (p2 : Int32) (h0 : Heap) (n0 : Nat) (Z0 : n0 ≤ h0.size) (E0 : Exa Z h0 a "com/example/pathsmith/pathsmith/server/Ipv4Prefix") (F1 : Fld Z h0 a "com/example/pathsmith/pathsmith/server/Ipv4Prefix" "address" "I" (.int (0 : Int32))) (F2 : Fld Z h0 a "com/example/pathsmith/pathsmith/server/Ipv4Prefix" "length" "I" (.int (0 : Int32))) (g : n0 ≤ a) (b1 : ¬ p2 < 0) (b2 : ¬ (32 : Int32) < p2) (b3 : (p1 &&& ((own_mask p2) ^^^ (-1 : Int32))) = (0 : Int32)) :
    MetFree l (⟨"com/example/pathsmith/pathsmith/server/Ipv4Prefix", "<init>", "(II)V"⟩ : MethodName) (head1 (Jvm.Cond.code (⟨"com/example/pathsmith/pathsmith/server/Ipv4Prefix", "<init>", "(II)V"⟩ : MethodName) prog_73_method_1_code 3 none :: ws) ({ frames := 2, cells := 0, slots := 0, locals := 24 } : Room)) (fun aa U => aa = #[(.ref a), (.int p1), (.int p2)] ∧ Z.Warmed39 U.vm ∧ U.heap = h0) (fun _ _ _ _ _ => True) (fun _ U o U' => ∃ v L, o = .returned v ∧ Q1 Z a p1 p2 h0 n0 v U'.heap L ∧ FrameEnd U o U' L ({ frames := 2, cells := 0, slots := 0, locals := 24 } : Room).cells ({ frames := 2, cells := 0, slots := 0, locals := 24 } : Room).slots) := by
  refine MetFree.of_bodySF (plainFor_of_name pn_1) hisR ?_
  intro p e s m args below meth c s₁ Bd hml0 hP hK
  obtain ⟨rfl, hZ, hh⟩ := hP
  have hx := Bd.exec
  have hby := Bd.bytes
  have hml : c.maxLocals = 3 := hml0
  have hown : s.vm.findClass "com/example/pathsmith/pathsmith/server/Ipv4Prefix" = some m.cls := findClass_of_methodNamed Bd.named
  have hnm := (name_of_methodNamed Bd.named Bd.method).1
  have X0 : Stand p l e ({ frames := 2, cells := 0, slots := 0, locals := 24 } : Room) s m #[(.ref a), (.int p1), (.int p2)] below meth c s₁ [] 0 0 := Stand.of_body Bd
  have e0 : s₁.heap = h0 := by rw [← hh, Bd.state]; rfl
  have N0 := Fr.nil n0
  obtain ⟨Ω, hΩ⟩ : ∃ z, z = s₁.setTop (entryFrame m #[(.ref a), (.int p1), (.int p2)] 3) := ⟨_, rfl⟩
  have S0 : Steps p.tables e below Ω (s₁.setTop (mkF m 0 #[.val (.ref a), .val (.int p1), .val (.int p2)] [])) := by rw [hΩ]; exact castTop (ef_rm1 m a p1 p2) (Steps.refl _)
  have S1 : Steps p.tables e below Ω (s₁.setTop (mkF m 1 #[.val (.ref a), .val (.int p1), .val (.int p2)] [(.ref a)])) := by
    refine S0.trans ?_
    refine XS.aloadN X0.here hx rfl (hb hby d1_0) rfl rfl ?_
    exact Steps.refl _
  obtain ⟨_, _, ⟨T2, L2, k2, n2⟩, -, X2, ⟨Lc2, hQ2, l2, y2, z2⟩, st2⟩ := X0.specialBack hx (y := (⟨"java/lang/Record", "<init>", "()V"⟩ : MethodName)) rfl hown (mvT hZ (hw _ (List.mem_of_getElem? (i := 7) rfl))) (mvT hZ (hw _ (List.mem_of_getElem? (i := 8) rfl))) (mvT hZ (hw _ (List.mem_of_getElem? (i := 11) rfl))) (by decide) (backOf (W := 0) (rm2 l Z a0 hw [] a  h0 n0 Z0 ) hZ (hw _ (List.mem_of_getElem? (i := 11) rfl)) (hw _ (List.mem_of_getElem? (i := 10) rfl)) (by decide) (by decide)) (g := (mkF m 1 #[.val (.ref a), .val (.int p1), .val (.int p2)] [(.ref a)])) rfl (by rw [hml]; rfl) (Steps.refl _) (a := a) (argsL := []) (rest := []) (lenOf pd_0 rfl) rfl (by show 2 * 0 + _ ≤ _; exact Nat.le_of_eq rfl) (hb hby d1_1) (fun _ _ => ⟨rfl, e0, (by decide : 0 + 0 ≤ _), (by decide : 0 + 0 ≤ _)⟩)
  dsimp only [Pt.U, Pt.locs, Pt.cells, Pt.slots] at X2 l2 y2 z2 st2 hQ2
  subst l2 y2 z2
  obtain ⟨rfl, N2q, e2⟩ := hQ2
  have N2 := Fr.app N0 N2q
  have S3 : Steps p.tables e below Ω (T2.setTop (mkF m 4 #[.val (.ref a), .val (.int p1), .val (.int p2)] [])) := S1.trans st2
  have S4 : Steps p.tables e below Ω (T2.setTop (mkF m 30 #[.val (.ref a), .val (.int p1), .val (.int p2)] [(.int p2), (.int p1)])) := by
    refine S3.trans ?_
    refine XS.iloadN X2.here hx rfl (hb hby d1_4) rfl ?_
    show Steps p.tables e below (T2.setTop (mkF m 5 #[.val (.ref a), .val (.int p1), .val (.int p2)] [(.int p2)])) _
    refine XS.ifNo X2.here hx rfl (hb hby d1_5) rfl (XT.i0_lt_f b1) ?_
    show Steps p.tables e below (T2.setTop (mkF m 8 #[.val (.ref a), .val (.int p1), .val (.int p2)] [])) _
    refine XS.iloadN X2.here hx rfl (hb hby d1_8) rfl ?_
    show Steps p.tables e below (T2.setTop (mkF m 9 #[.val (.ref a), .val (.int p1), .val (.int p2)] [(.int p2)])) _
    refine XS.bipush X2.here hx rfl (hb hby d1_9) ?_
    show Steps p.tables e below (T2.setTop (mkF m 11 #[.val (.ref a), .val (.int p1), .val (.int p2)] [(.int (32 : Int32)), (.int p2)])) _
    refine XS.icmpYes X2.here hx rfl (pc0 := 11) (pc' := 28) rfl (hb hby d1_11) rfl (XT.ii_le_t b2) (by decide) (by decide) ?_
    show Steps p.tables e below (T2.setTop (mkF m 28 #[.val (.ref a), .val (.int p1), .val (.int p2)] [])) _
    refine XS.iloadN X2.here hx rfl (hb hby d1_28) rfl ?_
    show Steps p.tables e below (T2.setTop (mkF m 29 #[.val (.ref a), .val (.int p1), .val (.int p2)] [(.int p1)])) _
    refine XS.iloadN X2.here hx rfl (hb hby d1_29) rfl ?_
    exact Steps.refl _
  obtain ⟨_, _, ⟨T5, L5, k5, n5⟩, -, X5, ⟨Lc5, hQ5, l5, y5, z5⟩, st5⟩ := Jvm.LawKit.callS X2 hx (y := (⟨"com/example/pathsmith/pathsmith/server/Ipv4Prefix", "mask", "(I)I"⟩ : MethodName)) hown (mvT hZ (hw _ (List.mem_of_getElem? (i := 15) rfl))) (mvT hZ (hw _ (List.mem_of_getElem? (i := 16) rfl))) (mvT hZ (hw _ (List.mem_of_getElem? (i := 3) rfl))) (mvT hZ (hw _ (List.mem_of_getElem? (i := 17) rfl))) (by decide) (backOf (W := 1) (rm4 l Z a0 hw [] p2  h0 n0 Z0 ) hZ (hw _ (List.mem_of_getElem? (i := 17) rfl)) (hw _ (List.mem_of_getElem? (i := 3) rfl)) (by decide) (by decide)) (g := (mkF m 30 #[.val (.ref a), .val (.int p1), .val (.int p2)] [(.int p2), (.int p1)])) rfl (by rw [hml]; rfl) (argsL := [(.int p2)]) (rest := [(.int p1)]) (lenOf pd_1 rfl) rfl (by show 2 * 0 + _ ≤ _; exact Nat.le_of_eq rfl) (hb hby d1_30) (fun _ _ => ⟨rfl, e2, (by decide : 0 + 0 ≤ _), (by decide : 0 + 0 ≤ _)⟩)
  dsimp only [Pt.U, Pt.locs, Pt.cells, Pt.slots] at X5 l5 y5 z5 st5 hQ5
  subst l5 y5 z5
  obtain ⟨rfl, N5q, e5⟩ := hQ5
  have N5 := Fr.app N2 N5q
  have S6 : Steps p.tables e below Ω (T5.setTop (mkF m 33 #[.val (.ref a), .val (.int p1), .val (.int p2)] [(.int (own_mask p2)), (.int p1)])) := S4.trans (st5 _ (Steps.refl _))
  have S7 : Steps p.tables e below Ω (T5.setTop (mkF m 59 #[.val (.ref a), .val (.int p1), .val (.int p2)] [(.int p1), (.ref a)])) := by
    refine S6.trans ?_
    refine XS.iconst X5.here hx rfl (hb hby d1_33) ?_
    show Steps p.tables e below (T5.setTop (mkF m 34 #[.val (.ref a), .val (.int p1), .val (.int p2)] [(.int (-1 : Int32)), (.int (own_mask p2)), (.int p1)])) _
    refine XS.ixor X5.here hx rfl (hb hby d1_34) rfl ?_
    show Steps p.tables e below (T5.setTop (mkF m 35 #[.val (.ref a), .val (.int p1), .val (.int p2)] [(.int ((own_mask p2) ^^^ (-1 : Int32))), (.int p1)])) _
    refine XS.iand X5.here hx rfl (hb hby d1_35) rfl ?_
    show Steps p.tables e below (T5.setTop (mkF m 36 #[.val (.ref a), .val (.int p1), .val (.int p2)] [(.int (p1 &&& ((own_mask p2) ^^^ (-1 : Int32))))])) _
    refine XS.ifYes X5.here hx rfl (pc0 := 36) (pc' := 57) rfl (hb hby d1_36) rfl (XT.i0_eq_t b3) (by decide) (by decide) ?_
    show Steps p.tables e below (T5.setTop (mkF m 57 #[.val (.ref a), .val (.int p1), .val (.int p2)] [])) _
    refine XS.aloadN X5.here hx rfl (hb hby d1_57) rfl rfl ?_
    show Steps p.tables e below (T5.setTop (mkF m 58 #[.val (.ref a), .val (.int p1), .val (.int p2)] [(.ref a)])) _
    refine XS.iloadN X5.here hx rfl (hb hby d1_58) rfl ?_
    exact Steps.refl _
  obtain ⟨T8, h8, X8, e8, W8, st8⟩ := putF X5 hx hZ hown (host := "") (Or.inl (hw _ (List.mem_of_getElem? (i := 18) rfl))) Via.refl e5 F1 E0 (Or.inr ⟨(hw _ (List.mem_of_getElem? (i := 19) rfl)), rfl, hnm⟩) (hw _ (List.mem_of_getElem? (i := 2) rfl)) (ty := .int) (by decide) rfl rfl (g := (mkF m 59 #[.val (.ref a), .val (.int p1), .val (.int p2)] [(.int p1), (.ref a)])) rfl rfl (hb hby d1_59)
  have S9 : Steps p.tables e below Ω (T8.setTop (mkF m 62 #[.val (.ref a), .val (.int p1), .val (.int p2)] [])) := S7.trans (st8 _ (Steps.refl _))
  have N8 := Fr.snoc X8 N5 g
  have E1 := E0.wr W8
  have F1' : Fld Z h8 a "com/example/pathsmith/pathsmith/server/Ipv4Prefix" "address" "I" (.int p1) := F1.same W8
  have F2' : Fld Z h8 a "com/example/pathsmith/pathsmith/server/Ipv4Prefix" "length" "I" (.int (0 : Int32)) := F2.other W8 (Or.inr (slot_ne (Or.inr (hw _ (List.mem_of_getElem? (i := 21) rfl))) (Or.inr (hw _ (List.mem_of_getElem? (i := 19) rfl))) (by decide) (t := .int) (t' := .int) (by decide) (by decide)))
  have S10 : Steps p.tables e below Ω (T8.setTop (mkF m 64 #[.val (.ref a), .val (.int p1), .val (.int p2)] [(.int p2), (.ref a)])) := by
    refine S9.trans ?_
    refine XS.aloadN X8.here hx rfl (hb hby d1_62) rfl rfl ?_
    show Steps p.tables e below (T8.setTop (mkF m 63 #[.val (.ref a), .val (.int p1), .val (.int p2)] [(.ref a)])) _
    refine XS.iloadN X8.here hx rfl (hb hby d1_63) rfl ?_
    exact Steps.refl _
  obtain ⟨T11, h11, X11, e11, W11, st11⟩ := putF X8 hx hZ hown (host := "") (Or.inl (hw _ (List.mem_of_getElem? (i := 20) rfl))) Via.refl e8 F2' E1 (Or.inr ⟨(hw _ (List.mem_of_getElem? (i := 21) rfl)), rfl, hnm⟩) (hw _ (List.mem_of_getElem? (i := 2) rfl)) (ty := .int) (by decide) rfl rfl (g := (mkF m 64 #[.val (.ref a), .val (.int p1), .val (.int p2)] [(.int p2), (.ref a)])) rfl rfl (hb hby d1_64)
  have S12 : Steps p.tables e below Ω (T11.setTop (mkF m 67 #[.val (.ref a), .val (.int p1), .val (.int p2)] [])) := S10.trans (st11 _ (Steps.refl _))
  have N11 := Fr.snoc X11 N8 g
  have E2 := E1.wr W11
  have F1'' : Fld Z h11 a "com/example/pathsmith/pathsmith/server/Ipv4Prefix" "address" "I" (.int p1) := F1'.other W11 (Or.inr (slot_ne (Or.inr (hw _ (List.mem_of_getElem? (i := 19) rfl))) (Or.inr (hw _ (List.mem_of_getElem? (i := 21) rfl))) (by decide) (t := .int) (t' := .int) (by decide) (by decide)))
  have F2'' : Fld Z h11 a "com/example/pathsmith/pathsmith/server/Ipv4Prefix" "length" "I" (.int p2) := F2'.same W11
  have KK : Keep h0 h11 [a] := ((Keep.refl h0 [a]).wr W8 (Or.inl (List.mem_of_getElem? (i := 0) rfl))).wr W11 (Or.inl (List.mem_of_getElem? (i := 0) rfl))
  obtain ⟨fs, hr, hrun, hended, hW, hsame⟩ := X11.leave (v := none) (fun _ => rfl)
  have hfin : Steps p.tables e below Ω (T11.setFrames fs) := by
    refine S12.trans ?_
    exact X11.returnOut hx Bd.returns (hb hby d1_67) hr
  rw [hΩ] at hfin
  refine ⟨_, _, hfin, hrun, hended, _, _, rfl, ?_, ⟨_, rfl⟩, hW, hsame.mono (by decide) (by decide)⟩
  show Q1 Z a p1 p2 h0 n0 _ T11.heap _
  rw [e11]
  exact ⟨rfl, N11, KK, E2, F1'', F2''⟩
theorem d5_0 : decode prog_73_method_3_code 0 = .ok (.iload_n 1, 1) := by decide +kernel
theorem d5_1 : decode prog_73_method_3_code 1 = .ok (.aload_n 0, 1) := by decide +kernel
theorem d5_2 : decode prog_73_method_3_code 2 = .ok (.getfield 34, 3) := by decide +kernel
theorem d5_5 : decode prog_73_method_3_code 5 = .ok (.invokestatic 16, 3) := by decide +kernel
theorem d5_8 : decode prog_73_method_3_code 8 = .ok (.iand, 1) := by decide +kernel
theorem d5_9 : decode prog_73_method_3_code 9 = .ok (.aload_n 0, 1) := by decide +kernel
theorem d5_10 : decode prog_73_method_3_code 10 = .ok (.getfield 30, 3) := by decide +kernel
theorem d5_13 : decode prog_73_method_3_code 13 = .ok (.if_icmp .ne 7, 3) := by decide +kernel
theorem d5_16 : decode prog_73_method_3_code 16 = .ok (.iconst 1, 1) := by decide +kernel
theorem d5_17 : decode prog_73_method_3_code 17 = .ok (.goto 4, 3) := by decide +kernel
theorem d5_21 : decode prog_73_method_3_code 21 = .ok (.ireturn, 1) := by decide +kernel
theorem d5_20 : decode prog_73_method_3_code 20 = .ok (.iconst 0, 1) := by decide +kernel
theorem ef_rm5 (m : MethodId) (x0 : Addr) (x1 : Int32) : entryFrame m #[(.ref x0), (.int x1)] 2 = mkF m 0 #[.val (.ref x0), .val (.int x1)] [] := by first | (simp [entryFrame, mkF, argsToLocals, Value.category]; done) | rfl
def Q5 (Z : State) (a : Addr) (c1 : Int32) (p1 : Int32) (p2 : Int32) (h0 : Heap) (n0 : Nat) (v : Option Value) (h : Heap) (L : List Loc) : Prop := v = some (.int (own_con p1 p2 c1)) ∧ Fr n0 L ∧ h = h0
set_option maxRecDepth 65536 in
set_option maxHeartbeats 40000000 in
theorem rm5 (l : Launch) (Z : State) (a0 : Array Value) (hw : ∀ d ∈ tables_1, d.before a0 Z = true) (ws : List Jvm.Cond) (a : Addr) (c1 : Int32) (p1 : Int32) (p2 : Int32) (h0 : Heap) (n0 : Nat) (Z0 : n0 ≤ h0.size) (F1 : Fld Z h0 a "com/example/pathsmith/pathsmith/server/Ipv4Prefix" "address" "I" (.int p1)) (F2 : Fld Z h0 a "com/example/pathsmith/pathsmith/server/Ipv4Prefix" "length" "I" (.int p2)) :
    MetFree l (⟨"com/example/pathsmith/pathsmith/server/Ipv4Prefix", "contains", "(I)Z"⟩ : MethodName) (head1 (Jvm.Cond.code (⟨"com/example/pathsmith/pathsmith/server/Ipv4Prefix", "contains", "(I)Z"⟩ : MethodName) prog_73_method_3_code 2 (some .boolean) :: ws) ({ frames := 1, cells := 0, slots := 0, locals := 13 } : Room)) (fun aa U => aa = #[(.ref a), (.int c1)] ∧ Z.Warmed39 U.vm ∧ U.heap = h0) (fun _ _ _ _ _ => True) (fun _ U o U' => ∃ v L, o = .returned v ∧ Q5 Z a c1 p1 p2 h0 n0 v U'.heap L ∧ FrameEnd U o U' L ({ frames := 1, cells := 0, slots := 0, locals := 13 } : Room).cells ({ frames := 1, cells := 0, slots := 0, locals := 13 } : Room).slots) := by
  refine MetFree.of_bodySF (plainFor_of_name pn_1) hisR ?_
  intro p e s m args below meth c s₁ Bd hml0 hP hK
  obtain ⟨rfl, hZ, hh⟩ := hP
  have hx := Bd.exec
  have hby := Bd.bytes
  have hml : c.maxLocals = 2 := hml0
  have hown : s.vm.findClass "com/example/pathsmith/pathsmith/server/Ipv4Prefix" = some m.cls := findClass_of_methodNamed Bd.named
  have hnm := (name_of_methodNamed Bd.named Bd.method).1
  have X0 : Stand p l e ({ frames := 1, cells := 0, slots := 0, locals := 13 } : Room) s m #[(.ref a), (.int c1)] below meth c s₁ [] 0 0 := Stand.of_body Bd
  have e0 : s₁.heap = h0 := by rw [← hh, Bd.state]; rfl
  have N0 := Fr.nil n0
  obtain ⟨Ω, hΩ⟩ : ∃ z, z = s₁.setTop (entryFrame m #[(.ref a), (.int c1)] 2) := ⟨_, rfl⟩
  have S0 : Steps p.tables e below Ω (s₁.setTop (mkF m 0 #[.val (.ref a), .val (.int c1)] [])) := by rw [hΩ]; exact castTop (ef_rm5 m a c1) (Steps.refl _)
  have S1 : Steps p.tables e below Ω (s₁.setTop (mkF m 2 #[.val (.ref a), .val (.int c1)] [(.ref a), (.int c1)])) := by
    refine S0.trans ?_
    refine XS.iloadN X0.here hx rfl (hb hby d5_0) rfl ?_
    show Steps p.tables e below (s₁.setTop (mkF m 1 #[.val (.ref a), .val (.int c1)] [(.int c1)])) _
    refine XS.aloadN X0.here hx rfl (hb hby d5_1) rfl rfl ?_
    exact Steps.refl _
  obtain ⟨T2, X2, e2, st2⟩ := getF X0 hx hZ hown (host := "") (Or.inl (hw _ (List.mem_of_getElem? (i := 20) rfl))) Via.refl e0 F2 (g := (mkF m 2 #[.val (.ref a), .val (.int c1)] [(.ref a), (.int c1)])) rfl rfl (hb hby d5_2)
  have S3 : Steps p.tables e below Ω (T2.setTop (mkF m 5 #[.val (.ref a), .val (.int c1)] [(.int p2), (.int c1)])) := S1.trans (st2 _ (Steps.refl _))
  obtain ⟨_, _, ⟨T4, L4, k4, n4⟩, -, X4, ⟨Lc4, hQ4, l4, y4, z4⟩, st4⟩ := Jvm.LawKit.callS X2 hx (y := (⟨"com/example/pathsmith/pathsmith/server/Ipv4Prefix", "mask", "(I)I"⟩ : MethodName)) hown (mvT hZ (hw _ (List.mem_of_getElem? (i := 15) rfl))) (mvT hZ (hw _ (List.mem_of_getElem? (i := 16) rfl))) (mvT hZ (hw _ (List.mem_of_getElem? (i := 3) rfl))) (mvT hZ (hw _ (List.mem_of_getElem? (i := 17) rfl))) (by decide) (backOf (W := 1) (rm4 l Z a0 hw [] p2  h0 n0 Z0 ) hZ (hw _ (List.mem_of_getElem? (i := 17) rfl)) (hw _ (List.mem_of_getElem? (i := 3) rfl)) (by decide) (by decide)) (g := (mkF m 5 #[.val (.ref a), .val (.int c1)] [(.int p2), (.int c1)])) rfl (by rw [hml]; rfl) (argsL := [(.int p2)]) (rest := [(.int c1)]) (lenOf pd_1 rfl) rfl (by show 2 * 0 + _ ≤ _; exact Nat.le_of_eq rfl) (hb hby d5_5) (fun _ _ => ⟨rfl, e2, (by decide : 0 + 0 ≤ _), (by decide : 0 + 0 ≤ _)⟩)
  dsimp only [Pt.U, Pt.locs, Pt.cells, Pt.slots] at X4 l4 y4 z4 st4 hQ4
  subst l4 y4 z4
  obtain ⟨rfl, N4q, e4⟩ := hQ4
  have N4 := Fr.app N0 N4q
  have S5 : Steps p.tables e below Ω (T4.setTop (mkF m 8 #[.val (.ref a), .val (.int c1)] [(.int (own_mask p2)), (.int c1)])) := S3.trans (st4 _ (Steps.refl _))
  have S6 : Steps p.tables e below Ω (T4.setTop (mkF m 10 #[.val (.ref a), .val (.int c1)] [(.ref a), (.int (c1 &&& (own_mask p2)))])) := by
    refine S5.trans ?_
    refine XS.iand X4.here hx rfl (hb hby d5_8) rfl ?_
    show Steps p.tables e below (T4.setTop (mkF m 9 #[.val (.ref a), .val (.int c1)] [(.int (c1 &&& (own_mask p2)))])) _
    refine XS.aloadN X4.here hx rfl (hb hby d5_9) rfl rfl ?_
    exact Steps.refl _
  obtain ⟨T7, X7, e7, st7⟩ := getF X4 hx hZ hown (host := "") (Or.inl (hw _ (List.mem_of_getElem? (i := 18) rfl))) Via.refl e4 F1 (g := (mkF m 10 #[.val (.ref a), .val (.int c1)] [(.ref a), (.int (c1 &&& (own_mask p2)))])) rfl rfl (hb hby d5_10)
  have S8 : Steps p.tables e below Ω (T7.setTop (mkF m 13 #[.val (.ref a), .val (.int c1)] [(.int p1), (.int (c1 &&& (own_mask p2)))])) := S6.trans (st7 _ (Steps.refl _))
  by_cases hc1 : (c1 &&& (own_mask p2)) = p1
  · have qhc1 : (c1 &&& (own_mask p2)).toInt = p1.toInt := congrArg Int32.toInt hc1
    have S9 : Steps p.tables e below Ω (T7.setTop (mkF m 21 #[.val (.ref a), .val (.int c1)] [(.int (1 : Int32))])) := by
      refine S8.trans ?_
      refine XS.icmpNo X7.here hx rfl (hb hby d5_13) rfl (XT.ii_ne_f hc1) ?_
      show Steps p.tables e below (T7.setTop (mkF m 16 #[.val (.ref a), .val (.int c1)] [])) _
      refine XS.iconst X7.here hx rfl (hb hby d5_16) ?_
      show Steps p.tables e below (T7.setTop (mkF m 17 #[.val (.ref a), .val (.int c1)] [(.int (1 : Int32))])) _
      refine XS.goto X7.here hx rfl (pc0 := 17) (pc' := 21) rfl (hb hby d5_17) (by decide) (by decide) ?_
      exact Steps.refl _
    obtain ⟨fs, hr, hrun, hended, hW, hsame⟩ := X7.leave (v := some (.int (1 : Int32))) (fun h => by rw [Bd.returns] at h; cases h)
    have hfin : Steps p.tables e below Ω (T7.setFrames fs) := by
      refine S9.trans ?_
      exact own_retZ X7 hx Bd.returns (by decide) (hb hby d5_21) hr
    rw [hΩ] at hfin
    refine ⟨_, _, hfin, hrun, hended, _, _, rfl, ?_, ⟨_, rfl⟩, hW, hsame.mono (by decide) (by decide)⟩
    show Q5 Z a c1 p1 p2 h0 n0 _ T7.heap _
    rw [e7]
    exact ⟨by rw [own_con, if_pos hc1], N4, rfl⟩
  · have qhc1 : ¬ (c1 &&& (own_mask p2)).toInt = p1.toInt := fun q => hc1 (Int32.toInt_inj.mp q)
    have S10 : Steps p.tables e below Ω (T7.setTop (mkF m 21 #[.val (.ref a), .val (.int c1)] [(.int (0 : Int32))])) := by
      refine S8.trans ?_
      refine XS.icmpYes X7.here hx rfl (pc0 := 13) (pc' := 20) rfl (hb hby d5_13) rfl (XT.ii_ne_t hc1) (by decide) (by decide) ?_
      show Steps p.tables e below (T7.setTop (mkF m 20 #[.val (.ref a), .val (.int c1)] [])) _
      refine XS.iconst X7.here hx rfl (hb hby d5_20) ?_
      exact Steps.refl _
    obtain ⟨fs, hr, hrun, hended, hW, hsame⟩ := X7.leave (v := some (.int (0 : Int32))) (fun h => by rw [Bd.returns] at h; cases h)
    have hfin : Steps p.tables e below Ω (T7.setFrames fs) := by
      refine S10.trans ?_
      exact own_retZ X7 hx Bd.returns (by decide) (hb hby d5_21) hr
    rw [hΩ] at hfin
    refine ⟨_, _, hfin, hrun, hended, _, _, rfl, ?_, ⟨_, rfl⟩, hW, hsame.mono (by decide) (by decide)⟩
    show Q5 Z a c1 p1 p2 h0 n0 _ T7.heap _
    rw [e7]
    exact ⟨by rw [own_con, if_neg hc1], N4, rfl⟩
theorem pd_2 : parseMethodDescriptor "(II)V" = some ⟨[.int, .int], none⟩ := by decide +kernel
theorem pd_3 : parseMethodDescriptor "(I)Z" = some ⟨[.int], some .boolean⟩ := by decide +kernel
theorem pn_2 : plainName "com/example/pathsmith/pathsmith/server/Ipv4PrefixContainsPinLaw" = true := by first | (simp [plainName, overriddenIn]; done) | decide +kernel
theorem ef_rm0 (m : MethodId) (x0 : Int32) (x1 : Int32) (x2 : Int32) (x3 : Int32) : entryFrame m #[(.int x0), (.int x1), (.int x2), (.int x3)] maxLocals = mkF m 0 #[.val (.int x0), .val (.int x1), .val (.int x2), .val (.int x3), .unset, .unset, .unset, .unset, .unset, .unset] [] := by first | (simp [entryFrame, mkF, argsToLocals, Value.category, maxLocals]; done) | rfl
def Q0 (Z : State) (a1 : Int32) (p1 : Int32) (c1 : Int32) (md : Int32) (h0 : Heap) (n0 : Nat) (v : Option Value) (h : Heap) (L : List Loc) : Prop := v = some (.int 1) ∧ Fr n0 L
set_option maxRecDepth 65536 in
set_option maxHeartbeats 40000000 in
theorem rm0 (l : Launch) (Z : State) (a0 : Array Value) (hw : ∀ d ∈ tables_1, d.before a0 Z = true) (ws : List Jvm.Cond) (a1 : Int32) (p1 : Int32) (c1 : Int32) (md : Int32) (h0 : Heap) (n0 : Nat) (Z0 : n0 ≤ h0.size) :
    MetFree l x (head1 (Jvm.Cond.code x code maxLocals ret :: ws) room_1) (fun aa U => aa = #[(.int a1), (.int p1), (.int c1), (.int md)] ∧ Z.Warmed39 U.vm ∧ U.heap = h0) (fun _ _ _ _ _ => True) (fun _ U o U' => ∃ v L, o = .returned v ∧ Q0 Z a1 p1 c1 md h0 n0 v U'.heap L ∧ FrameEnd U o U' L room_1.cells room_1.slots) := by
  refine MetFree.of_bodySF (plainFor_of_name pn_2) hisR ?_
  intro p e s m args below meth c s₁ Bd hml0 hP hK
  obtain ⟨rfl, hZ, hh⟩ := hP
  have hx := Bd.exec
  have hby := Bd.bytes
  have hml : c.maxLocals = 10 := hml0
  have hown : s.vm.findClass "com/example/pathsmith/pathsmith/server/Ipv4PrefixContainsPinLaw" = some m.cls := findClass_of_methodNamed Bd.named
  have hnm := (name_of_methodNamed Bd.named Bd.method).1
  have X0 : Stand p l e room_1 s m #[(.int a1), (.int p1), (.int c1), (.int md)] below meth c s₁ [] 0 0 := Stand.of_body Bd
  have e0 : s₁.heap = h0 := by rw [← hh, Bd.state]; rfl
  have N0 := Fr.nil n0
  obtain ⟨Ω, hΩ⟩ : ∃ z, z = s₁.setTop (entryFrame m #[(.int a1), (.int p1), (.int c1), (.int md)] maxLocals) := ⟨_, rfl⟩
  have S0 : Steps p.tables e below Ω (s₁.setTop (mkF m 0 #[.val (.int a1), .val (.int p1), .val (.int c1), .val (.int md), .unset, .unset, .unset, .unset, .unset, .unset] [])) := by rw [hΩ]; exact castTop (ef_rm0 m a1 p1 c1 md) (Steps.refl _)
  have S1 : Steps p.tables e below Ω (s₁.setTop (mkF m 9 #[.val (.int a1), .val (.int p1), .val (.int c1), .val (.int md), .val (.int ((p1 &&& (2147483647 : Int32)) % (33 : Int32))), .unset, .unset, .unset, .unset, .unset] [])) := by
    refine S0.trans ?_
    refine XS.iloadN X0.here hx rfl (hb hby at_0) rfl ?_
    show Steps p.tables e below (s₁.setTop (mkF m 1 #[.val (.int a1), .val (.int p1), .val (.int c1), .val (.int md), .unset, .unset, .unset, .unset, .unset, .unset] [(.int p1)])) _
    refine X0.ldcInt hx hown (mvT hZ (hw _ (List.mem_of_getElem? (i := 0) rfl))) (g := (mkF m 1 #[.val (.int a1), .val (.int p1), .val (.int c1), .val (.int md), .unset, .unset, .unset, .unset, .unset, .unset] [(.int p1)])) rfl (hb hby at_1) _ ?_
    show Steps p.tables e below (s₁.setTop (mkF m 3 #[.val (.int a1), .val (.int p1), .val (.int c1), .val (.int md), .unset, .unset, .unset, .unset, .unset, .unset] [(.int (2147483647 : Int32)), (.int p1)])) _
    refine XS.iand X0.here hx rfl (hb hby at_3) rfl ?_
    show Steps p.tables e below (s₁.setTop (mkF m 4 #[.val (.int a1), .val (.int p1), .val (.int c1), .val (.int md), .unset, .unset, .unset, .unset, .unset, .unset] [(.int (p1 &&& (2147483647 : Int32)))])) _
    refine XS.bipush X0.here hx rfl (hb hby at_4) ?_
    show Steps p.tables e below (s₁.setTop (mkF m 6 #[.val (.int a1), .val (.int p1), .val (.int c1), .val (.int md), .unset, .unset, .unset, .unset, .unset, .unset] [(.int (33 : Int32)), (.int (p1 &&& (2147483647 : Int32)))])) _
    refine iremM X0 hx rfl (hb hby at_6) rfl (by decide) ?_
    show Steps p.tables e below (s₁.setTop (mkF m 7 #[.val (.int a1), .val (.int p1), .val (.int c1), .val (.int md), .unset, .unset, .unset, .unset, .unset, .unset] [(.int ((p1 &&& (2147483647 : Int32)) % (33 : Int32)))])) _
    refine XS.istore X0.here hx rfl (hb hby at_7) rfl (l' := #[.val (.int a1), .val (.int p1), .val (.int c1), .val (.int md), .val (.int ((p1 &&& (2147483647 : Int32)) % (33 : Int32))), .unset, .unset, .unset, .unset, .unset]) rfl ?_
    exact Steps.refl _
  obtain ⟨le, h_le⟩ : ∃ z : Int32, z = ((p1 &&& (2147483647 : Int32)) % (33 : Int32)) := ⟨_, rfl⟩
  rw [← h_le] at S1
  have hm : (p1 &&& (2147483647 : Int32)).toInt = p1.toInt % (2 ^ 31 : Nat) := c_mask p1 (2147483647 : Int32) 31 (by decide) (by decide)
  have hr33 := c_irem (p1 &&& (2147483647 : Int32)) (33 : Int32) 33 (by decide)
  rw [← h_le] at hr33
  have hm2 := rng32 p1
  have hs0 : 0 ≤ le.toInt ∧ le.toInt < 33 := by omega
  have S2 : Steps p.tables e below Ω (s₁.setTop (mkF m 11 #[.val (.int a1), .val (.int p1), .val (.int c1), .val (.int md), .val (.int le), .unset, .unset, .unset, .unset, .unset] [(.int le)])) := by
    refine S1.trans ?_
    refine XS.iload X0.here hx rfl (hb hby at_9) rfl ?_
    exact Steps.refl _
  obtain ⟨ad, h_ad, S4⟩ : ∃ (ad : Int32), ad = (if le = (0 : Int32) then (0 : Int32) else (((a1.toUInt32 >>> (((32 : Int32) - le) &&& 31).toUInt32).toInt32) <<< (((32 : Int32) - le) &&& 31))) ∧ Steps p.tables e below Ω (s₁.setTop (mkF m 31 #[.val (.int a1), .val (.int p1), .val (.int c1), .val (.int md), .val (.int le), .unset, .unset, .unset, .unset, .unset] [(.int ad)])) := by
    by_cases c3 : le = (0 : Int32)
    · refine ⟨(0 : Int32), (by rw [if_pos c3]), S2.trans ?_⟩
      refine XS.ifNo X0.here hx rfl (hb hby at_11) rfl (XT.i0_ne_f c3) ?_
      show Steps p.tables e below (s₁.setTop (mkF m 14 #[.val (.int a1), .val (.int p1), .val (.int c1), .val (.int md), .val (.int le), .unset, .unset, .unset, .unset, .unset] [])) _
      refine XS.iconst X0.here hx rfl (hb hby at_14) ?_
      show Steps p.tables e below (s₁.setTop (mkF m 15 #[.val (.int a1), .val (.int p1), .val (.int c1), .val (.int md), .val (.int le), .unset, .unset, .unset, .unset, .unset] [(.int (0 : Int32))])) _
      refine XS.goto X0.here hx rfl (pc0 := 15) (pc' := 31) rfl (hb hby at_15) (by decide) (by decide) ?_
      exact Steps.refl _
    · refine ⟨(((a1.toUInt32 >>> (((32 : Int32) - le) &&& 31).toUInt32).toInt32) <<< (((32 : Int32) - le) &&& 31)), (by rw [if_neg c3]), S2.trans ?_⟩
      refine XS.ifYes X0.here hx rfl (pc0 := 11) (pc' := 18) rfl (hb hby at_11) rfl (XT.i0_ne_t c3) (by decide) (by decide) ?_
      show Steps p.tables e below (s₁.setTop (mkF m 18 #[.val (.int a1), .val (.int p1), .val (.int c1), .val (.int md), .val (.int le), .unset, .unset, .unset, .unset, .unset] [])) _
      refine XS.iloadN X0.here hx rfl (hb hby at_18) rfl ?_
      show Steps p.tables e below (s₁.setTop (mkF m 19 #[.val (.int a1), .val (.int p1), .val (.int c1), .val (.int md), .val (.int le), .unset, .unset, .unset, .unset, .unset] [(.int a1)])) _
      refine XS.bipush X0.here hx rfl (hb hby at_19) ?_
      show Steps p.tables e below (s₁.setTop (mkF m 21 #[.val (.int a1), .val (.int p1), .val (.int c1), .val (.int md), .val (.int le), .unset, .unset, .unset, .unset, .unset] [(.int (32 : Int32)), (.int a1)])) _
      refine XS.iload X0.here hx rfl (hb hby at_21) rfl ?_
      show Steps p.tables e below (s₁.setTop (mkF m 23 #[.val (.int a1), .val (.int p1), .val (.int c1), .val (.int md), .val (.int le), .unset, .unset, .unset, .unset, .unset] [(.int le), (.int (32 : Int32)), (.int a1)])) _
      refine XS.isub X0.here hx rfl (hb hby at_23) rfl ?_
      show Steps p.tables e below (s₁.setTop (mkF m 24 #[.val (.int a1), .val (.int p1), .val (.int c1), .val (.int md), .val (.int le), .unset, .unset, .unset, .unset, .unset] [(.int ((32 : Int32) - le)), (.int a1)])) _
      refine XS.iushr X0.here hx rfl (hb hby at_24) rfl ?_
      show Steps p.tables e below (s₁.setTop (mkF m 25 #[.val (.int a1), .val (.int p1), .val (.int c1), .val (.int md), .val (.int le), .unset, .unset, .unset, .unset, .unset] [(.int ((a1.toUInt32 >>> (((32 : Int32) - le) &&& 31).toUInt32).toInt32))])) _
      refine XS.bipush X0.here hx rfl (hb hby at_25) ?_
      show Steps p.tables e below (s₁.setTop (mkF m 27 #[.val (.int a1), .val (.int p1), .val (.int c1), .val (.int md), .val (.int le), .unset, .unset, .unset, .unset, .unset] [(.int (32 : Int32)), (.int ((a1.toUInt32 >>> (((32 : Int32) - le) &&& 31).toUInt32).toInt32))])) _
      refine XS.iload X0.here hx rfl (hb hby at_27) rfl ?_
      show Steps p.tables e below (s₁.setTop (mkF m 29 #[.val (.int a1), .val (.int p1), .val (.int c1), .val (.int md), .val (.int le), .unset, .unset, .unset, .unset, .unset] [(.int le), (.int (32 : Int32)), (.int ((a1.toUInt32 >>> (((32 : Int32) - le) &&& 31).toUInt32).toInt32))])) _
      refine XS.isub X0.here hx rfl (hb hby at_29) rfl ?_
      show Steps p.tables e below (s₁.setTop (mkF m 30 #[.val (.int a1), .val (.int p1), .val (.int c1), .val (.int md), .val (.int le), .unset, .unset, .unset, .unset, .unset] [(.int ((32 : Int32) - le)), (.int ((a1.toUInt32 >>> (((32 : Int32) - le) &&& 31).toUInt32).toInt32))])) _
      refine XS.ishl X0.here hx rfl (hb hby at_30) rfl ?_
      exact Steps.refl _
  have had : ad = own_ad a1 le := h_ad
  have S5 : Steps p.tables e below Ω (s₁.setTop (mkF m 33 #[.val (.int a1), .val (.int p1), .val (.int c1), .val (.int md), .val (.int le), .val (.int ad), .unset, .unset, .unset, .unset] [])) := by
    refine S4.trans ?_
    refine XS.istore X0.here hx rfl (hb hby at_31) rfl (l' := #[.val (.int a1), .val (.int p1), .val (.int c1), .val (.int md), .val (.int le), .val (.int ad), .unset, .unset, .unset, .unset]) rfl ?_
    exact Steps.refl _
  obtain ⟨T6, h6, X6, e6, E6, A6, D6, -, st6⟩ := newO X0 hx hZ hown (hw _ (List.mem_of_getElem? (i := 1) rfl)) (hw _ (List.mem_of_getElem? (i := 2) rfl)) (hw _ (List.mem_of_getElem? (i := 3) rfl)) e0 (g := (mkF m 33 #[.val (.int a1), .val (.int p1), .val (.int c1), .val (.int md), .val (.int le), .val (.int ad), .unset, .unset, .unset, .unset] [])) rfl (hb hby at_33) (by decide) (by decide)
  obtain ⟨b, s_b⟩ : ∃ z, z = h0.size := ⟨_, rfl⟩
  rw [← s_b] at A6 D6 st6
  have g_b : n0 ≤ b := Nat.le_trans Z0 (Nat.le_of_eq s_b.symm)
  have F_address_b : Fld Z h6 b "com/example/pathsmith/pathsmith/server/Ipv4Prefix" "address" "I" (.int (0 : Int32)) := D6 (Or.inr (hw _ (List.mem_of_getElem? (i := 19) rfl))) (ty := .int) (by decide)
  have F_length_b : Fld Z h6 b "com/example/pathsmith/pathsmith/server/Ipv4Prefix" "length" "I" (.int (0 : Int32)) := D6 (Or.inr (hw _ (List.mem_of_getElem? (i := 21) rfl))) (ty := .int) (by decide)
  have S7 : Steps p.tables e below Ω (T6.setTop (mkF m 36 #[.val (.int a1), .val (.int p1), .val (.int c1), .val (.int md), .val (.int le), .val (.int ad), .unset, .unset, .unset, .unset] [(.ref b)])) := S5.trans (st6 _ (Steps.refl _))
  have S8 : Steps p.tables e below Ω (T6.setTop (mkF m 41 #[.val (.int a1), .val (.int p1), .val (.int c1), .val (.int md), .val (.int le), .val (.int ad), .unset, .unset, .unset, .unset] [(.int le), (.int ad), (.ref b), (.ref b)])) := by
    refine S7.trans ?_
    refine XS.dup X6.here hx rfl (hb hby at_36) rfl rfl ?_
    show Steps p.tables e below (T6.setTop (mkF m 37 #[.val (.int a1), .val (.int p1), .val (.int c1), .val (.int md), .val (.int le), .val (.int ad), .unset, .unset, .unset, .unset] [(.ref b), (.ref b)])) _
    refine XS.iload X6.here hx rfl (hb hby at_37) rfl ?_
    show Steps p.tables e below (T6.setTop (mkF m 39 #[.val (.int a1), .val (.int p1), .val (.int c1), .val (.int md), .val (.int le), .val (.int ad), .unset, .unset, .unset, .unset] [(.int ad), (.ref b), (.ref b)])) _
    refine XS.iload X6.here hx rfl (hb hby at_39) rfl ?_
    exact Steps.refl _
  have b1 : ¬ le < 0 := fun z => by have := Int32.lt_iff_toInt_lt.mp z; have z0 : (0 : Int32).toInt = 0 := (by decide); omega
  have b2 : ¬ (32 : Int32) < le := fun z => by have := Int32.lt_iff_toInt_lt.mp z; have z0 : (32 : Int32).toInt = 32 := (by decide); omega
  obtain ⟨_, _, ⟨T9, L9, k9, n9⟩, -, X9, ⟨Lc9, hQ9, l9, y9, z9⟩, st9⟩ := X6.specialBack hx (y := (⟨"com/example/pathsmith/pathsmith/server/Ipv4Prefix", "<init>", "(II)V"⟩ : MethodName)) rfl hown (mvT hZ (hw _ (List.mem_of_getElem? (i := 4) rfl))) (mvT hZ (hw _ (List.mem_of_getElem? (i := 5) rfl))) (mvT hZ (hw _ (List.mem_of_getElem? (i := 6) rfl))) (by decide) (backOf (W := 1) (rm1 l Z a0 hw [] b ad le  h6 n0 (Nat.le_trans Z0 E6.1) A6 F_address_b F_length_b g_b b1 b2 (by rw [had]; exact own_ok a1 le)) hZ (hw _ (List.mem_of_getElem? (i := 6) rfl)) (hw _ (List.mem_of_getElem? (i := 3) rfl)) (by decide) (by decide)) (g := (mkF m 41 #[.val (.int a1), .val (.int p1), .val (.int c1), .val (.int md), .val (.int le), .val (.int ad), .unset, .unset, .unset, .unset] [(.int le), (.int ad), (.ref b), (.ref b)])) rfl (by rw [hml]; rfl) (Steps.refl _) (a := b) (argsL := [(.int ad), (.int le)]) (rest := [(.ref b)]) (lenOf pd_2 rfl) rfl (by show 2 * 0 + _ ≤ _; exact Nat.le_of_eq rfl) (hb hby at_41) (fun _ _ => ⟨rfl, e6, (by decide : 1 + 0 ≤ _), (by decide : 2 + 0 ≤ _)⟩)
  dsimp only [Pt.U, Pt.locs, Pt.cells, Pt.slots] at X9 l9 y9 z9 st9 hQ9
  subst l9 y9 z9
  obtain ⟨rfl, N9q, K9, E9, F1, F2⟩ := hQ9
  have N9 := Fr.app N0 N9q
  have S10 : Steps p.tables e below Ω (T9.setTop (mkF m 44 #[.val (.int a1), .val (.int p1), .val (.int c1), .val (.int md), .val (.int le), .val (.int ad), .unset, .unset, .unset, .unset] [(.ref b)])) := S8.trans st9
  have S11 : Steps p.tables e below Ω (T9.setTop (mkF m 51 #[.val (.int a1), .val (.int p1), .val (.int c1), .val (.int md), .val (.int le), .val (.int ad), .val (.ref b), .val (.int (md &&& (3 : Int32))), .unset, .unset] [])) := by
    refine S10.trans ?_
    refine XS.astore X9.here hx rfl (hb hby at_44) rfl rfl (l' := #[.val (.int a1), .val (.int p1), .val (.int c1), .val (.int md), .val (.int le), .val (.int ad), .val (.ref b), .unset, .unset, .unset]) rfl ?_
    show Steps p.tables e below (T9.setTop (mkF m 46 #[.val (.int a1), .val (.int p1), .val (.int c1), .val (.int md), .val (.int le), .val (.int ad), .val (.ref b), .unset, .unset, .unset] [])) _
    refine XS.iloadN X9.here hx rfl (hb hby at_46) rfl ?_
    show Steps p.tables e below (T9.setTop (mkF m 47 #[.val (.int a1), .val (.int p1), .val (.int c1), .val (.int md), .val (.int le), .val (.int ad), .val (.ref b), .unset, .unset, .unset] [(.int md)])) _
    refine XS.iconst X9.here hx rfl (hb hby at_47) ?_
    show Steps p.tables e below (T9.setTop (mkF m 48 #[.val (.int a1), .val (.int p1), .val (.int c1), .val (.int md), .val (.int le), .val (.int ad), .val (.ref b), .unset, .unset, .unset] [(.int (3 : Int32)), (.int md)])) _
    refine XS.iand X9.here hx rfl (hb hby at_48) rfl ?_
    show Steps p.tables e below (T9.setTop (mkF m 49 #[.val (.int a1), .val (.int p1), .val (.int c1), .val (.int md), .val (.int le), .val (.int ad), .val (.ref b), .unset, .unset, .unset] [(.int (md &&& (3 : Int32)))])) _
    refine XS.istore X9.here hx rfl (hb hby at_49) rfl (l' := #[.val (.int a1), .val (.int p1), .val (.int c1), .val (.int md), .val (.int le), .val (.int ad), .val (.ref b), .val (.int (md &&& (3 : Int32))), .unset, .unset]) rfl ?_
    exact Steps.refl _
  obtain ⟨se, h_se⟩ : ∃ z : Int32, z = (md &&& (3 : Int32)) := ⟨_, rfl⟩
  rw [← h_se] at S11
  obtain ⟨cd, h_cd, S17⟩ : ∃ (cd : Int32), cd = (if se = (0 : Int32) then c1 else (if se = (1 : Int32) then (if le = (32 : Int32) then ad else (ad ||| ((c1.toUInt32 >>> (le &&& 31).toUInt32).toInt32))) else (if se = (2 : Int32) then (if le = (0 : Int32) then c1 else (ad ^^^ ((1 : Int32) <<< (((31 : Int32) - ((c1 &&& (2147483647 : Int32)) % le)) &&& 31)))) else (ad ^^^ c1)))) ∧ Steps p.tables e below Ω (T9.setTop (mkF m 133 #[.val (.int a1), .val (.int p1), .val (.int c1), .val (.int md), .val (.int le), .val (.int ad), .val (.ref b), .val (.int se), .val (.int cd), .unset] [])) := by
    by_cases c12 : se = (0 : Int32)
    · refine ⟨c1, (by rw [if_pos c12]), S11.trans ?_⟩
      refine XS.iload X9.here hx rfl (hb hby at_51) rfl ?_
      show Steps p.tables e below (T9.setTop (mkF m 53 #[.val (.int a1), .val (.int p1), .val (.int c1), .val (.int md), .val (.int le), .val (.int ad), .val (.ref b), .val (.int se), .unset, .unset] [(.int se)])) _
      refine XS.ifNo X9.here hx rfl (hb hby at_53) rfl (XT.i0_ne_f c12) ?_
      show Steps p.tables e below (T9.setTop (mkF m 56 #[.val (.int a1), .val (.int p1), .val (.int c1), .val (.int md), .val (.int le), .val (.int ad), .val (.ref b), .val (.int se), .unset, .unset] [])) _
      refine XS.iloadN X9.here hx rfl (hb hby at_56) rfl ?_
      show Steps p.tables e below (T9.setTop (mkF m 57 #[.val (.int a1), .val (.int p1), .val (.int c1), .val (.int md), .val (.int le), .val (.int ad), .val (.ref b), .val (.int se), .unset, .unset] [(.int c1)])) _
      refine XS.istore X9.here hx rfl (hb hby at_57) rfl (l' := #[.val (.int a1), .val (.int p1), .val (.int c1), .val (.int md), .val (.int le), .val (.int ad), .val (.ref b), .val (.int se), .val (.int c1), .unset]) rfl ?_
      show Steps p.tables e below (T9.setTop (mkF m 59 #[.val (.int a1), .val (.int p1), .val (.int c1), .val (.int md), .val (.int le), .val (.int ad), .val (.ref b), .val (.int se), .val (.int c1), .unset] [])) _
      refine XS.goto X9.here hx rfl (pc0 := 59) (pc' := 133) rfl (hb hby at_59) (by decide) (by decide) ?_
      exact Steps.refl _
    · by_cases c13 : se = (1 : Int32)
      · by_cases c14 : le = (32 : Int32)
        · refine ⟨ad, (by rw [if_neg c12, if_pos c13, if_pos c14]), S11.trans ?_⟩
          refine XS.iload X9.here hx rfl (hb hby at_51) rfl ?_
          show Steps p.tables e below (T9.setTop (mkF m 53 #[.val (.int a1), .val (.int p1), .val (.int c1), .val (.int md), .val (.int le), .val (.int ad), .val (.ref b), .val (.int se), .unset, .unset] [(.int se)])) _
          refine XS.ifYes X9.here hx rfl (pc0 := 53) (pc' := 62) rfl (hb hby at_53) rfl (XT.i0_ne_t c12) (by decide) (by decide) ?_
          show Steps p.tables e below (T9.setTop (mkF m 62 #[.val (.int a1), .val (.int p1), .val (.int c1), .val (.int md), .val (.int le), .val (.int ad), .val (.ref b), .val (.int se), .unset, .unset] [])) _
          refine XS.iload X9.here hx rfl (hb hby at_62) rfl ?_
          show Steps p.tables e below (T9.setTop (mkF m 64 #[.val (.int a1), .val (.int p1), .val (.int c1), .val (.int md), .val (.int le), .val (.int ad), .val (.ref b), .val (.int se), .unset, .unset] [(.int se)])) _
          refine XS.iconst X9.here hx rfl (hb hby at_64) ?_
          show Steps p.tables e below (T9.setTop (mkF m 65 #[.val (.int a1), .val (.int p1), .val (.int c1), .val (.int md), .val (.int le), .val (.int ad), .val (.ref b), .val (.int se), .unset, .unset] [(.int (1 : Int32)), (.int se)])) _
          refine XS.icmpNo X9.here hx rfl (hb hby at_65) rfl (XT.ii_ne_f c13) ?_
          show Steps p.tables e below (T9.setTop (mkF m 68 #[.val (.int a1), .val (.int p1), .val (.int c1), .val (.int md), .val (.int le), .val (.int ad), .val (.ref b), .val (.int se), .unset, .unset] [])) _
          refine XS.iload X9.here hx rfl (hb hby at_68) rfl ?_
          show Steps p.tables e below (T9.setTop (mkF m 70 #[.val (.int a1), .val (.int p1), .val (.int c1), .val (.int md), .val (.int le), .val (.int ad), .val (.ref b), .val (.int se), .unset, .unset] [(.int le)])) _
          refine XS.bipush X9.here hx rfl (hb hby at_70) ?_
          show Steps p.tables e below (T9.setTop (mkF m 72 #[.val (.int a1), .val (.int p1), .val (.int c1), .val (.int md), .val (.int le), .val (.int ad), .val (.ref b), .val (.int se), .unset, .unset] [(.int (32 : Int32)), (.int le)])) _
          refine XS.icmpNo X9.here hx rfl (hb hby at_72) rfl (XT.ii_ne_f c14) ?_
          show Steps p.tables e below (T9.setTop (mkF m 75 #[.val (.int a1), .val (.int p1), .val (.int c1), .val (.int md), .val (.int le), .val (.int ad), .val (.ref b), .val (.int se), .unset, .unset] [])) _
          refine XS.iload X9.here hx rfl (hb hby at_75) rfl ?_
          show Steps p.tables e below (T9.setTop (mkF m 77 #[.val (.int a1), .val (.int p1), .val (.int c1), .val (.int md), .val (.int le), .val (.int ad), .val (.ref b), .val (.int se), .unset, .unset] [(.int ad)])) _
          refine XS.goto X9.here hx rfl (pc0 := 77) (pc' := 87) rfl (hb hby at_77) (by decide) (by decide) ?_
          show Steps p.tables e below (T9.setTop (mkF m 87 #[.val (.int a1), .val (.int p1), .val (.int c1), .val (.int md), .val (.int le), .val (.int ad), .val (.ref b), .val (.int se), .unset, .unset] [(.int ad)])) _
          refine XS.istore X9.here hx rfl (hb hby at_87) rfl (l' := #[.val (.int a1), .val (.int p1), .val (.int c1), .val (.int md), .val (.int le), .val (.int ad), .val (.ref b), .val (.int se), .val (.int ad), .unset]) rfl ?_
          show Steps p.tables e below (T9.setTop (mkF m 89 #[.val (.int a1), .val (.int p1), .val (.int c1), .val (.int md), .val (.int le), .val (.int ad), .val (.ref b), .val (.int se), .val (.int ad), .unset] [])) _
          refine XS.goto X9.here hx rfl (pc0 := 89) (pc' := 133) rfl (hb hby at_89) (by decide) (by decide) ?_
          exact Steps.refl _
        · refine ⟨(ad ||| ((c1.toUInt32 >>> (le &&& 31).toUInt32).toInt32)), (by rw [if_neg c12, if_pos c13, if_neg c14]), S11.trans ?_⟩
          refine XS.iload X9.here hx rfl (hb hby at_51) rfl ?_
          show Steps p.tables e below (T9.setTop (mkF m 53 #[.val (.int a1), .val (.int p1), .val (.int c1), .val (.int md), .val (.int le), .val (.int ad), .val (.ref b), .val (.int se), .unset, .unset] [(.int se)])) _
          refine XS.ifYes X9.here hx rfl (pc0 := 53) (pc' := 62) rfl (hb hby at_53) rfl (XT.i0_ne_t c12) (by decide) (by decide) ?_
          show Steps p.tables e below (T9.setTop (mkF m 62 #[.val (.int a1), .val (.int p1), .val (.int c1), .val (.int md), .val (.int le), .val (.int ad), .val (.ref b), .val (.int se), .unset, .unset] [])) _
          refine XS.iload X9.here hx rfl (hb hby at_62) rfl ?_
          show Steps p.tables e below (T9.setTop (mkF m 64 #[.val (.int a1), .val (.int p1), .val (.int c1), .val (.int md), .val (.int le), .val (.int ad), .val (.ref b), .val (.int se), .unset, .unset] [(.int se)])) _
          refine XS.iconst X9.here hx rfl (hb hby at_64) ?_
          show Steps p.tables e below (T9.setTop (mkF m 65 #[.val (.int a1), .val (.int p1), .val (.int c1), .val (.int md), .val (.int le), .val (.int ad), .val (.ref b), .val (.int se), .unset, .unset] [(.int (1 : Int32)), (.int se)])) _
          refine XS.icmpNo X9.here hx rfl (hb hby at_65) rfl (XT.ii_ne_f c13) ?_
          show Steps p.tables e below (T9.setTop (mkF m 68 #[.val (.int a1), .val (.int p1), .val (.int c1), .val (.int md), .val (.int le), .val (.int ad), .val (.ref b), .val (.int se), .unset, .unset] [])) _
          refine XS.iload X9.here hx rfl (hb hby at_68) rfl ?_
          show Steps p.tables e below (T9.setTop (mkF m 70 #[.val (.int a1), .val (.int p1), .val (.int c1), .val (.int md), .val (.int le), .val (.int ad), .val (.ref b), .val (.int se), .unset, .unset] [(.int le)])) _
          refine XS.bipush X9.here hx rfl (hb hby at_70) ?_
          show Steps p.tables e below (T9.setTop (mkF m 72 #[.val (.int a1), .val (.int p1), .val (.int c1), .val (.int md), .val (.int le), .val (.int ad), .val (.ref b), .val (.int se), .unset, .unset] [(.int (32 : Int32)), (.int le)])) _
          refine XS.icmpYes X9.here hx rfl (pc0 := 72) (pc' := 80) rfl (hb hby at_72) rfl (XT.ii_ne_t c14) (by decide) (by decide) ?_
          show Steps p.tables e below (T9.setTop (mkF m 80 #[.val (.int a1), .val (.int p1), .val (.int c1), .val (.int md), .val (.int le), .val (.int ad), .val (.ref b), .val (.int se), .unset, .unset] [])) _
          refine XS.iload X9.here hx rfl (hb hby at_80) rfl ?_
          show Steps p.tables e below (T9.setTop (mkF m 82 #[.val (.int a1), .val (.int p1), .val (.int c1), .val (.int md), .val (.int le), .val (.int ad), .val (.ref b), .val (.int se), .unset, .unset] [(.int ad)])) _
          refine XS.iloadN X9.here hx rfl (hb hby at_82) rfl ?_
          show Steps p.tables e below (T9.setTop (mkF m 83 #[.val (.int a1), .val (.int p1), .val (.int c1), .val (.int md), .val (.int le), .val (.int ad), .val (.ref b), .val (.int se), .unset, .unset] [(.int c1), (.int ad)])) _
          refine XS.iload X9.here hx rfl (hb hby at_83) rfl ?_
          show Steps p.tables e below (T9.setTop (mkF m 85 #[.val (.int a1), .val (.int p1), .val (.int c1), .val (.int md), .val (.int le), .val (.int ad), .val (.ref b), .val (.int se), .unset, .unset] [(.int le), (.int c1), (.int ad)])) _
          refine XS.iushr X9.here hx rfl (hb hby at_85) rfl ?_
          show Steps p.tables e below (T9.setTop (mkF m 86 #[.val (.int a1), .val (.int p1), .val (.int c1), .val (.int md), .val (.int le), .val (.int ad), .val (.ref b), .val (.int se), .unset, .unset] [(.int ((c1.toUInt32 >>> (le &&& 31).toUInt32).toInt32)), (.int ad)])) _
          refine XS.ior X9.here hx rfl (hb hby at_86) rfl ?_
          show Steps p.tables e below (T9.setTop (mkF m 87 #[.val (.int a1), .val (.int p1), .val (.int c1), .val (.int md), .val (.int le), .val (.int ad), .val (.ref b), .val (.int se), .unset, .unset] [(.int (ad ||| ((c1.toUInt32 >>> (le &&& 31).toUInt32).toInt32)))])) _
          refine XS.istore X9.here hx rfl (hb hby at_87) rfl (l' := #[.val (.int a1), .val (.int p1), .val (.int c1), .val (.int md), .val (.int le), .val (.int ad), .val (.ref b), .val (.int se), .val (.int (ad ||| ((c1.toUInt32 >>> (le &&& 31).toUInt32).toInt32))), .unset]) rfl ?_
          show Steps p.tables e below (T9.setTop (mkF m 89 #[.val (.int a1), .val (.int p1), .val (.int c1), .val (.int md), .val (.int le), .val (.int ad), .val (.ref b), .val (.int se), .val (.int (ad ||| ((c1.toUInt32 >>> (le &&& 31).toUInt32).toInt32))), .unset] [])) _
          refine XS.goto X9.here hx rfl (pc0 := 89) (pc' := 133) rfl (hb hby at_89) (by decide) (by decide) ?_
          exact Steps.refl _
      · by_cases c15 : se = (2 : Int32)
        · by_cases c16 : le = (0 : Int32)
          · refine ⟨c1, (by rw [if_neg c12, if_neg c13, if_pos c15, if_pos c16]), S11.trans ?_⟩
            refine XS.iload X9.here hx rfl (hb hby at_51) rfl ?_
            show Steps p.tables e below (T9.setTop (mkF m 53 #[.val (.int a1), .val (.int p1), .val (.int c1), .val (.int md), .val (.int le), .val (.int ad), .val (.ref b), .val (.int se), .unset, .unset] [(.int se)])) _
            refine XS.ifYes X9.here hx rfl (pc0 := 53) (pc' := 62) rfl (hb hby at_53) rfl (XT.i0_ne_t c12) (by decide) (by decide) ?_
            show Steps p.tables e below (T9.setTop (mkF m 62 #[.val (.int a1), .val (.int p1), .val (.int c1), .val (.int md), .val (.int le), .val (.int ad), .val (.ref b), .val (.int se), .unset, .unset] [])) _
            refine XS.iload X9.here hx rfl (hb hby at_62) rfl ?_
            show Steps p.tables e below (T9.setTop (mkF m 64 #[.val (.int a1), .val (.int p1), .val (.int c1), .val (.int md), .val (.int le), .val (.int ad), .val (.ref b), .val (.int se), .unset, .unset] [(.int se)])) _
            refine XS.iconst X9.here hx rfl (hb hby at_64) ?_
            show Steps p.tables e below (T9.setTop (mkF m 65 #[.val (.int a1), .val (.int p1), .val (.int c1), .val (.int md), .val (.int le), .val (.int ad), .val (.ref b), .val (.int se), .unset, .unset] [(.int (1 : Int32)), (.int se)])) _
            refine XS.icmpYes X9.here hx rfl (pc0 := 65) (pc' := 92) rfl (hb hby at_65) rfl (XT.ii_ne_t c13) (by decide) (by decide) ?_
            show Steps p.tables e below (T9.setTop (mkF m 92 #[.val (.int a1), .val (.int p1), .val (.int c1), .val (.int md), .val (.int le), .val (.int ad), .val (.ref b), .val (.int se), .unset, .unset] [])) _
            refine XS.iload X9.here hx rfl (hb hby at_92) rfl ?_
            show Steps p.tables e below (T9.setTop (mkF m 94 #[.val (.int a1), .val (.int p1), .val (.int c1), .val (.int md), .val (.int le), .val (.int ad), .val (.ref b), .val (.int se), .unset, .unset] [(.int se)])) _
            refine XS.iconst X9.here hx rfl (hb hby at_94) ?_
            show Steps p.tables e below (T9.setTop (mkF m 95 #[.val (.int a1), .val (.int p1), .val (.int c1), .val (.int md), .val (.int le), .val (.int ad), .val (.ref b), .val (.int se), .unset, .unset] [(.int (2 : Int32)), (.int se)])) _
            refine XS.icmpNo X9.here hx rfl (hb hby at_95) rfl (XT.ii_ne_f c15) ?_
            show Steps p.tables e below (T9.setTop (mkF m 98 #[.val (.int a1), .val (.int p1), .val (.int c1), .val (.int md), .val (.int le), .val (.int ad), .val (.ref b), .val (.int se), .unset, .unset] [])) _
            refine XS.iload X9.here hx rfl (hb hby at_98) rfl ?_
            show Steps p.tables e below (T9.setTop (mkF m 100 #[.val (.int a1), .val (.int p1), .val (.int c1), .val (.int md), .val (.int le), .val (.int ad), .val (.ref b), .val (.int se), .unset, .unset] [(.int le)])) _
            refine XS.ifNo X9.here hx rfl (hb hby at_100) rfl (XT.i0_ne_f c16) ?_
            show Steps p.tables e below (T9.setTop (mkF m 103 #[.val (.int a1), .val (.int p1), .val (.int c1), .val (.int md), .val (.int le), .val (.int ad), .val (.ref b), .val (.int se), .unset, .unset] [])) _
            refine XS.iloadN X9.here hx rfl (hb hby at_103) rfl ?_
            show Steps p.tables e below (T9.setTop (mkF m 104 #[.val (.int a1), .val (.int p1), .val (.int c1), .val (.int md), .val (.int le), .val (.int ad), .val (.ref b), .val (.int se), .unset, .unset] [(.int c1)])) _
            refine XS.goto X9.here hx rfl (pc0 := 104) (pc' := 122) rfl (hb hby at_104) (by decide) (by decide) ?_
            show Steps p.tables e below (T9.setTop (mkF m 122 #[.val (.int a1), .val (.int p1), .val (.int c1), .val (.int md), .val (.int le), .val (.int ad), .val (.ref b), .val (.int se), .unset, .unset] [(.int c1)])) _
            refine XS.istore X9.here hx rfl (hb hby at_122) rfl (l' := #[.val (.int a1), .val (.int p1), .val (.int c1), .val (.int md), .val (.int le), .val (.int ad), .val (.ref b), .val (.int se), .val (.int c1), .unset]) rfl ?_
            show Steps p.tables e below (T9.setTop (mkF m 124 #[.val (.int a1), .val (.int p1), .val (.int c1), .val (.int md), .val (.int le), .val (.int ad), .val (.ref b), .val (.int se), .val (.int c1), .unset] [])) _
            refine XS.goto X9.here hx rfl (pc0 := 124) (pc' := 133) rfl (hb hby at_124) (by decide) (by decide) ?_
            exact Steps.refl _
          · refine ⟨(ad ^^^ ((1 : Int32) <<< (((31 : Int32) - ((c1 &&& (2147483647 : Int32)) % le)) &&& 31))), (by rw [if_neg c12, if_neg c13, if_pos c15, if_neg c16]), S11.trans ?_⟩
            refine XS.iload X9.here hx rfl (hb hby at_51) rfl ?_
            show Steps p.tables e below (T9.setTop (mkF m 53 #[.val (.int a1), .val (.int p1), .val (.int c1), .val (.int md), .val (.int le), .val (.int ad), .val (.ref b), .val (.int se), .unset, .unset] [(.int se)])) _
            refine XS.ifYes X9.here hx rfl (pc0 := 53) (pc' := 62) rfl (hb hby at_53) rfl (XT.i0_ne_t c12) (by decide) (by decide) ?_
            show Steps p.tables e below (T9.setTop (mkF m 62 #[.val (.int a1), .val (.int p1), .val (.int c1), .val (.int md), .val (.int le), .val (.int ad), .val (.ref b), .val (.int se), .unset, .unset] [])) _
            refine XS.iload X9.here hx rfl (hb hby at_62) rfl ?_
            show Steps p.tables e below (T9.setTop (mkF m 64 #[.val (.int a1), .val (.int p1), .val (.int c1), .val (.int md), .val (.int le), .val (.int ad), .val (.ref b), .val (.int se), .unset, .unset] [(.int se)])) _
            refine XS.iconst X9.here hx rfl (hb hby at_64) ?_
            show Steps p.tables e below (T9.setTop (mkF m 65 #[.val (.int a1), .val (.int p1), .val (.int c1), .val (.int md), .val (.int le), .val (.int ad), .val (.ref b), .val (.int se), .unset, .unset] [(.int (1 : Int32)), (.int se)])) _
            refine XS.icmpYes X9.here hx rfl (pc0 := 65) (pc' := 92) rfl (hb hby at_65) rfl (XT.ii_ne_t c13) (by decide) (by decide) ?_
            show Steps p.tables e below (T9.setTop (mkF m 92 #[.val (.int a1), .val (.int p1), .val (.int c1), .val (.int md), .val (.int le), .val (.int ad), .val (.ref b), .val (.int se), .unset, .unset] [])) _
            refine XS.iload X9.here hx rfl (hb hby at_92) rfl ?_
            show Steps p.tables e below (T9.setTop (mkF m 94 #[.val (.int a1), .val (.int p1), .val (.int c1), .val (.int md), .val (.int le), .val (.int ad), .val (.ref b), .val (.int se), .unset, .unset] [(.int se)])) _
            refine XS.iconst X9.here hx rfl (hb hby at_94) ?_
            show Steps p.tables e below (T9.setTop (mkF m 95 #[.val (.int a1), .val (.int p1), .val (.int c1), .val (.int md), .val (.int le), .val (.int ad), .val (.ref b), .val (.int se), .unset, .unset] [(.int (2 : Int32)), (.int se)])) _
            refine XS.icmpNo X9.here hx rfl (hb hby at_95) rfl (XT.ii_ne_f c15) ?_
            show Steps p.tables e below (T9.setTop (mkF m 98 #[.val (.int a1), .val (.int p1), .val (.int c1), .val (.int md), .val (.int le), .val (.int ad), .val (.ref b), .val (.int se), .unset, .unset] [])) _
            refine XS.iload X9.here hx rfl (hb hby at_98) rfl ?_
            show Steps p.tables e below (T9.setTop (mkF m 100 #[.val (.int a1), .val (.int p1), .val (.int c1), .val (.int md), .val (.int le), .val (.int ad), .val (.ref b), .val (.int se), .unset, .unset] [(.int le)])) _
            refine XS.ifYes X9.here hx rfl (pc0 := 100) (pc' := 107) rfl (hb hby at_100) rfl (XT.i0_ne_t c16) (by decide) (by decide) ?_
            show Steps p.tables e below (T9.setTop (mkF m 107 #[.val (.int a1), .val (.int p1), .val (.int c1), .val (.int md), .val (.int le), .val (.int ad), .val (.ref b), .val (.int se), .unset, .unset] [])) _
            refine XS.iload X9.here hx rfl (hb hby at_107) rfl ?_
            show Steps p.tables e below (T9.setTop (mkF m 109 #[.val (.int a1), .val (.int p1), .val (.int c1), .val (.int md), .val (.int le), .val (.int ad), .val (.ref b), .val (.int se), .unset, .unset] [(.int ad)])) _
            refine XS.iconst X9.here hx rfl (hb hby at_109) ?_
            show Steps p.tables e below (T9.setTop (mkF m 110 #[.val (.int a1), .val (.int p1), .val (.int c1), .val (.int md), .val (.int le), .val (.int ad), .val (.ref b), .val (.int se), .unset, .unset] [(.int (1 : Int32)), (.int ad)])) _
            refine XS.bipush X9.here hx rfl (hb hby at_110) ?_
            show Steps p.tables e below (T9.setTop (mkF m 112 #[.val (.int a1), .val (.int p1), .val (.int c1), .val (.int md), .val (.int le), .val (.int ad), .val (.ref b), .val (.int se), .unset, .unset] [(.int (31 : Int32)), (.int (1 : Int32)), (.int ad)])) _
            refine XS.iloadN X9.here hx rfl (hb hby at_112) rfl ?_
            show Steps p.tables e below (T9.setTop (mkF m 113 #[.val (.int a1), .val (.int p1), .val (.int c1), .val (.int md), .val (.int le), .val (.int ad), .val (.ref b), .val (.int se), .unset, .unset] [(.int c1), (.int (31 : Int32)), (.int (1 : Int32)), (.int ad)])) _
            refine X9.ldcInt hx hown (mvT hZ (hw _ (List.mem_of_getElem? (i := 0) rfl))) (g := (mkF m 113 #[.val (.int a1), .val (.int p1), .val (.int c1), .val (.int md), .val (.int le), .val (.int ad), .val (.ref b), .val (.int se), .unset, .unset] [(.int c1), (.int (31 : Int32)), (.int (1 : Int32)), (.int ad)])) rfl (hb hby at_113) _ ?_
            show Steps p.tables e below (T9.setTop (mkF m 115 #[.val (.int a1), .val (.int p1), .val (.int c1), .val (.int md), .val (.int le), .val (.int ad), .val (.ref b), .val (.int se), .unset, .unset] [(.int (2147483647 : Int32)), (.int c1), (.int (31 : Int32)), (.int (1 : Int32)), (.int ad)])) _
            refine XS.iand X9.here hx rfl (hb hby at_115) rfl ?_
            show Steps p.tables e below (T9.setTop (mkF m 116 #[.val (.int a1), .val (.int p1), .val (.int c1), .val (.int md), .val (.int le), .val (.int ad), .val (.ref b), .val (.int se), .unset, .unset] [(.int (c1 &&& (2147483647 : Int32))), (.int (31 : Int32)), (.int (1 : Int32)), (.int ad)])) _
            refine XS.iload X9.here hx rfl (hb hby at_116) rfl ?_
            show Steps p.tables e below (T9.setTop (mkF m 118 #[.val (.int a1), .val (.int p1), .val (.int c1), .val (.int md), .val (.int le), .val (.int ad), .val (.ref b), .val (.int se), .unset, .unset] [(.int le), (.int (c1 &&& (2147483647 : Int32))), (.int (31 : Int32)), (.int (1 : Int32)), (.int ad)])) _
            refine iremM X9 hx rfl (hb hby at_118) rfl (by assumption) ?_
            show Steps p.tables e below (T9.setTop (mkF m 119 #[.val (.int a1), .val (.int p1), .val (.int c1), .val (.int md), .val (.int le), .val (.int ad), .val (.ref b), .val (.int se), .unset, .unset] [(.int ((c1 &&& (2147483647 : Int32)) % le)), (.int (31 : Int32)), (.int (1 : Int32)), (.int ad)])) _
            refine XS.isub X9.here hx rfl (hb hby at_119) rfl ?_
            show Steps p.tables e below (T9.setTop (mkF m 120 #[.val (.int a1), .val (.int p1), .val (.int c1), .val (.int md), .val (.int le), .val (.int ad), .val (.ref b), .val (.int se), .unset, .unset] [(.int ((31 : Int32) - ((c1 &&& (2147483647 : Int32)) % le))), (.int (1 : Int32)), (.int ad)])) _
            refine XS.ishl X9.here hx rfl (hb hby at_120) rfl ?_
            show Steps p.tables e below (T9.setTop (mkF m 121 #[.val (.int a1), .val (.int p1), .val (.int c1), .val (.int md), .val (.int le), .val (.int ad), .val (.ref b), .val (.int se), .unset, .unset] [(.int ((1 : Int32) <<< (((31 : Int32) - ((c1 &&& (2147483647 : Int32)) % le)) &&& 31))), (.int ad)])) _
            refine XS.ixor X9.here hx rfl (hb hby at_121) rfl ?_
            show Steps p.tables e below (T9.setTop (mkF m 122 #[.val (.int a1), .val (.int p1), .val (.int c1), .val (.int md), .val (.int le), .val (.int ad), .val (.ref b), .val (.int se), .unset, .unset] [(.int (ad ^^^ ((1 : Int32) <<< (((31 : Int32) - ((c1 &&& (2147483647 : Int32)) % le)) &&& 31))))])) _
            refine XS.istore X9.here hx rfl (hb hby at_122) rfl (l' := #[.val (.int a1), .val (.int p1), .val (.int c1), .val (.int md), .val (.int le), .val (.int ad), .val (.ref b), .val (.int se), .val (.int (ad ^^^ ((1 : Int32) <<< (((31 : Int32) - ((c1 &&& (2147483647 : Int32)) % le)) &&& 31)))), .unset]) rfl ?_
            show Steps p.tables e below (T9.setTop (mkF m 124 #[.val (.int a1), .val (.int p1), .val (.int c1), .val (.int md), .val (.int le), .val (.int ad), .val (.ref b), .val (.int se), .val (.int (ad ^^^ ((1 : Int32) <<< (((31 : Int32) - ((c1 &&& (2147483647 : Int32)) % le)) &&& 31)))), .unset] [])) _
            refine XS.goto X9.here hx rfl (pc0 := 124) (pc' := 133) rfl (hb hby at_124) (by decide) (by decide) ?_
            exact Steps.refl _
        · refine ⟨(ad ^^^ c1), (by rw [if_neg c12, if_neg c13, if_neg c15]), S11.trans ?_⟩
          refine XS.iload X9.here hx rfl (hb hby at_51) rfl ?_
          show Steps p.tables e below (T9.setTop (mkF m 53 #[.val (.int a1), .val (.int p1), .val (.int c1), .val (.int md), .val (.int le), .val (.int ad), .val (.ref b), .val (.int se), .unset, .unset] [(.int se)])) _
          refine XS.ifYes X9.here hx rfl (pc0 := 53) (pc' := 62) rfl (hb hby at_53) rfl (XT.i0_ne_t c12) (by decide) (by decide) ?_
          show Steps p.tables e below (T9.setTop (mkF m 62 #[.val (.int a1), .val (.int p1), .val (.int c1), .val (.int md), .val (.int le), .val (.int ad), .val (.ref b), .val (.int se), .unset, .unset] [])) _
          refine XS.iload X9.here hx rfl (hb hby at_62) rfl ?_
          show Steps p.tables e below (T9.setTop (mkF m 64 #[.val (.int a1), .val (.int p1), .val (.int c1), .val (.int md), .val (.int le), .val (.int ad), .val (.ref b), .val (.int se), .unset, .unset] [(.int se)])) _
          refine XS.iconst X9.here hx rfl (hb hby at_64) ?_
          show Steps p.tables e below (T9.setTop (mkF m 65 #[.val (.int a1), .val (.int p1), .val (.int c1), .val (.int md), .val (.int le), .val (.int ad), .val (.ref b), .val (.int se), .unset, .unset] [(.int (1 : Int32)), (.int se)])) _
          refine XS.icmpYes X9.here hx rfl (pc0 := 65) (pc' := 92) rfl (hb hby at_65) rfl (XT.ii_ne_t c13) (by decide) (by decide) ?_
          show Steps p.tables e below (T9.setTop (mkF m 92 #[.val (.int a1), .val (.int p1), .val (.int c1), .val (.int md), .val (.int le), .val (.int ad), .val (.ref b), .val (.int se), .unset, .unset] [])) _
          refine XS.iload X9.here hx rfl (hb hby at_92) rfl ?_
          show Steps p.tables e below (T9.setTop (mkF m 94 #[.val (.int a1), .val (.int p1), .val (.int c1), .val (.int md), .val (.int le), .val (.int ad), .val (.ref b), .val (.int se), .unset, .unset] [(.int se)])) _
          refine XS.iconst X9.here hx rfl (hb hby at_94) ?_
          show Steps p.tables e below (T9.setTop (mkF m 95 #[.val (.int a1), .val (.int p1), .val (.int c1), .val (.int md), .val (.int le), .val (.int ad), .val (.ref b), .val (.int se), .unset, .unset] [(.int (2 : Int32)), (.int se)])) _
          refine XS.icmpYes X9.here hx rfl (pc0 := 95) (pc' := 127) rfl (hb hby at_95) rfl (XT.ii_ne_t c15) (by decide) (by decide) ?_
          show Steps p.tables e below (T9.setTop (mkF m 127 #[.val (.int a1), .val (.int p1), .val (.int c1), .val (.int md), .val (.int le), .val (.int ad), .val (.ref b), .val (.int se), .unset, .unset] [])) _
          refine XS.iload X9.here hx rfl (hb hby at_127) rfl ?_
          show Steps p.tables e below (T9.setTop (mkF m 129 #[.val (.int a1), .val (.int p1), .val (.int c1), .val (.int md), .val (.int le), .val (.int ad), .val (.ref b), .val (.int se), .unset, .unset] [(.int ad)])) _
          refine XS.iloadN X9.here hx rfl (hb hby at_129) rfl ?_
          show Steps p.tables e below (T9.setTop (mkF m 130 #[.val (.int a1), .val (.int p1), .val (.int c1), .val (.int md), .val (.int le), .val (.int ad), .val (.ref b), .val (.int se), .unset, .unset] [(.int c1), (.int ad)])) _
          refine XS.ixor X9.here hx rfl (hb hby at_130) rfl ?_
          show Steps p.tables e below (T9.setTop (mkF m 131 #[.val (.int a1), .val (.int p1), .val (.int c1), .val (.int md), .val (.int le), .val (.int ad), .val (.ref b), .val (.int se), .unset, .unset] [(.int (ad ^^^ c1))])) _
          refine XS.istore X9.here hx rfl (hb hby at_131) rfl (l' := #[.val (.int a1), .val (.int p1), .val (.int c1), .val (.int md), .val (.int le), .val (.int ad), .val (.ref b), .val (.int se), .val (.int (ad ^^^ c1)), .unset]) rfl ?_
          exact Steps.refl _
  clear h_cd
  have S18 : Steps p.tables e below Ω (T9.setTop (mkF m 135 #[.val (.int a1), .val (.int p1), .val (.int c1), .val (.int md), .val (.int le), .val (.int ad), .val (.ref b), .val (.int se), .val (.int cd), .unset] [(.int le)])) := by
    refine S17.trans ?_
    refine XS.iload X9.here hx rfl (hb hby at_133) rfl ?_
    exact Steps.refl _
  obtain ⟨ex, h_ex, S21⟩ : ∃ (ex : Int32), ex = (if le = (0 : Int32) then (1 : Int32) else (if (((cd ^^^ ad).toUInt32 >>> (((32 : Int32) - le) &&& 31).toUInt32).toInt32) = (0 : Int32) then (1 : Int32) else (0 : Int32))) ∧ Steps p.tables e below Ω (T9.setTop (mkF m 157 #[.val (.int a1), .val (.int p1), .val (.int c1), .val (.int md), .val (.int le), .val (.int ad), .val (.ref b), .val (.int se), .val (.int cd), .unset] [(.int ex)])) := by
    by_cases c19 : le = (0 : Int32)
    · refine ⟨(1 : Int32), (by rw [if_pos c19]), S18.trans ?_⟩
      refine XS.ifYes X9.here hx rfl (pc0 := 135) (pc' := 152) rfl (hb hby at_135) rfl (XT.i0_eq_t c19) (by decide) (by decide) ?_
      show Steps p.tables e below (T9.setTop (mkF m 152 #[.val (.int a1), .val (.int p1), .val (.int c1), .val (.int md), .val (.int le), .val (.int ad), .val (.ref b), .val (.int se), .val (.int cd), .unset] [])) _
      refine XS.iconst X9.here hx rfl (hb hby at_152) ?_
      show Steps p.tables e below (T9.setTop (mkF m 153 #[.val (.int a1), .val (.int p1), .val (.int c1), .val (.int md), .val (.int le), .val (.int ad), .val (.ref b), .val (.int se), .val (.int cd), .unset] [(.int (1 : Int32))])) _
      refine XS.goto X9.here hx rfl (pc0 := 153) (pc' := 157) rfl (hb hby at_153) (by decide) (by decide) ?_
      exact Steps.refl _
    · by_cases c20 : (((cd ^^^ ad).toUInt32 >>> (((32 : Int32) - le) &&& 31).toUInt32).toInt32) = (0 : Int32)
      · refine ⟨(1 : Int32), (by rw [if_neg c19, if_pos c20]), S18.trans ?_⟩
        refine XS.ifNo X9.here hx rfl (hb hby at_135) rfl (XT.i0_eq_f c19) ?_
        show Steps p.tables e below (T9.setTop (mkF m 138 #[.val (.int a1), .val (.int p1), .val (.int c1), .val (.int md), .val (.int le), .val (.int ad), .val (.ref b), .val (.int se), .val (.int cd), .unset] [])) _
        refine XS.iload X9.here hx rfl (hb hby at_138) rfl ?_
        show Steps p.tables e below (T9.setTop (mkF m 140 #[.val (.int a1), .val (.int p1), .val (.int c1), .val (.int md), .val (.int le), .val (.int ad), .val (.ref b), .val (.int se), .val (.int cd), .unset] [(.int cd)])) _
        refine XS.iload X9.here hx rfl (hb hby at_140) rfl ?_
        show Steps p.tables e below (T9.setTop (mkF m 142 #[.val (.int a1), .val (.int p1), .val (.int c1), .val (.int md), .val (.int le), .val (.int ad), .val (.ref b), .val (.int se), .val (.int cd), .unset] [(.int ad), (.int cd)])) _
        refine XS.ixor X9.here hx rfl (hb hby at_142) rfl ?_
        show Steps p.tables e below (T9.setTop (mkF m 143 #[.val (.int a1), .val (.int p1), .val (.int c1), .val (.int md), .val (.int le), .val (.int ad), .val (.ref b), .val (.int se), .val (.int cd), .unset] [(.int (cd ^^^ ad))])) _
        refine XS.bipush X9.here hx rfl (hb hby at_143) ?_
        show Steps p.tables e below (T9.setTop (mkF m 145 #[.val (.int a1), .val (.int p1), .val (.int c1), .val (.int md), .val (.int le), .val (.int ad), .val (.ref b), .val (.int se), .val (.int cd), .unset] [(.int (32 : Int32)), (.int (cd ^^^ ad))])) _
        refine XS.iload X9.here hx rfl (hb hby at_145) rfl ?_
        show Steps p.tables e below (T9.setTop (mkF m 147 #[.val (.int a1), .val (.int p1), .val (.int c1), .val (.int md), .val (.int le), .val (.int ad), .val (.ref b), .val (.int se), .val (.int cd), .unset] [(.int le), (.int (32 : Int32)), (.int (cd ^^^ ad))])) _
        refine XS.isub X9.here hx rfl (hb hby at_147) rfl ?_
        show Steps p.tables e below (T9.setTop (mkF m 148 #[.val (.int a1), .val (.int p1), .val (.int c1), .val (.int md), .val (.int le), .val (.int ad), .val (.ref b), .val (.int se), .val (.int cd), .unset] [(.int ((32 : Int32) - le)), (.int (cd ^^^ ad))])) _
        refine XS.iushr X9.here hx rfl (hb hby at_148) rfl ?_
        show Steps p.tables e below (T9.setTop (mkF m 149 #[.val (.int a1), .val (.int p1), .val (.int c1), .val (.int md), .val (.int le), .val (.int ad), .val (.ref b), .val (.int se), .val (.int cd), .unset] [(.int (((cd ^^^ ad).toUInt32 >>> (((32 : Int32) - le) &&& 31).toUInt32).toInt32))])) _
        refine XS.ifNo X9.here hx rfl (hb hby at_149) rfl (XT.i0_ne_f c20) ?_
        show Steps p.tables e below (T9.setTop (mkF m 152 #[.val (.int a1), .val (.int p1), .val (.int c1), .val (.int md), .val (.int le), .val (.int ad), .val (.ref b), .val (.int se), .val (.int cd), .unset] [])) _
        refine XS.iconst X9.here hx rfl (hb hby at_152) ?_
        show Steps p.tables e below (T9.setTop (mkF m 153 #[.val (.int a1), .val (.int p1), .val (.int c1), .val (.int md), .val (.int le), .val (.int ad), .val (.ref b), .val (.int se), .val (.int cd), .unset] [(.int (1 : Int32))])) _
        refine XS.goto X9.here hx rfl (pc0 := 153) (pc' := 157) rfl (hb hby at_153) (by decide) (by decide) ?_
        exact Steps.refl _
      · refine ⟨(0 : Int32), (by rw [if_neg c19, if_neg c20]), S18.trans ?_⟩
        refine XS.ifNo X9.here hx rfl (hb hby at_135) rfl (XT.i0_eq_f c19) ?_
        show Steps p.tables e below (T9.setTop (mkF m 138 #[.val (.int a1), .val (.int p1), .val (.int c1), .val (.int md), .val (.int le), .val (.int ad), .val (.ref b), .val (.int se), .val (.int cd), .unset] [])) _
        refine XS.iload X9.here hx rfl (hb hby at_138) rfl ?_
        show Steps p.tables e below (T9.setTop (mkF m 140 #[.val (.int a1), .val (.int p1), .val (.int c1), .val (.int md), .val (.int le), .val (.int ad), .val (.ref b), .val (.int se), .val (.int cd), .unset] [(.int cd)])) _
        refine XS.iload X9.here hx rfl (hb hby at_140) rfl ?_
        show Steps p.tables e below (T9.setTop (mkF m 142 #[.val (.int a1), .val (.int p1), .val (.int c1), .val (.int md), .val (.int le), .val (.int ad), .val (.ref b), .val (.int se), .val (.int cd), .unset] [(.int ad), (.int cd)])) _
        refine XS.ixor X9.here hx rfl (hb hby at_142) rfl ?_
        show Steps p.tables e below (T9.setTop (mkF m 143 #[.val (.int a1), .val (.int p1), .val (.int c1), .val (.int md), .val (.int le), .val (.int ad), .val (.ref b), .val (.int se), .val (.int cd), .unset] [(.int (cd ^^^ ad))])) _
        refine XS.bipush X9.here hx rfl (hb hby at_143) ?_
        show Steps p.tables e below (T9.setTop (mkF m 145 #[.val (.int a1), .val (.int p1), .val (.int c1), .val (.int md), .val (.int le), .val (.int ad), .val (.ref b), .val (.int se), .val (.int cd), .unset] [(.int (32 : Int32)), (.int (cd ^^^ ad))])) _
        refine XS.iload X9.here hx rfl (hb hby at_145) rfl ?_
        show Steps p.tables e below (T9.setTop (mkF m 147 #[.val (.int a1), .val (.int p1), .val (.int c1), .val (.int md), .val (.int le), .val (.int ad), .val (.ref b), .val (.int se), .val (.int cd), .unset] [(.int le), (.int (32 : Int32)), (.int (cd ^^^ ad))])) _
        refine XS.isub X9.here hx rfl (hb hby at_147) rfl ?_
        show Steps p.tables e below (T9.setTop (mkF m 148 #[.val (.int a1), .val (.int p1), .val (.int c1), .val (.int md), .val (.int le), .val (.int ad), .val (.ref b), .val (.int se), .val (.int cd), .unset] [(.int ((32 : Int32) - le)), (.int (cd ^^^ ad))])) _
        refine XS.iushr X9.here hx rfl (hb hby at_148) rfl ?_
        show Steps p.tables e below (T9.setTop (mkF m 149 #[.val (.int a1), .val (.int p1), .val (.int c1), .val (.int md), .val (.int le), .val (.int ad), .val (.ref b), .val (.int se), .val (.int cd), .unset] [(.int (((cd ^^^ ad).toUInt32 >>> (((32 : Int32) - le) &&& 31).toUInt32).toInt32))])) _
        refine XS.ifYes X9.here hx rfl (pc0 := 149) (pc' := 156) rfl (hb hby at_149) rfl (XT.i0_ne_t c20) (by decide) (by decide) ?_
        show Steps p.tables e below (T9.setTop (mkF m 156 #[.val (.int a1), .val (.int p1), .val (.int c1), .val (.int md), .val (.int le), .val (.int ad), .val (.ref b), .val (.int se), .val (.int cd), .unset] [])) _
        refine XS.iconst X9.here hx rfl (hb hby at_156) ?_
        exact Steps.refl _
  have S22 : Steps p.tables e below Ω (T9.setTop (mkF m 163 #[.val (.int a1), .val (.int p1), .val (.int c1), .val (.int md), .val (.int le), .val (.int ad), .val (.ref b), .val (.int se), .val (.int cd), .val (.int ex)] [(.int cd), (.ref b)])) := by
    refine S21.trans ?_
    refine XS.istore X9.here hx rfl (hb hby at_157) rfl (l' := #[.val (.int a1), .val (.int p1), .val (.int c1), .val (.int md), .val (.int le), .val (.int ad), .val (.ref b), .val (.int se), .val (.int cd), .val (.int ex)]) rfl ?_
    show Steps p.tables e below (T9.setTop (mkF m 159 #[.val (.int a1), .val (.int p1), .val (.int c1), .val (.int md), .val (.int le), .val (.int ad), .val (.ref b), .val (.int se), .val (.int cd), .val (.int ex)] [])) _
    refine XS.aload X9.here hx rfl (hb hby at_159) rfl rfl ?_
    show Steps p.tables e below (T9.setTop (mkF m 161 #[.val (.int a1), .val (.int p1), .val (.int c1), .val (.int md), .val (.int le), .val (.int ad), .val (.ref b), .val (.int se), .val (.int cd), .val (.int ex)] [(.ref b)])) _
    refine XS.iload X9.here hx rfl (hb hby at_161) rfl ?_
    exact Steps.refl _
  obtain ⟨cq23, kq23, q23a, q23b, q23c⟩ := isOf hZ rfl E9
  obtain ⟨_, _, ⟨T23, L23, k23, n23⟩, -, X23, ⟨Lc23, hQ23, l23, y23, z23⟩, st23⟩ := X9.virtualBack hx (y := (⟨"com/example/pathsmith/pathsmith/server/Ipv4Prefix", "contains", "(I)Z"⟩ : MethodName)) (z := (⟨"com/example/pathsmith/pathsmith/server/Ipv4Prefix", "contains", "(I)Z"⟩ : MethodName)) hown (mvT hZ (hw _ (List.mem_of_getElem? (i := 22) rfl))) (mvT hZ (hw _ (List.mem_of_getElem? (i := 23) rfl))) (notFace_of_selects (args := #[]) (mvT hZ (hw _ (List.mem_of_getElem? (i := 25) rfl)))) (mvT hZ (hw _ (List.mem_of_getElem? (i := 25) rfl))) (mvT hZ (hw _ (List.mem_of_getElem? (i := 24) rfl))) (by decide) (backOf (W := 0) (rm5 l Z a0 hw [] b cd ad le T9.heap n0 (Nat.le_trans (Nat.le_trans Z0 E6.1) K9.1) F1 F2) hZ (hw _ (List.mem_of_getElem? (i := 26) rfl)) (hw _ (List.mem_of_getElem? (i := 3) rfl)) (by decide) (by decide)) q23a q23c (g := (mkF m 163 #[.val (.int a1), .val (.int p1), .val (.int c1), .val (.int md), .val (.int le), .val (.int ad), .val (.ref b), .val (.int se), .val (.int cd), .val (.int ex)] [(.int cd), (.ref b)])) rfl (by rw [hml]; rfl) (Steps.refl _) (argsL := [(.int cd)]) (rest := []) (lenOf pd_3 rfl) rfl (by show 2 * 0 + _ ≤ _; exact Nat.le_of_eq rfl) (hb hby at_163) (fun _ _ => ⟨rfl, rfl, (by decide : 1 + 0 ≤ _), (by decide : 2 + 0 ≤ _)⟩)
  dsimp only [Pt.U, Pt.locs, Pt.cells, Pt.slots] at X23 l23 y23 z23 st23 hQ23
  subst l23 y23 z23
  obtain ⟨rfl, N23q, e23⟩ := hQ23
  have N23 := Fr.app N9 N23q
  have S24 : Steps p.tables e below Ω (T23.setTop (mkF m 166 #[.val (.int a1), .val (.int p1), .val (.int c1), .val (.int md), .val (.int le), .val (.int ad), .val (.ref b), .val (.int se), .val (.int cd), .val (.int ex)] [(.int (own_con ad le cd))])) := S22.trans st23
  have S25 : Steps p.tables e below Ω (T23.setTop (mkF m 168 #[.val (.int a1), .val (.int p1), .val (.int c1), .val (.int md), .val (.int le), .val (.int ad), .val (.ref b), .val (.int se), .val (.int cd), .val (.int ex)] [(.int ex), (.int (own_con ad le cd))])) := by
    refine S24.trans ?_
    refine XS.iload X23.here hx rfl (hb hby at_166) rfl ?_
    exact Steps.refl _
  have S26 : Steps p.tables e below Ω (T23.setTop (mkF m 176 #[.val (.int a1), .val (.int p1), .val (.int c1), .val (.int md), .val (.int le), .val (.int ad), .val (.ref b), .val (.int se), .val (.int cd), .val (.int ex)] [(.int (1 : Int32))])) := by
    refine S25.trans ?_
    refine XS.icmpNo X23.here hx rfl (hb hby at_168) rfl (XT.ii_ne_f ((by rw [had]; exact own_same a1 le cd : own_con ad le cd = own_ex ad le cd).trans h_ex.symm)) ?_
    show Steps p.tables e below (T23.setTop (mkF m 171 #[.val (.int a1), .val (.int p1), .val (.int c1), .val (.int md), .val (.int le), .val (.int ad), .val (.ref b), .val (.int se), .val (.int cd), .val (.int ex)] [])) _
    refine XS.iconst X23.here hx rfl (hb hby at_171) ?_
    show Steps p.tables e below (T23.setTop (mkF m 172 #[.val (.int a1), .val (.int p1), .val (.int c1), .val (.int md), .val (.int le), .val (.int ad), .val (.ref b), .val (.int se), .val (.int cd), .val (.int ex)] [(.int (1 : Int32))])) _
    refine XS.goto X23.here hx rfl (pc0 := 172) (pc' := 176) rfl (hb hby at_172) (by decide) (by decide) ?_
    exact Steps.refl _
  obtain ⟨fs, hr, hrun, hended, hW, hsame⟩ := X23.leave (v := some (.int (1 : Int32))) (fun h => by rw [Bd.returns] at h; cases h)
  have hfin : Steps p.tables e below Ω (T23.setFrames fs) := by
    refine S26.trans ?_
    exact own_retZ X23 hx Bd.returns (by decide) (hb hby at_176) hr
  rw [hΩ] at hfin
  refine ⟨_, _, hfin, hrun, hended, _, _, rfl, ?_, ⟨_, rfl⟩, hW, hsame.mono (by decide) (by decide)⟩
  show Q0 Z a1 p1 c1 md h0 n0 _ T23.heap _
  rw [e23]
  exact ⟨rfl, N23⟩
set_option maxRecDepth 65536 in
set_option maxHeartbeats 40000000 in
theorem comes_1 {Post : Tables → Env → Array Value → State → Outcome → State → Prop} (hpost : ∀ tb e args s v u, (limb_1_1.after args s (.returned v) u = true ∧ limb_1_2.after args s (.returned v) u = true ∧ True) → FrameEnd s (.returned v) u (Jvm.fieldLocs frame_1_writes args s ++ Jvm.arrayLocs frame_1_arrays args s ++ Jvm.staticLocs frame_1_statics s) 16 128 → Post tb e args s (.returned v) u) :
    ArmFor flags0 classFile x code maxLocals ret World_1 tables_1 room_1 Calls_1 rest_1 Pre_1 Post := by
  intro l hfl _ _ p e ha hc hk s m args below hf hA hF happ hP
  obtain ⟨hcalls, hrest, hpre⟩ := hP
  obtain ⟨-, -, -, hnamed, -, -, -, hat⟩ := (Spec.applies_iff hf).mp happ
  obtain ⟨hg, hn⟩ := and_e (Cond.before_iff.mp (show (Jvm.Cond.and given_1 narrow_1).before args s = true from hpre))
  obtain ⟨gc, g0⟩ := and_e hg
  obtain ⟨k0, g1⟩ := and_e g0
  obtain ⟨k1, g2⟩ := and_e g1
  obtain ⟨k2, g3⟩ := and_e g2
  obtain ⟨w0, w1, w2, w3, rfl⟩ : ∃ w0 w1 w2 w3 : Value, args = #[w0, w1, w2, w3] := by
    have hs : args.size = 4 := by simpa [Cond.value, given_1] using gc
    obtain ⟨L⟩ := args
    match L, hs with
    | [w0, w1, w2, w3], _ => exact ⟨w0, w1, w2, w3, rfl⟩
  have hw := fun d (hd : d ∈ tables_1) => atoms_spec (ws := Jvm.Cond.code x code maxLocals ret :: tables_1) hat d (List.mem_cons_of_mem _ hd)
  have hfit : Fit s := fun {y c} hc i hi => by
    obtain ⟨ha, rfl⟩ := Array.getElem?_eq_some_iff.mp hc
    have q := List.all_eq_true.mp ((Array.all_eq_true_iff_forall_mem.mp hF) _ (Array.getElem_mem ha)) i (List.mem_range.mpr hi)
    simpa [Array.getElem?_eq_getElem hi] using q
  obtain ⟨i0, ei0⟩ := is_v k0
  obtain rfl : w0 = (.int i0) := Option.some.inj ei0
  obtain ⟨i1, ei1⟩ := is_v k1
  obtain rfl : w1 = (.int i1) := Option.some.inj ei1
  obtain ⟨i2, ei2⟩ := is_v k2
  obtain rfl : w2 = (.int i2) := Option.some.inj ei2
  obtain ⟨i3, ei3⟩ := is_v g3
  obtain rfl : w3 = (.int i3) := Option.some.inj ei3
  obtain ⟨n, o, h1, h2, h3, _, L, rfl, ⟨rfl, N⟩, hq⟩ := rm0 l s _ hw tables_1 i0 i1 i2 i3  s.heap s.heap.size (Nat.le_refl _)  p e ha hc hk s m _ below hf ((Spec.applies_iff_loose hf).mp happ).1 ⟨rfl, State.Warmed39.refl s, rfl⟩ trivial
  refine ⟨n, _, h1, h2, h3, hpost _ _ _ _ _ _ ⟨Cond.after_iff.mpr rfl, Cond.after_iff.mpr (eq_i res_at (Term.int_eval (1)) rfl), trivial⟩ ⟨hq.1, hq.2.1, (hq.2.2.sift fun y hy => Or.inr (N y hy)).mono (by decide) (by decide)⟩⟩
theorem main_1_1 : Claimed_1_1 := comes_1 fun _ _ _ _ _ _ h hF => ⟨h.1, hF⟩
theorem main_1_2 : Claimed_1_2 := comes_1 fun _ _ _ _ _ _ h hF => ⟨h.2.1, hF⟩
end Jvm.Pilot.@@N@@
namespace Jvm.Pilot.@@N@@
open Jvm Jvm.ClassFile Sem Op Lib Jvm.Free Jvm.Stand Jvm.Pilot.@@N@@.Jvm.D
/-! MADE BY PROGRAM (witnessworld.py) out of the Statement's table words and the real class files: 10 classes; the members and pool entries that the words name. The judged class is class 1, her method 1. -/
namespace start1
open Jvm.ClassFile
def u (s : String) : CpInfo := .utf8 (stringToUtf16 s)
/-- a pool by its gaps: so many unusable entries, then the entry; so many at the end -/
def gap : Nat → List CpInfo → List CpInfo
  | 0, r => r
  | n + 1, r => .unusable :: gap n r
def poolList (es : List (Nat × CpInfo)) (last : Nat) : List CpInfo := es.foldr (fun e r => gap e.1 (e.2 :: r)) (gap last [])
def pool (es : List (Nat × CpInfo)) (last : Nat) : Array CpInfo := ⟨poolList es last⟩
def fileOf (pool : Array CpInfo) (this : Nat) (attrs : Array Attribute := #[]) (ms : Array MethodInfo := #[]) (fl : Nat := 33) (sup : Nat := 0) (ifs : Array Nat := #[]) (fds : Array FieldInfo := #[]) : ClassFile where
  minorVersion := 0
  majorVersion := 65
  constantPool := pool
  accessFlags := fl
  thisClass := this
  superClass := sup
  interfaces := ifs
  fields := fds
  methods := ms
  attributes := attrs
def plain (name : String) (sup : Option ClassId) : Class where
  name := name
  kind := .ordinary
  loader := none
  accessFlags := 33
  super := sup
  interfaces := #[]
  cf := none
  fields := #[]
  methods := #[]
  instanceTypes := #[]
  staticTypes := #[]
  resolved := #[]
  callSites := []
  init := .initialized
  statics := none
  mirror := none

def pool0 : Array CpInfo := pool [(5, u "<init>"), (0, u "()V"), (1, .class_ 10), (1, u "java/lang/Object")] 113

def k0c0 : Code := { maxStack := 0, maxLocals := 1, code := object_method_1_code, exceptionTable := #[], attributes := #[] }
def k0m0 : Method := { name := "<init>", desc := "()V", sig := { parameters := [], returnType := none }, accessFlags := 1, code := some k0c0 }
/-- java/lang/Object -/
def k0 : Class := { plain "java/lang/Object" none with
  accessFlags := 33
  interfaces := #[]
  cf := some (fileOf pool0 8 #[] #[{ accessFlags := 1, nameIndex := 5, descriptorIndex := 6, attributes := #[] }] 33 0 #[] #[])
  fields := #[]
  methods := #[k0m0]
  instanceTypes := #[]
  staticTypes := #[]
  resolved := Array.replicate 124 none
  statics := none }

def pool1 : Array CpInfo := pool [(2, .class_ 4), (1, u "java/lang/Object"), (0, u "<init>"), (0, u "()V"), (0, .integer 2147483647), (0, .class_ 9), (0, u "com/example/pathsmith/pathsmith/server/Ipv4Prefix"), (0, .methodref 8 11), (0, .nameAndType 5 12), (0, u "(II)V"), (0, .methodref 8 14), (0, .nameAndType 15 16), (0, u "contains"), (0, u "(I)Z"), (0, .class_ 18), (0, u "com/example/pathsmith/pathsmith/server/Ipv4PrefixContainsPinLaw"), (2, u "law"), (0, u "(IIII)Z")] 3

def k1m0 : Method := { name := "<init>", desc := "()V", sig := { parameters := [], returnType := none }, accessFlags := 2, code := none }
def k1c1 : Code := { maxStack := 5, maxLocals := 10, code := code, exceptionTable := #[], attributes := #[] }
def k1m1 : Method := { name := "law", desc := "(IIII)Z", sig := { parameters := [.int, .int, .int, .int], returnType := some .boolean }, accessFlags := 9, code := some k1c1 }
/-- com/example/pathsmith/pathsmith/server/Ipv4PrefixContainsPinLaw -/
def k1 : Class := { plain "com/example/pathsmith/pathsmith/server/Ipv4PrefixContainsPinLaw" (some 0) with
  accessFlags := 49
  interfaces := #[]
  cf := some (fileOf pool1 17 #[] #[{ accessFlags := 2, nameIndex := 5, descriptorIndex := 6, attributes := #[] }, { accessFlags := 9, nameIndex := 21, descriptorIndex := 22, attributes := #[] }] 49 2 #[] #[])
  fields := #[]
  methods := #[k1m0, k1m1]
  instanceTypes := #[]
  staticTypes := #[]
  resolved := Array.replicate 26 none
  statics := none }

def pool2 : Array CpInfo := pool [(1, .methodref 2 3), (0, .class_ 4), (0, .nameAndType 5 6), (0, u "java/lang/Object"), (0, u "<init>"), (0, u "()V"), (0, .class_ 8), (0, u "java/lang/Record")] 13

def k2c0 : Code := { maxStack := 1, maxLocals := 1, code := jdk_30_method_1_code, exceptionTable := #[], attributes := #[] }
def k2m0 : Method := { name := "<init>", desc := "()V", sig := { parameters := [], returnType := none }, accessFlags := 4, code := some k2c0 }
/-- java/lang/Record -/
def k2 : Class := { plain "java/lang/Record" (some 0) with
  accessFlags := 1057
  interfaces := #[]
  cf := some (fileOf pool2 7 #[] #[{ accessFlags := 4, nameIndex := 5, descriptorIndex := 6, attributes := #[] }] 1057 2 #[] #[])
  fields := #[]
  methods := #[k2m0]
  instanceTypes := #[]
  staticTypes := #[]
  resolved := Array.replicate 22 none
  statics := none }

def pool3 : Array CpInfo := pool [(1, .methodref 2 3), (0, .class_ 4), (0, .nameAndType 5 6), (0, u "java/lang/Record"), (0, u "<init>"), (0, u "()V"), (9, .methodref 17 18), (0, .class_ 19), (0, .nameAndType 20 21), (0, u "com/example/pathsmith/pathsmith/server/Ipv4Prefix"), (0, u "mask"), (0, u "(I)I"), (8, .fieldref 17 31), (0, .nameAndType 32 33), (0, u "address"), (0, u "I"), (0, .fieldref 17 35), (0, .nameAndType 36 33), (0, u "length"), (2, u "FORM"), (0, u "Ljava/util/regex/Pattern;"), (43, u "(II)V"), (24, u "contains"), (0, u "(I)Z")] 36

def k3c0 : Code := { maxStack := 4, maxLocals := 3, code := prog_73_method_1_code, exceptionTable := #[], attributes := #[] }
def k3m0 : Method := { name := "<init>", desc := "(II)V", sig := { parameters := [.int, .int], returnType := none }, accessFlags := 1, code := some k3c0 }
def k3c1 : Code := { maxStack := 2, maxLocals := 2, code := prog_73_method_3_code, exceptionTable := #[], attributes := #[] }
def k3m1 : Method := { name := "contains", desc := "(I)Z", sig := { parameters := [.int], returnType := some .boolean }, accessFlags := 1, code := some k3c1 }
def k3c2 : Code := { maxStack := 3, maxLocals := 1, code := prog_73_method_4_code, exceptionTable := #[], attributes := #[] }
def k3m2 : Method := { name := "mask", desc := "(I)I", sig := { parameters := [.int], returnType := some .int }, accessFlags := 10, code := some k3c2 }
/-- com/example/pathsmith/pathsmith/server/Ipv4Prefix -/
def k3 : Class := { plain "com/example/pathsmith/pathsmith/server/Ipv4Prefix" (some 2) with
  accessFlags := 49
  interfaces := #[]
  cf := some (fileOf pool3 17 #[] #[{ accessFlags := 1, nameIndex := 5, descriptorIndex := 84, attributes := #[] }, { accessFlags := 1, nameIndex := 109, descriptorIndex := 110, attributes := #[] }, { accessFlags := 10, nameIndex := 20, descriptorIndex := 21, attributes := #[] }] 49 2 #[] #[{ accessFlags := 18, nameIndex := 32, descriptorIndex := 33, attributes := #[] }, { accessFlags := 18, nameIndex := 36, descriptorIndex := 33, attributes := #[] }, { accessFlags := 26, nameIndex := 39, descriptorIndex := 40, attributes := #[] }])
  fields := #[{ name := "address", type := .int, accessFlags := 18, slot := 0, constantValue := 0 }, { name := "length", type := .int, accessFlags := 18, slot := 1, constantValue := 0 }, { name := "FORM", type := (.object "java/util/regex/Pattern"), accessFlags := 26, slot := 0, constantValue := 0 }]
  methods := #[k3m0, k3m1, k3m2]
  instanceTypes := #[.int, .int]
  staticTypes := #[(.object "java/util/regex/Pattern")]
  resolved := Array.replicate 147 none
  statics := none }

def pool4 : Array CpInfo := pool [(1, u "java/lang/Cloneable"), (0, .class_ 1), (0, u "java/lang/Object"), (0, .class_ 3)] 3

/-- java/lang/Cloneable -/
def k4 : Class := { plain "java/lang/Cloneable" (some 0) with
  accessFlags := 1537
  interfaces := #[]
  cf := some (fileOf pool4 2 #[] #[] 1537 4 #[] #[])
  fields := #[]
  methods := #[]
  instanceTypes := #[]
  staticTypes := #[]
  resolved := Array.replicate 8 none
  statics := none }

def pool5 : Array CpInfo := pool [(1, u "java/io/Serializable"), (0, .class_ 1), (0, u "java/lang/Object"), (0, .class_ 3)] 3

/-- java/io/Serializable -/
def k5 : Class := { plain "java/io/Serializable" (some 0) with
  accessFlags := 1537
  interfaces := #[]
  cf := some (fileOf pool5 2 #[] #[] 1537 4 #[] #[])
  fields := #[]
  methods := #[]
  instanceTypes := #[]
  staticTypes := #[]
  resolved := Array.replicate 8 none
  statics := none }

/-- the primitive byte -/
def k6 : Class := { plain "byte" none with kind := .primitive 'B', accessFlags := 0x411 }
/-- [B -/
def k7 : Class := { plain "[B" (some 0) with kind := .array 6 .byte, interfaces := #[4, 5], accessFlags := 1041 }

/-- the primitive int -/
def k8 : Class := { plain "int" none with kind := .primitive 'I', accessFlags := 0x411 }
/-- [I -/
def k9 : Class := { plain "[I" (some 0) with kind := .array 8 .int, interfaces := #[4, 5], accessFlags := 1041 }

def heap : Heap := #[]
def classes : Array Class := #[k0, k1, k2, k3, k4, k5, k6, k7, k8, k9]
def interned : List (Array UInt16 × Addr) := []
def slotsUsed : Nat := 0
def theMethod : MethodId := ⟨1, 1⟩
def args0 : Array Value := #[.int 5, .int 300, .int 7, .int 1]
def aboutOver (below : List Frame) : State where
  vm := { classes := classes, interned := interned.toArray }
  heap := heap
  slotsUsed := slotsUsed
  threads := #[{ frames := .invoking theMethod args0 :: below }]
def below0 : List Frame := [.native { method := ⟨0, 0⟩, args := #[] }]
def about1 : State := aboutOver below0
def p0 : Program := .bare "" "" ""
def e0 : Env := launch0.env 0 0 0
theorem w_frames : about1.frames = Frame.invoking theMethod args0 :: below0 := rfl
set_option maxRecDepth 65536 in
theorem w_args : argsFit about1.vm theMethod args0 = true := by decide +kernel
set_option maxRecDepth 65536 in
theorem w_heap : heapFits about1 = true := by decide +kernel
set_option maxRecDepth 65536 in
theorem w_runnable : about1.curStatus? = some .runnable := by decide +kernel
set_option maxRecDepth 65536 in
theorem w_alone : about1.alone = true := by decide +kernel
set_option maxRecDepth 65536 in
theorem w_named : about1.methodNamed? x = some theMethod := by decide +kernel
set_option maxRecDepth 65536 in
theorem w_hears : about1.hears theMethod below0 = true := by decide +kernel
set_option maxRecDepth 65536 in
theorem w_ripe : about1.ripe theMethod args0 below0 = true := by decide +kernel
theorem w_running : about1.status = .running := rfl
set_option maxRecDepth 65536 in
theorem w_room : about1.hasRoom e0.platform room_1 = true :=
  launch0.hasRoom_least _ room_1 (by decide +kernel) (by decide +kernel) (by decide +kernel) (by decide +kernel) (by decide +kernel) (by decide +kernel)
theorem allAtoms_all (ts : List Jvm.Cond) (a : Array Jvm.Value) (st : Jvm.State) : (allAtoms ts).before a st = ts.all (fun c => c.before a st) := by
  induction ts with
  | nil => rfl
  | cons c t ih =>
    show (Jvm.Cond.and c (allAtoms t)).before a st = _
    rw [Jvm.Cond.before_and, ih, List.all_cons]
def words1 : List Jvm.Cond := Jvm.Cond.code x code maxLocals ret :: tables_1
/-- a 'code' word, met by the world's own term for the bytes: nothing is compared byte by byte -/
theorem code_word {y : MethodName} {bytes : ByteArray} {mx : Nat} {rt : Option FieldType} {a : Array Value} {s : State} {m : MethodId} {meth : Method} {c : Code} (h1 : s.methodNamed? y = some m) (h2 : s.vm.method? m = some meth) (h3 : meth.code = some c) (h4 : c.code = bytes)
    (h5 : (c.maxLocals == mx && c.exceptionTable.isEmpty && decide (c.maxStack ≤ mostOperands) && decide (meth.sig.returnType = rt) && !meth.locks && decide (parseMethodDescriptor y.desc = some meth.sig)) = true) : (Jvm.Cond.code y bytes mx rt).before a s = true := by
  simp only [Bool.and_eq_true, beq_iff_eq, Bool.not_eq_true', decide_eq_true_eq] at h5
  obtain ⟨⟨⟨⟨⟨g1, g2⟩, g3⟩, g4⟩, g5⟩, g6⟩ := h5
  simp [Cond.before, Cond.holds, Cond.value, h1, h2, h3, h4, g1, g2, g3, g4, g5, g6]
def isCode : Jvm.Cond → Bool
  | .code _ _ _ _ => true
  | _ => false
theorem all_split {L : List Jvm.Cond} {P : Jvm.Cond → Bool} (h1 : L.all (fun c => isCode c || P c) = true) (h2 : ∀ c ∈ L.filter isCode, P c = true) : L.all P = true := by
  refine List.all_eq_true.mpr fun c hc => ?_
  have h := List.all_eq_true.mp h1 c hc
  rcases Bool.eq_false_or_eq_true (isCode c) with hi | hi
  · exact h2 c (List.mem_filter.mpr ⟨hc, hi⟩)
  · simpa [hi] using h
set_option maxRecDepth 65536 in
theorem w_c0 : (Jvm.Cond.code x code maxLocals ret).before args0 about1 = true := code_word (m := ⟨1, 1⟩) (meth := k1m1) (c := k1c1) (by decide +kernel) rfl rfl rfl (by decide +kernel)
set_option maxRecDepth 65536 in
theorem w_c1 : (Jvm.Cond.code ({ cls := "com/example/pathsmith/pathsmith/server/Ipv4Prefix", name := "<init>", desc := "(II)V" } : Jvm.MethodName) prog_73_method_1_code (3 : Nat) (Option.none : Option Jvm.ClassFile.FieldType)).before args0 about1 = true := code_word (m := ⟨3, 0⟩) (meth := k3m0) (c := k3c0) (by decide +kernel) rfl rfl rfl (by decide +kernel)
set_option maxRecDepth 65536 in
theorem w_c2 : (Jvm.Cond.code ({ cls := "java/lang/Record", name := "<init>", desc := "()V" } : Jvm.MethodName) jdk_30_method_1_code (1 : Nat) (Option.none : Option Jvm.ClassFile.FieldType)).before args0 about1 = true := code_word (m := ⟨2, 0⟩) (meth := k2m0) (c := k2c0) (by decide +kernel) rfl rfl rfl (by decide +kernel)
set_option maxRecDepth 65536 in
theorem w_c3 : (Jvm.Cond.code ({ cls := "java/lang/Object", name := "<init>", desc := "()V" } : Jvm.MethodName) object_method_1_code (1 : Nat) (Option.none : Option Jvm.ClassFile.FieldType)).before args0 about1 = true := code_word (m := ⟨0, 0⟩) (meth := k0m0) (c := k0c0) (by decide +kernel) rfl rfl rfl (by decide +kernel)
set_option maxRecDepth 65536 in
theorem w_c4 : (Jvm.Cond.code ({ cls := "com/example/pathsmith/pathsmith/server/Ipv4Prefix", name := "mask", desc := "(I)I" } : Jvm.MethodName) prog_73_method_4_code (1 : Nat) (Option.some Jvm.ClassFile.FieldType.int)).before args0 about1 = true := code_word (m := ⟨3, 2⟩) (meth := k3m2) (c := k3c2) (by decide +kernel) rfl rfl rfl (by decide +kernel)
set_option maxRecDepth 65536 in
theorem w_c5 : (Jvm.Cond.code ({ cls := "com/example/pathsmith/pathsmith/server/Ipv4Prefix", name := "contains", desc := "(I)Z" } : Jvm.MethodName) prog_73_method_3_code (2 : Nat) (Option.some Jvm.ClassFile.FieldType.boolean)).before args0 about1 = true := code_word (m := ⟨3, 1⟩) (meth := k3m1) (c := k3c1) (by decide +kernel) rfl rfl rfl (by decide +kernel)
def codes1 : List Jvm.Cond := [Jvm.Cond.code x code maxLocals ret, Jvm.Cond.code ({ cls := "com/example/pathsmith/pathsmith/server/Ipv4Prefix", name := "<init>", desc := "(II)V" } : Jvm.MethodName) prog_73_method_1_code (3 : Nat) (Option.none : Option Jvm.ClassFile.FieldType), Jvm.Cond.code ({ cls := "java/lang/Record", name := "<init>", desc := "()V" } : Jvm.MethodName) jdk_30_method_1_code (1 : Nat) (Option.none : Option Jvm.ClassFile.FieldType), Jvm.Cond.code ({ cls := "java/lang/Object", name := "<init>", desc := "()V" } : Jvm.MethodName) object_method_1_code (1 : Nat) (Option.none : Option Jvm.ClassFile.FieldType), Jvm.Cond.code ({ cls := "com/example/pathsmith/pathsmith/server/Ipv4Prefix", name := "mask", desc := "(I)I" } : Jvm.MethodName) prog_73_method_4_code (1 : Nat) (Option.some Jvm.ClassFile.FieldType.int), Jvm.Cond.code ({ cls := "com/example/pathsmith/pathsmith/server/Ipv4Prefix", name := "contains", desc := "(I)Z" } : Jvm.MethodName) prog_73_method_3_code (2 : Nat) (Option.some Jvm.ClassFile.FieldType.boolean)]
set_option maxRecDepth 65536 in
theorem codes_eq : words1.filter isCode = codes1 := rfl
theorem w_codes : ∀ c ∈ words1.filter isCode, c.before args0 about1 = true := by
  rw [codes_eq]
  intro c hc
  simp only [codes1, List.mem_cons, List.not_mem_nil, or_false] at hc
  rcases hc with rfl | rfl | rfl | rfl | rfl | rfl
  · exact w_c0
  · exact w_c1
  · exact w_c2
  · exact w_c3
  · exact w_c4
  · exact w_c5
set_option maxRecDepth 65536 in
theorem w_t1 : (words1.take 24).all (fun c => isCode c || c.before args0 about1) = true := by decide +kernel
set_option maxRecDepth 65536 in
theorem w_t2 : (words1.drop 24).all (fun c => isCode c || c.before args0 about1) = true := by decide +kernel
theorem w_tables : (allAtoms (Jvm.Cond.code x code maxLocals ret :: tables_1)).before args0 about1 = true := by
  rw [allAtoms_all]
  show words1.all (fun c => c.before args0 about1) = true
  refine all_split ?_ w_codes
  rw [← List.take_append_drop 24 words1, List.all_append, w_t1, w_t2]
  rfl
set_option maxRecDepth 65536 in
theorem w_case : (Jvm.Cond.and given_1 narrow_1).before args0 about1 = true := by decide +kernel
theorem w_applies : (headSpec (Jvm.Cond.code x code maxLocals ret :: tables_1) room_1).applies x e0.platform about1 = true :=
  (Spec.applies_iff w_frames).mpr ⟨w_running, w_runnable, w_alone, w_named, w_hears, w_ripe, w_room, w_tables⟩
theorem atStart : AtStart classFile x code maxLocals ret World_1 tables_1 room_1 Calls_1 rest_1 Pre_1 launch0 p0 e0 about1 theMethod args0 below0 :=
  ⟨lists_1, trivial, launch0.admits_env _ _ _, launch0.least_env, fairChoices_fair.cas, fairChoices_fair.clock, w_frames, w_args, w_heap, w_applies, trivial, trivial, w_case⟩
end start1
theorem witness_1 : WitnessClaimed_1 := ⟨start1.p0, start1.e0, start1.about1, start1.theMethod, start1.args0, start1.below0, start1.atStart⟩
end Jvm.Pilot.@@N@@
