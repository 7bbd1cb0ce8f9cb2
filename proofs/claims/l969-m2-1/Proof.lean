import JvmDerived
import JvmDerived.Pilot.@@N@@Statement
import JvmDerived.Pilot.@@N@@Code
set_option linter.unusedVariables false
set_option linter.unusedSimpArgs false
namespace Jvm.RoadKit
open Sem ClassFile Op Lib Jvm.Stand Jvm.Free Jvm.LawKit
section New
variable {p : Program} {l : Launch} {e : Env} {R : Room} {s : State} {m : MethodId} {args : Array Value} {below : List Frame} {meth : Method} {c : Code} {T : State} {locs : List Loc} {cells slots : Nat}
theorem retI (X : Stand p l e R s m args below meth c T locs cells slots) (hx : p.tables.exec = Jvm.exec) {pc : Nat} {Ls : Array Slot} {z : Int32} {rest : List Value} (hret : meth.sig.returnType = some .int) (hd : decode c.code pc = .ok (.ireturn, 1)) {fs : List Frame}
    (hl : ∀ (f : JFrame) (acts : List Action), f.method = m → f.locked = none → f.entered = [] → (doReturn e (T.setTop f) acts (some (.int z))).1 = T.setFrames fs) : Steps p.tables e below (T.setTop (mkF m pc Ls (.int z :: rest))) (T.setFrames fs) := by
  have hm' : T.vm.method? m = some meth := X.method'
  have hn : narrow .int (.int z) = .int z := rfl
  show Steps p.tables e below (T.setTop { method := m, pc := pc, locals := Ls, stack := _ :: rest, locked := none }) _
  jvm_step X.here [X.here.top, hx, hd, hm', hret, hn]
  first | (intro acts; rw [hl _ acts rfl rfl rfl]) | rw [hl _ _ rfl rfl rfl]
  exact Steps.refl _
theorem own_retZ (X : Stand p l e R s m args below meth c T locs cells slots) (hx : p.tables.exec = Jvm.exec) {pc : Nat} {Ls : Array Slot} {z : Int32} {rest : List Value} (hret : meth.sig.returnType = some .boolean) (hz : z &&& 1 = z) (hd : decode c.code pc = .ok (.ireturn, 1)) {fs : List Frame}
    (hl : ∀ (f : JFrame) (acts : List Action), f.method = m → f.locked = none → f.entered = [] → (doReturn e (T.setTop f) acts (some (.int z))).1 = T.setFrames fs) : Steps p.tables e below (T.setTop (mkF m pc Ls (.int z :: rest))) (T.setFrames fs) :=
  retN X hx (t := .boolean) hret (Or.inl rfl) hd (by have q : nar .boolean z = z := hz; rw [q]; exact hl)
theorem own_lrem {g : JFrame} {target : State} (X : Stand p l e R s m args below meth c T locs cells slots) (hx : p.tables.exec = Jvm.exec) (hg : g.method = m) {x y : Int64} {rest : List Value} (hd : decode c.code g.pc = .ok (.lrem, 1)) (hs : g.stack = .long y :: .long x :: rest) (hy : y ≠ 0)
    (hr : Steps p.tables e below (T.setTop { g with pc := g.pc + 1, stack := .long (x % y) :: rest }) target) : Steps p.tables e below (T.setTop g) target :=
  XS.lrem X.here hx hg hd hs hy (by rw [lrem_mod x y]; exact hr)
end New
end Jvm.RoadKit
namespace Jvm.Pilot.@@N@@
open Jvm Jvm.ClassFile Sem Op Lib Jvm.Free Jvm.Stand Jvm.LawKit Jvm.RoadKit Bundle Jvm.Pilot.@@N@@.Jvm.D
def own_min (x y : Int32) : Int32 := if y < x then y else x
def own_max (x y : Int32) : Int32 := if x < y then y else x
theorem own_minI (x y : Int32) : (own_min x y).toInt = min x.toInt y.toInt := by
  unfold own_min
  by_cases h : y < x
  · rw [if_pos h]; have := Int32.lt_iff_toInt_lt.mp h; omega
  · rw [if_neg h]; have : ¬ y.toInt < x.toInt := fun q => h (Int32.lt_iff_toInt_lt.mpr q); omega
theorem own_maxI (x y : Int32) : (own_max x y).toInt = max x.toInt y.toInt := by
  unfold own_max
  by_cases h : x < y
  · rw [if_pos h]; have := Int32.lt_iff_toInt_lt.mp h; omega
  · rw [if_neg h]; have : ¬ x.toInt < y.toInt := fun q => h (Int32.lt_iff_toInt_lt.mpr q); omega
theorem own_inj {s t : Int32} {k : Int} (h : s.toInt = k) (e : t.toInt = k) : s = t := Int32.toInt_inj.mp (h.trans e.symm)
theorem own_inc (x : Int32) (h : x.toInt < 2147483647) : (x + (1 : Int32)).toInt = x.toInt + 1 := by
  have c := c_iadd x (1 : Int32)
  have r := rng32 (x + (1 : Int32))
  have q := rng32 x
  have o : (1 : Int32).toInt = 1 := by decide
  omega

theorem own_modJ (a b : Int64) (ha : 0 ≤ a.toInt) (hb : 0 < b.toInt) : (a % b).toInt = a.toInt % b.toInt ∧ 0 ≤ (a % b).toInt ∧ (a % b).toInt < b.toInt := by
  have e : (a % b).toInt = a.toInt % b.toInt := by rw [Int64.toInt_mod]; exact Int.tmod_eq_emod_of_nonneg ha
  rw [e]
  exact ⟨rfl, Int.emod_nonneg _ (by omega), Int.emod_lt_of_pos _ hb⟩
theorem own_gcd (a b : Int) (ha : 0 ≤ a) (hb : 0 < b) : Nat.gcd b.toNat (a % b).toNat = Nat.gcd a.toNat b.toNat := by
  have e : (a % b).toNat = a.toNat % b.toNat := by
    rw [Int.toNat_emod ha (by omega)]
  rw [e, Nat.gcd_comm a.toNat, Nat.gcd_rec b.toNat a.toNat, Nat.gcd_comm]
theorem own_nz {d : Int64} (h : 1 ≤ d.toInt) : d ≠ 0 := fun q => by rw [q] at h; exact absurd h (by decide)
theorem own_nm1 {d : Int64} (h : 1 ≤ d.toInt) : d ≠ -1 := fun q => by rw [q] at h; exact absurd h (by decide)
theorem own_d (p r : Int64) (h1 : 1 ≤ r.toInt) (h2 : r.toInt ≤ p.toInt) : 1 ≤ (p / r).toInt ∧ (p / r).toInt ≤ p.toInt := by
  have e := (c_ldiv p r r.toInt rfl (own_nm1 h1)).1 (by omega)
  rw [e]
  exact ⟨(Int.le_ediv_iff_mul_le (by omega)).mpr (by omega), Int.ediv_le_self _ (by omega)⟩
theorem own_fit (q d : Int64) (h1 : 1 ≤ d.toInt) (h2 : d.toInt ≤ 2147483647) (h3 : 1 ≤ q.toInt) (h4 : q.toInt ≤ 4294967296) : ¬ ((9223372036854775807 : Int64) / d) < q := fun z => by
  have z1 := Int64.lt_iff_toInt_lt.mp z
  have m : (9223372036854775807 : Int64).toInt = 9223372036854775807 := by decide
  have e := (c_ldiv (9223372036854775807 : Int64) d d.toInt rfl (own_nm1 h1)).1 (by rw [m]; decide)
  rw [e, m] at z1
  have k : q.toInt * d.toInt ≤ 4294967296 * 2147483647 := Int.mul_le_mul h4 h2 (by omega) (by decide)
  have := (Int.le_ediv_iff_mul_le (c := d.toInt) (a := q.toInt) (b := 9223372036854775807) (by omega)).mpr (by omega)
  omega
def own_dr (s d : Int64) : Int64 := ((s / d) + ((if (0 : Int64) < (s % d) then (1 : Int32) else (0 : Int32)).toInt64))
theorem own_ldv (s d : Int64) (h : 1 ≤ d.toInt) : ∃ q r : Int, (s / d).toInt = q ∧ (s % d).toInt = r ∧ s.toInt = q * d.toInt + r ∧ (0 ≤ s.toInt → 0 ≤ q ∧ 0 ≤ r ∧ r < d.toInt) ∧ (s.toInt ≤ 0 → q ≤ 0 ∧ -d.toInt < r ∧ r ≤ 0) := by
  have e1 : (s / d).toInt = s.toInt.tdiv d.toInt := Int64.toInt_div_of_ne_right s d (own_nm1 h)
  have e2 : (s % d).toInt = s.toInt.tmod d.toInt := Int64.toInt_mod ..
  have hs : s.toInt = s.toInt.tdiv d.toInt * d.toInt + s.toInt.tmod d.toInt := by
    have := Int.mul_tdiv_add_tmod s.toInt d.toInt
    rw [Int.mul_comm]; omega
  refine ⟨_, _, e1, e2, hs, fun h0 => ⟨?_, Int.tmod_nonneg _ h0, Int.tmod_lt_of_pos _ (by omega)⟩, fun h0 => ?_⟩
  · exact Int.tdiv_nonneg h0 (by omega)
  · have a1 := Int.tdiv_nonneg (a := -s.toInt) (b := d.toInt) (by omega) (by omega)
    have a2 := Int.tmod_nonneg (a := -s.toInt) d.toInt (by omega)
    have a3 := Int.tmod_lt_of_pos (-s.toInt) (b := d.toInt) (by omega)
    rw [Int.neg_tdiv] at a1
    rw [Int.neg_tmod] at a2 a3
    omega
theorem own_drI (s d : Int64) (h : 1 ≤ d.toInt) (h2 : d.toInt ≤ 2147483647) : ∃ q r x : Int, s.toInt = q * d.toInt + r ∧ (own_dr s d).toInt = q + x ∧ (0 < r → x = 1) ∧ (r ≤ 0 → x = 0) ∧ (0 ≤ s.toInt → 0 ≤ q ∧ 0 ≤ r ∧ r < d.toInt) ∧ (s.toInt ≤ 0 → q ≤ 0 ∧ -d.toInt < r ∧ r ≤ 0) := by
  obtain ⟨q, r, e1, e2, hs, hp, hn⟩ := own_ldv s d h
  have b := rng64 (s / d)
  have b' := rng64 s
  have z0 : (0 : Int64).toInt = 0 := by decide
  by_cases c : (0 : Int64) < (s % d)
  · have c1 := Int64.lt_iff_toInt_lt.mp c
    have o : (1 : Int32).toInt64.toInt = 1 := by decide
    have k := c_ladd (s / d) ((1 : Int32).toInt64)
    have k2 := rng64 ((s / d) + ((1 : Int32).toInt64))
    refine ⟨q, r, 1, hs, ?_, fun _ => rfl, fun y => by omega, hp, hn⟩
    unfold own_dr; rw [if_pos c]
    have hq : q < 9223372036854775807 := by
      by_cases hsn : 0 ≤ s.toInt
      · have := hp hsn
        have hm : q * 1 ≤ q * d.toInt := Int.mul_le_mul_of_nonneg_left h this.1
        omega
      · have := hn (by omega); omega
    omega
  · have c1 : ¬ (0 : Int64).toInt < (s % d).toInt := fun y => c (Int64.lt_iff_toInt_lt.mpr y)
    have o : (0 : Int32).toInt64.toInt = 0 := by decide
    have k := c_ladd (s / d) ((0 : Int32).toInt64)
    have k2 := rng64 ((s / d) + ((0 : Int32).toInt64))
    refine ⟨q, r, 0, hs, ?_, fun y => by omega, fun _ => rfl, hp, hn⟩
    unfold own_dr; rw [if_neg c]
    omega
theorem own_pos (s d r : Int64) (h : 1 ≤ d.toInt) (h2 : d.toInt ≤ 2147483647) (hs : 0 < s.toInt) (hr : r = own_dr s d) : 1 ≤ r.toInt ∧ 0 ≤ ((r - (1 : Int64)) * d).toInt ∧ 0 < (s - ((r - (1 : Int64)) * d)).toInt ∧ (s - ((r - (1 : Int64)) * d)).toInt ≤ d.toInt := by
  obtain ⟨q, m, x, e1, e2, x1, x0, hp, -⟩ := own_drI s d h h2
  subst hr
  obtain ⟨p1, p2, p3⟩ := hp (by omega)
  have bs := rng64 s
  have o1 : (1 : Int64).toInt = 1 := by decide
  have k1 := c_lsub (own_dr s d) (1 : Int64)
  have k1r := rng64 (own_dr s d - (1 : Int64))
  have bd := rng64 (own_dr s d)
  have k2 := c_lmul (own_dr s d - (1 : Int64)) d
  have k2r := rng64 ((own_dr s d - (1 : Int64)) * d)
  have k3 := c_lsub s ((own_dr s d - (1 : Int64)) * d)
  have k3r := rng64 (s - ((own_dr s d - (1 : Int64)) * d))
  have hq0 : 0 ≤ q * d.toInt := Int.mul_nonneg p1 (by omega)
  by_cases hm : 0 < m
  · have hx := x1 hm
    have f1 : (own_dr s d - (1 : Int64)).toInt = q := by omega
    rw [f1] at k2
    omega
  · have hx := x0 (by omega)
    have hqq : 1 ≤ q := by
      by_cases z : q = 0
      · rw [z] at e1; omega
      · omega
    have f1 : (own_dr s d - (1 : Int64)).toInt = q - 1 := by omega
    rw [f1, Int.sub_mul] at k2
    have hd1 : 1 * d.toInt ≤ q * d.toInt := Int.mul_le_mul_of_nonneg_right hqq (by omega)
    omega
theorem own_neg (s d r : Int64) (h : 1 ≤ d.toInt) (h2 : d.toInt ≤ 2147483647) (hs : s.toInt ≤ 0) (hr : r = own_dr s d) : r.toInt ≤ 0 ∧ (r * d).toInt ≤ 0 ∧ 0 ≤ ((r * d) - s).toInt ∧ ((r * d) - s).toInt < d.toInt := by
  obtain ⟨q, m, x, e1, e2, x1, x0, -, hn⟩ := own_drI s d h h2
  subst hr
  obtain ⟨p1, p2, p3⟩ := hn hs
  have hx := x0 p3
  have bs := rng64 s
  have k2 := c_lmul (own_dr s d) d
  have k2r := rng64 ((own_dr s d) * d)
  have k3 := c_lsub ((own_dr s d) * d) s
  have k3r := rng64 (((own_dr s d) * d) - s)
  have f1 : (own_dr s d).toInt = q := by omega
  rw [f1] at k2
  have hq0 : q * d.toInt ≤ 0 := Int.mul_nonpos_of_nonpos_of_nonneg p1 (by omega)
  omega
theorem own_ge {x y : Int64} (h : y.toInt ≤ x.toInt) : ¬ x < y := fun q => by have := Int64.lt_iff_toInt_lt.mp q; omega
theorem d1_0 : decode jdk_29_method_65_code 0 = .ok (.iload_n 0, 1) := by decide +kernel
theorem d1_1 : decode jdk_29_method_65_code 1 = .ok (.iload_n 1, 1) := by decide +kernel
theorem d1_2 : decode jdk_29_method_65_code 2 = .ok (.if_icmp .lt 7, 3) := by decide +kernel
theorem d1_9 : decode jdk_29_method_65_code 9 = .ok (.iload_n 1, 1) := by decide +kernel
theorem d1_10 : decode jdk_29_method_65_code 10 = .ok (.ireturn, 1) := by decide +kernel
theorem d1_5 : decode jdk_29_method_65_code 5 = .ok (.iload_n 0, 1) := by decide +kernel
theorem d1_6 : decode jdk_29_method_65_code 6 = .ok (.goto 4, 3) := by decide +kernel
theorem ef_rm1 (m : MethodId) (x0 : Int32) (x1 : Int32) : entryFrame m #[(.int x0), (.int x1)] 2 = mkF m 0 #[.val (.int x0), .val (.int x1)] [] := by first | (simp [entryFrame, mkF, argsToLocals, Value.category]; done) | rfl
def Q1 (Z : State) (x : Int32) (y : Int32) (h0 : Heap) (n0 : Nat) (v : Option Value) (h : Heap) (L : List Loc) : Prop := v = some (.int (own_max x y)) ∧ Fr n0 L ∧ h = h0
set_option maxRecDepth 65536 in
set_option maxHeartbeats 40000000 in
theorem rm1 (l : Launch) (Z : State) (a0 : Array Value) (hw : ∀ d ∈ tables_1, d.before a0 Z = true) (ws : List Jvm.Cond) (x : Int32) (y : Int32) (h0 : Heap) (n0 : Nat) (Z0 : n0 ≤ h0.size) :
    MetFree l (⟨"java/lang/Math", "max", "(II)I"⟩ : MethodName) (head1 (Jvm.Cond.code (⟨"java/lang/Math", "max", "(II)I"⟩ : MethodName) jdk_29_method_65_code 2 (some .int) :: ws) ({ frames := 0, cells := 0, slots := 0, locals := 0 } : Room)) (fun aa U => aa = #[(.int x), (.int y)] ∧ Z.Warmed39 U.vm ∧ U.heap = h0) (fun _ _ _ _ _ => True) (fun _ U o U' => ∃ v L, o = .returned v ∧ Q1 Z x y h0 n0 v U'.heap L ∧ FrameEnd U o U' L ({ frames := 0, cells := 0, slots := 0, locals := 0 } : Room).cells ({ frames := 0, cells := 0, slots := 0, locals := 0 } : Room).slots) := by
  refine MetFree.of_bodySF (Jvm.Free.JP.mathPlain rfl (by decide +kernel)) hisR ?_
  intro p e s m args below meth c s₁ Bd hml0 hP hK
  obtain ⟨rfl, hZ, hh⟩ := hP
  have hx := Bd.exec
  have hby := Bd.bytes
  have hml : c.maxLocals = 2 := hml0
  have hown : s.vm.findClass "java/lang/Math" = some m.cls := findClass_of_methodNamed Bd.named
  have hnm := (name_of_methodNamed Bd.named Bd.method).1
  have X0 : Stand p l e ({ frames := 0, cells := 0, slots := 0, locals := 0 } : Room) s m #[(.int x), (.int y)] below meth c s₁ [] 0 0 := Stand.of_body Bd
  have e0 : s₁.heap = h0 := by rw [← hh, Bd.state]; rfl
  have N0 := Fr.nil n0
  obtain ⟨Ω, hΩ⟩ : ∃ z, z = s₁.setTop (entryFrame m #[(.int x), (.int y)] 2) := ⟨_, rfl⟩
  have S0 : Steps p.tables e below Ω (s₁.setTop (mkF m 0 #[.val (.int x), .val (.int y)] [])) := by rw [hΩ]; exact castTop (ef_rm1 m x y) (Steps.refl _)
  have S1 : Steps p.tables e below Ω (s₁.setTop (mkF m 2 #[.val (.int x), .val (.int y)] [(.int y), (.int x)])) := by
    refine S0.trans ?_
    refine XS.iloadN X0.here hx rfl (hb hby d1_0) rfl ?_
    show Steps p.tables e below (s₁.setTop (mkF m 1 #[.val (.int x), .val (.int y)] [(.int x)])) _
    refine XS.iloadN X0.here hx rfl (hb hby d1_1) rfl ?_
    exact Steps.refl _
  by_cases hc : x < y
  · have qhc : x.toInt < y.toInt := Int32.lt_iff_toInt_lt.mp hc
    have S2 : Steps p.tables e below Ω (s₁.setTop (mkF m 10 #[.val (.int x), .val (.int y)] [(.int y)])) := by
      refine S1.trans ?_
      refine XS.icmpYes X0.here hx rfl (pc0 := 2) (pc' := 9) rfl (hb hby d1_2) rfl (XT.ii_lt_t hc) (by decide) (by decide) ?_
      show Steps p.tables e below (s₁.setTop (mkF m 9 #[.val (.int x), .val (.int y)] [])) _
      refine XS.iloadN X0.here hx rfl (hb hby d1_9) rfl ?_
      exact Steps.refl _
    obtain ⟨fs, hr, hrun, hended, hW, hsame⟩ := X0.leave (v := some (.int y)) (fun h => by rw [Bd.returns] at h; cases h)
    have hfin : Steps p.tables e below Ω (s₁.setFrames fs) := by
      refine S2.trans ?_
      exact retI X0 hx Bd.returns (hb hby d1_10) hr
    rw [hΩ] at hfin
    refine ⟨_, _, hfin, hrun, hended, _, _, rfl, ?_, ⟨_, rfl⟩, hW, hsame.mono (by decide) (by decide)⟩
    show Q1 Z x y h0 n0 _ s₁.heap _
    rw [e0]
    exact ⟨by rw [own_max, if_pos hc], N0, rfl⟩
  · have qhc : ¬ x.toInt < y.toInt := fun q => hc (Int32.lt_iff_toInt_lt.mpr q)
    have S3 : Steps p.tables e below Ω (s₁.setTop (mkF m 10 #[.val (.int x), .val (.int y)] [(.int x)])) := by
      refine S1.trans ?_
      refine XS.icmpNo X0.here hx rfl (hb hby d1_2) rfl (XT.ii_lt_f hc) ?_
      show Steps p.tables e below (s₁.setTop (mkF m 5 #[.val (.int x), .val (.int y)] [])) _
      refine XS.iloadN X0.here hx rfl (hb hby d1_5) rfl ?_
      show Steps p.tables e below (s₁.setTop (mkF m 6 #[.val (.int x), .val (.int y)] [(.int x)])) _
      refine XS.goto X0.here hx rfl (pc0 := 6) (pc' := 10) rfl (hb hby d1_6) (by decide) (by decide) ?_
      exact Steps.refl _
    obtain ⟨fs, hr, hrun, hended, hW, hsame⟩ := X0.leave (v := some (.int x)) (fun h => by rw [Bd.returns] at h; cases h)
    have hfin : Steps p.tables e below Ω (s₁.setFrames fs) := by
      refine S3.trans ?_
      exact retI X0 hx Bd.returns (hb hby d1_10) hr
    rw [hΩ] at hfin
    refine ⟨_, _, hfin, hrun, hended, _, _, rfl, ?_, ⟨_, rfl⟩, hW, hsame.mono (by decide) (by decide)⟩
    show Q1 Z x y h0 n0 _ s₁.heap _
    rw [e0]
    exact ⟨by rw [own_max, if_neg hc], N0, rfl⟩
theorem d8_0 : decode jdk_30_method_1_code 0 = .ok (.aload_n 0, 1) := by decide +kernel
theorem d8_1 : decode jdk_30_method_1_code 1 = .ok (.invokespecial 1, 3) := by decide +kernel
theorem d8_4 : decode jdk_30_method_1_code 4 = .ok (.return_, 1) := by decide +kernel
theorem pn_0 : plainName "java/lang/Record" = true := by first | (simp [plainName, overriddenIn]; done) | decide +kernel
theorem ef_rm8 (m : MethodId) (x0 : Addr) : entryFrame m #[(.ref x0)] 1 = mkF m 0 #[.val (.ref x0)] [] := by first | (simp [entryFrame, mkF, argsToLocals, Value.category]; done) | rfl
def Q8 (Z : State) (a : Addr) (h0 : Heap) (n0 : Nat) (v : Option Value) (h : Heap) (L : List Loc) : Prop := v = none ∧ Fr n0 L ∧ h = h0
set_option maxRecDepth 65536 in
set_option maxHeartbeats 40000000 in
theorem rm8 (l : Launch) (Z : State) (a0 : Array Value) (hw : ∀ d ∈ tables_1, d.before a0 Z = true) (ws : List Jvm.Cond) (a : Addr) (h0 : Heap) (n0 : Nat) (Z0 : n0 ≤ h0.size) :
    MetFree l (⟨"java/lang/Record", "<init>", "()V"⟩ : MethodName) (head1 (Jvm.Cond.code (⟨"java/lang/Record", "<init>", "()V"⟩ : MethodName) jdk_30_method_1_code 1 none :: ws) ({ frames := 1, cells := 0, slots := 0, locals := 12 } : Room)) (fun aa U => aa = #[(.ref a)] ∧ Z.Warmed39 U.vm ∧ U.heap = h0) (fun _ _ _ _ _ => True) (fun _ U o U' => ∃ v L, o = .returned v ∧ Q8 Z a h0 n0 v U'.heap L ∧ FrameEnd U o U' L ({ frames := 1, cells := 0, slots := 0, locals := 12 } : Room).cells ({ frames := 1, cells := 0, slots := 0, locals := 12 } : Room).slots) := by
  refine MetFree.of_bodySF (plainFor_of_name pn_0) hisR ?_
  intro p e s m args below meth c s₁ Bd hml0 hP hK
  obtain ⟨rfl, hZ, hh⟩ := hP
  have hx := Bd.exec
  have hby := Bd.bytes
  have hml : c.maxLocals = 1 := hml0
  have hown : s.vm.findClass "java/lang/Record" = some m.cls := findClass_of_methodNamed Bd.named
  have hnm := (name_of_methodNamed Bd.named Bd.method).1
  have X0 : Stand p l e ({ frames := 1, cells := 0, slots := 0, locals := 12 } : Room) s m #[(.ref a)] below meth c s₁ [] 0 0 := Stand.of_body Bd
  have e0 : s₁.heap = h0 := by rw [← hh, Bd.state]; rfl
  have N0 := Fr.nil n0
  obtain ⟨Ω, hΩ⟩ : ∃ z, z = s₁.setTop (entryFrame m #[(.ref a)] 1) := ⟨_, rfl⟩
  have S0 : Steps p.tables e below Ω (s₁.setTop (mkF m 0 #[.val (.ref a)] [])) := by rw [hΩ]; exact castTop (ef_rm8 m a) (Steps.refl _)
  have S1 : Steps p.tables e below Ω (s₁.setTop (mkF m 1 #[.val (.ref a)] [(.ref a)])) := by
    refine S0.trans ?_
    refine XS.aloadN X0.here hx rfl (hb hby d8_0) rfl rfl ?_
    exact Steps.refl _
  obtain ⟨T2, X2, e2, st2⟩ := initO X0 hx hZ hown (hw _ (List.mem_of_getElem? (i := 47) rfl)) (hw _ (List.mem_of_getElem? (i := 13) rfl)) (hw _ (List.mem_of_getElem? (i := 14) rfl)) e0 (g := (mkF m 1 #[.val (.ref a)] [(.ref a)])) rfl (by rw [hml]; rfl) rfl (hb hby d8_1) (by decide) (W := 0) (by show 2 * 0 + _ ≤ _; exact Nat.le_of_eq rfl) (by decide)
  have S3 : Steps p.tables e below Ω (T2.setTop (mkF m 4 #[.val (.ref a)] [])) := S1.trans (st2 _ (Steps.refl _))
  obtain ⟨fs, hr, hrun, hended, hW, hsame⟩ := X2.leave (v := none) (fun _ => rfl)
  have hfin : Steps p.tables e below Ω (T2.setFrames fs) := by
    refine S3.trans ?_
    exact X2.returnOut hx Bd.returns (hb hby d8_4) hr
  rw [hΩ] at hfin
  refine ⟨_, _, hfin, hrun, hended, _, _, rfl, ?_, ⟨_, rfl⟩, hW, hsame.mono (by decide) (by decide)⟩
  show Q8 Z a h0 n0 _ T2.heap _
  rw [e2]
  exact ⟨rfl, N0, rfl⟩
theorem d4_0 : decode prog_33_method_2_code 0 = .ok (.iload_n 0, 1) := by decide +kernel
theorem d4_1 : decode prog_33_method_2_code 1 = .ok (.iconst 1, 1) := by decide +kernel
theorem d4_2 : decode prog_33_method_2_code 2 = .ok (.if_icmp .ge 17, 3) := by decide +kernel
theorem d4_19 : decode prog_33_method_2_code 19 = .ok (.lload_n 1, 1) := by decide +kernel
theorem d4_20 : decode prog_33_method_2_code 20 = .ok (.lconst 1, 1) := by decide +kernel
theorem d4_21 : decode prog_33_method_2_code 21 = .ok (.lcmp, 1) := by decide +kernel
theorem d4_22 : decode prog_33_method_2_code 22 = .ok (.ifCond .ge 17, 3) := by decide +kernel
theorem d4_39 : decode prog_33_method_2_code 39 = .ok (.return_, 1) := by decide +kernel
theorem pn_1 : plainName "com/example/admission_by_rate/admissionbyrate/LimitAndPeriod" = true := by first | (simp [plainName, overriddenIn]; done) | decide +kernel
theorem ef_rm4 (m : MethodId) (x0 : Int32) (x1 : Int64) : entryFrame m #[(.int x0), (.long x1)] 3 = mkF m 0 #[.val (.int x0), .val (.long x1), .second] [] := by first | (simp [entryFrame, mkF, argsToLocals, Value.category]; done) | rfl
def Q4 (Z : State) (p1 : Int32) (q1 : Int64) (h0 : Heap) (n0 : Nat) (v : Option Value) (h : Heap) (L : List Loc) : Prop := v = none ∧ Fr n0 L ∧ h = h0
set_option maxRecDepth 65536 in
set_option maxHeartbeats 40000000 in
theorem rm4 (l : Launch) (Z : State) (a0 : Array Value) (hw : ∀ d ∈ tables_1, d.before a0 Z = true) (ws : List Jvm.Cond) (p1 : Int32) (q1 : Int64) (h0 : Heap) (n0 : Nat) (Z0 : n0 ≤ h0.size) (b1 : ¬ p1 < (1 : Int32)) (b2 : ¬ q1 < (1 : Int64)) :
    MetFree l (⟨"com/example/admission_by_rate/admissionbyrate/LimitAndPeriod", "check", "(IJ)V"⟩ : MethodName) (head1 (Jvm.Cond.code (⟨"com/example/admission_by_rate/admissionbyrate/LimitAndPeriod", "check", "(IJ)V"⟩ : MethodName) prog_33_method_2_code 3 none :: ws) ({ frames := 0, cells := 0, slots := 0, locals := 0 } : Room)) (fun aa U => aa = #[(.int p1), (.long q1)] ∧ Z.Warmed39 U.vm ∧ U.heap = h0) (fun _ _ _ _ _ => True) (fun _ U o U' => ∃ v L, o = .returned v ∧ Q4 Z p1 q1 h0 n0 v U'.heap L ∧ FrameEnd U o U' L ({ frames := 0, cells := 0, slots := 0, locals := 0 } : Room).cells ({ frames := 0, cells := 0, slots := 0, locals := 0 } : Room).slots) := by
  refine MetFree.of_bodySF (plainFor_of_name pn_1) hisR ?_
  intro p e s m args below meth c s₁ Bd hml0 hP hK
  obtain ⟨rfl, hZ, hh⟩ := hP
  have hx := Bd.exec
  have hby := Bd.bytes
  have hml : c.maxLocals = 3 := hml0
  have hown : s.vm.findClass "com/example/admission_by_rate/admissionbyrate/LimitAndPeriod" = some m.cls := findClass_of_methodNamed Bd.named
  have hnm := (name_of_methodNamed Bd.named Bd.method).1
  have X0 : Stand p l e ({ frames := 0, cells := 0, slots := 0, locals := 0 } : Room) s m #[(.int p1), (.long q1)] below meth c s₁ [] 0 0 := Stand.of_body Bd
  have e0 : s₁.heap = h0 := by rw [← hh, Bd.state]; rfl
  have N0 := Fr.nil n0
  obtain ⟨Ω, hΩ⟩ : ∃ z, z = s₁.setTop (entryFrame m #[(.int p1), (.long q1)] 3) := ⟨_, rfl⟩
  have S0 : Steps p.tables e below Ω (s₁.setTop (mkF m 0 #[.val (.int p1), .val (.long q1), .second] [])) := by rw [hΩ]; exact castTop (ef_rm4 m p1 q1) (Steps.refl _)
  have S1 : Steps p.tables e below Ω (s₁.setTop (mkF m 39 #[.val (.int p1), .val (.long q1), .second] [])) := by
    refine S0.trans ?_
    refine XS.iloadN X0.here hx rfl (hb hby d4_0) rfl ?_
    show Steps p.tables e below (s₁.setTop (mkF m 1 #[.val (.int p1), .val (.long q1), .second] [(.int p1)])) _
    refine XS.iconst X0.here hx rfl (hb hby d4_1) ?_
    show Steps p.tables e below (s₁.setTop (mkF m 2 #[.val (.int p1), .val (.long q1), .second] [(.int (1 : Int32)), (.int p1)])) _
    refine XS.icmpYes X0.here hx rfl (pc0 := 2) (pc' := 19) rfl (hb hby d4_2) rfl (XT.ii_ge_t b1) (by decide) (by decide) ?_
    show Steps p.tables e below (s₁.setTop (mkF m 19 #[.val (.int p1), .val (.long q1), .second] [])) _
    refine XS.lloadN X0.here hx rfl (hb hby d4_19) rfl ?_
    show Steps p.tables e below (s₁.setTop (mkF m 20 #[.val (.int p1), .val (.long q1), .second] [(.long q1)])) _
    refine XS.lconst X0.here hx rfl (hb hby d4_20) ?_
    show Steps p.tables e below (s₁.setTop (mkF m 21 #[.val (.int p1), .val (.long q1), .second] [(.long (1 : Int64)), (.long q1)])) _
    refine XS.lcmp X0.here hx rfl (hb hby d4_21) rfl ?_
    show Steps p.tables e below (s₁.setTop (mkF m 22 #[.val (.int p1), .val (.long q1), .second] [(.int (lcmpW q1 (1 : Int64)))])) _
    refine XS.ifYes X0.here hx rfl (pc0 := 22) (pc' := 39) rfl (hb hby d4_22) rfl (XT.ll_ge_t b2) (by decide) (by decide) ?_
    exact Steps.refl _
  obtain ⟨fs, hr, hrun, hended, hW, hsame⟩ := X0.leave (v := none) (fun _ => rfl)
  have hfin : Steps p.tables e below Ω (s₁.setFrames fs) := by
    refine S1.trans ?_
    exact X0.returnOut hx Bd.returns (hb hby d4_39) hr
  rw [hΩ] at hfin
  refine ⟨_, _, hfin, hrun, hended, _, _, rfl, ?_, ⟨_, rfl⟩, hW, hsame.mono (by decide) (by decide)⟩
  show Q4 Z p1 q1 h0 n0 _ s₁.heap _
  rw [e0]
  exact ⟨rfl, N0, rfl⟩
theorem d5_0 : decode prog_4_method_18_code 0 = .ok (.lload_n 2, 1) := by decide +kernel
theorem d5_1 : decode prog_4_method_18_code 1 = .ok (.lconst 0, 1) := by decide +kernel
theorem d5_2 : decode prog_4_method_18_code 2 = .ok (.lcmp, 1) := by decide +kernel
theorem d5_3 : decode prog_4_method_18_code 3 = .ok (.ifCond .eq 16, 3) := by decide +kernel
theorem d5_6 : decode prog_4_method_18_code 6 = .ok (.lload_n 0, 1) := by decide +kernel
theorem d5_7 : decode prog_4_method_18_code 7 = .ok (.lload_n 2, 1) := by decide +kernel
theorem d5_8 : decode prog_4_method_18_code 8 = .ok (.lrem, 1) := by decide +kernel
theorem d5_9 : decode prog_4_method_18_code 9 = .ok (.lstore 4, 2) := by decide +kernel
theorem d5_11 : decode prog_4_method_18_code 11 = .ok (.lload_n 2, 1) := by decide +kernel
theorem d5_12 : decode prog_4_method_18_code 12 = .ok (.lstore_n 0, 1) := by decide +kernel
theorem d5_13 : decode prog_4_method_18_code 13 = .ok (.lload 4, 2) := by decide +kernel
theorem d5_15 : decode prog_4_method_18_code 15 = .ok (.lstore_n 2, 1) := by decide +kernel
theorem d5_16 : decode prog_4_method_18_code 16 = .ok (.goto (-16), 3) := by decide +kernel
theorem d5_19 : decode prog_4_method_18_code 19 = .ok (.lload_n 0, 1) := by decide +kernel
theorem d5_20 : decode prog_4_method_18_code 20 = .ok (.lreturn, 1) := by decide +kernel
theorem pn_2 : plainName "com/example/admission_by_rate/admissionbyrate/Gcra" = true := by first | (simp [plainName, overriddenIn]; done) | decide +kernel
theorem ef_rm5 (m : MethodId) (x0 : Int64) (x1 : Int64) : entryFrame m #[(.long x0), (.long x1)] 6 = mkF m 0 #[.val (.long x0), .second, .val (.long x1), .second, .unset, .unset] [] := by first | (simp [entryFrame, mkF, argsToLocals, Value.category]; done) | rfl
def Q5 (Z : State) (q1 : Int64) (q2 : Int64) (h0 : Heap) (n0 : Nat) (v : Option Value) (h : Heap) (L : List Loc) : Prop := ∃ r : Int64, v = some (.long r) ∧ Fr n0 L ∧ h = h0 ∧ r.toInt = (Nat.gcd q1.toInt.toNat q2.toInt.toNat : Nat)
set_option maxRecDepth 65536 in
set_option maxHeartbeats 40000000 in
theorem rm5 (l : Launch) (Z : State) (a0 : Array Value) (hw : ∀ d ∈ tables_1, d.before a0 Z = true) (ws : List Jvm.Cond) (q1 : Int64) (q2 : Int64) (h0 : Heap) (n0 : Nat) (Z0 : n0 ≤ h0.size) (b1 : 0 < q1.toInt) (b2 : 0 ≤ q2.toInt) :
    MetFree l (⟨"com/example/admission_by_rate/admissionbyrate/Gcra", "gcd", "(JJ)J"⟩ : MethodName) (head1 (Jvm.Cond.code (⟨"com/example/admission_by_rate/admissionbyrate/Gcra", "gcd", "(JJ)J"⟩ : MethodName) prog_4_method_18_code 6 (some .long) :: ws) ({ frames := 0, cells := 0, slots := 0, locals := 0 } : Room)) (fun aa U => aa = #[(.long q1), (.long q2)] ∧ Z.Warmed39 U.vm ∧ U.heap = h0) (fun _ _ _ _ _ => True) (fun _ U o U' => ∃ v L, o = .returned v ∧ Q5 Z q1 q2 h0 n0 v U'.heap L ∧ FrameEnd U o U' L ({ frames := 0, cells := 0, slots := 0, locals := 0 } : Room).cells ({ frames := 0, cells := 0, slots := 0, locals := 0 } : Room).slots) := by
  refine MetFree.of_bodySF (plainFor_of_name pn_2) hisR ?_
  intro p e s m args below meth c s₁ Bd hml0 hP hK
  obtain ⟨rfl, hZ, hh⟩ := hP
  have hx := Bd.exec
  have hby := Bd.bytes
  have hml : c.maxLocals = 6 := hml0
  have hown : s.vm.findClass "com/example/admission_by_rate/admissionbyrate/Gcra" = some m.cls := findClass_of_methodNamed Bd.named
  have hnm := (name_of_methodNamed Bd.named Bd.method).1
  have X0 : Stand p l e ({ frames := 0, cells := 0, slots := 0, locals := 0 } : Room) s m #[(.long q1), (.long q2)] below meth c s₁ [] 0 0 := Stand.of_body Bd
  have e0 : s₁.heap = h0 := by rw [← hh, Bd.state]; rfl
  have N0 := Fr.nil n0
  obtain ⟨Ω, hΩ⟩ : ∃ z, z = s₁.setTop (entryFrame m #[(.long q1), (.long q2)] 6) := ⟨_, rfl⟩
  have S0 : Steps p.tables e below Ω (s₁.setTop (mkF m 0 #[.val (.long q1), .second, .val (.long q2), .second, .unset, .unset] [])) := by rw [hΩ]; exact castTop (ef_rm5 m q1 q2) (Steps.refl _)
  have LOOP : ∀ (k : Nat) (x y : Int64) (s4 s5 : Slot), ((s4 = .unset ∧ s5 = .unset) ∨ (∃ z : Int64, s4 = .val (.long z) ∧ s5 = .second)) → 0 < x.toInt → 0 ≤ y.toInt → y.toInt < k → ∃ (r t : Int64) (s4' s5' : Slot), r.toInt = (Nat.gcd x.toInt.toNat y.toInt.toNat : Nat) ∧ Steps p.tables e below (s₁.setTop (mkF m 0 #[.val (.long x), .second, .val (.long y), .second, s4, s5] [])) (s₁.setTop (mkF m 19 #[.val (.long r), .second, .val (.long t), .second, s4', s5'] [])) := by
    intro k
    induction k with
    | zero => intro x y s4 s5 hs4 i1 i2 i3; exfalso; omega
    | succ k ih =>
      intro x y s4 s5 hs4 i1 i2 i3
      have P1 : Steps p.tables e below (s₁.setTop (mkF m 0 #[.val (.long x), .second, .val (.long y), .second, s4, s5] [])) (s₁.setTop (mkF m 0 #[.val (.long x), .second, .val (.long y), .second, s4, s5] [])) := Steps.refl _
      have S2 : Steps p.tables e below (s₁.setTop (mkF m 0 #[.val (.long x), .second, .val (.long y), .second, s4, s5] [])) (s₁.setTop (mkF m 3 #[.val (.long x), .second, .val (.long y), .second, s4, s5] [(.int (lcmpW y (0 : Int64)))])) := by
        refine P1.trans ?_
        refine XS.lloadN X0.here hx rfl (hb hby d5_0) rfl ?_
        show Steps p.tables e below (s₁.setTop (mkF m 1 #[.val (.long x), .second, .val (.long y), .second, s4, s5] [(.long y)])) _
        refine XS.lconst X0.here hx rfl (hb hby d5_1) ?_
        show Steps p.tables e below (s₁.setTop (mkF m 2 #[.val (.long x), .second, .val (.long y), .second, s4, s5] [(.long (0 : Int64)), (.long y)])) _
        refine XS.lcmp X0.here hx rfl (hb hby d5_2) rfl ?_
        exact Steps.refl _
      by_cases hc : y = (0 : Int64)
      · have qhc : y.toInt = 0 := congrArg Int64.toInt hc
        have S3 : Steps p.tables e below (s₁.setTop (mkF m 0 #[.val (.long x), .second, .val (.long y), .second, s4, s5] [])) (s₁.setTop (mkF m 19 #[.val (.long x), .second, .val (.long y), .second, s4, s5] [])) := by
          refine S2.trans ?_
          refine XS.ifYes X0.here hx rfl (pc0 := 3) (pc' := 19) rfl (hb hby d5_3) rfl (XT.ll_eq_t hc) (by decide) (by decide) ?_
          exact Steps.refl _
        refine ⟨x, y, _, _, ?_, S3⟩
        rw [hc]
        show x.toInt = (Nat.gcd x.toInt.toNat 0 : Nat)
        rw [Nat.gcd_zero_right]; omega
      · have qhc : ¬ y.toInt = 0 := fun q => hc (Int64.toInt_inj.mp q)
        have S4 : Steps p.tables e below (s₁.setTop (mkF m 0 #[.val (.long x), .second, .val (.long y), .second, s4, s5] [])) (s₁.setTop (mkF m 6 #[.val (.long x), .second, .val (.long y), .second, s4, s5] [])) := by
          refine S2.trans ?_
          refine XS.ifNo X0.here hx rfl (hb hby d5_3) rfl (XT.ll_eq_f hc) ?_
          exact Steps.refl _
        have hmd := own_modJ x y (by omega) (by omega)
        have S5 : Steps p.tables e below (s₁.setTop (mkF m 0 #[.val (.long x), .second, .val (.long y), .second, s4, s5] [])) (s₁.setTop (mkF m 0 #[.val (.long y), .second, .val (.long (x % y)), .second, .val (.long (x % y)), .second] [])) := by
          refine S4.trans ?_
          refine XS.lloadN X0.here hx rfl (hb hby d5_6) rfl ?_
          show Steps p.tables e below (s₁.setTop (mkF m 7 #[.val (.long x), .second, .val (.long y), .second, s4, s5] [(.long x)])) _
          refine XS.lloadN X0.here hx rfl (hb hby d5_7) rfl ?_
          show Steps p.tables e below (s₁.setTop (mkF m 8 #[.val (.long x), .second, .val (.long y), .second, s4, s5] [(.long y), (.long x)])) _
          refine own_lrem X0 hx rfl (hb hby d5_8) rfl hc ?_
          show Steps p.tables e below (s₁.setTop (mkF m 9 #[.val (.long x), .second, .val (.long y), .second, s4, s5] [(.long (x % y))])) _
          refine XS.lstore X0.here hx rfl (hb hby d5_9) rfl (l' := #[.val (.long x), .second, .val (.long y), .second, .val (.long (x % y)), .second]) (by rcases hs4 with ⟨rfl, rfl⟩ | ⟨z, rfl, rfl⟩ <;> rfl) ?_
          show Steps p.tables e below (s₁.setTop (mkF m 11 #[.val (.long x), .second, .val (.long y), .second, .val (.long (x % y)), .second] [])) _
          refine XS.lloadN X0.here hx rfl (hb hby d5_11) rfl ?_
          show Steps p.tables e below (s₁.setTop (mkF m 12 #[.val (.long x), .second, .val (.long y), .second, .val (.long (x % y)), .second] [(.long y)])) _
          refine XS.lstoreN X0.here hx rfl (hb hby d5_12) rfl (l' := #[.val (.long y), .second, .val (.long y), .second, .val (.long (x % y)), .second]) rfl ?_
          show Steps p.tables e below (s₁.setTop (mkF m 13 #[.val (.long y), .second, .val (.long y), .second, .val (.long (x % y)), .second] [])) _
          refine XS.lload X0.here hx rfl (hb hby d5_13) rfl ?_
          show Steps p.tables e below (s₁.setTop (mkF m 15 #[.val (.long y), .second, .val (.long y), .second, .val (.long (x % y)), .second] [(.long (x % y))])) _
          refine XS.lstoreN X0.here hx rfl (hb hby d5_15) rfl (l' := #[.val (.long y), .second, .val (.long (x % y)), .second, .val (.long (x % y)), .second]) rfl ?_
          show Steps p.tables e below (s₁.setTop (mkF m 16 #[.val (.long y), .second, .val (.long (x % y)), .second, .val (.long (x % y)), .second] [])) _
          refine XS.goto X0.here hx rfl (pc0 := 16) (pc' := 0) rfl (hb hby d5_16) (by decide) (by decide) ?_
          exact Steps.refl _
        obtain ⟨r, t, s4', s5', hr, SL⟩ := ih y (x % y) (.val (.long (x % y))) .second (Or.inr ⟨_, rfl, rfl⟩) (by omega) hmd.2.1 (by omega)
        refine ⟨r, t, s4', s5', ?_, S5.trans SL⟩
        rw [hr, hmd.1, own_gcd _ _ (by omega) (by omega)]
  obtain ⟨r, t, s4', s5', hgr, SL⟩ := LOOP (q2.toInt.toNat + 1) q1 q2 .unset .unset (Or.inl ⟨rfl, rfl⟩) b1 b2 (by omega)
  have S6 : Steps p.tables e below Ω (s₁.setTop (mkF m 19 #[.val (.long r), .second, .val (.long t), .second, s4', s5'] [])) := S0.trans SL
  have S7 : Steps p.tables e below Ω (s₁.setTop (mkF m 20 #[.val (.long r), .second, .val (.long t), .second, s4', s5'] [(.long r)])) := by
    refine S6.trans ?_
    refine XS.lloadN X0.here hx rfl (hb hby d5_19) rfl ?_
    exact Steps.refl _
  obtain ⟨fs, hr, hrun, hended, hW, hsame⟩ := X0.leave (v := some (.long r)) (fun h => by rw [Bd.returns] at h; cases h)
  have hfin : Steps p.tables e below Ω (s₁.setFrames fs) := by
    refine S7.trans ?_
    exact X0.lreturnOut hx Bd.returns (hb hby d5_20) hr
  rw [hΩ] at hfin
  refine ⟨_, _, hfin, hrun, hended, _, _, rfl, ?_, ⟨_, rfl⟩, hW, hsame.mono (by decide) (by decide)⟩
  show Q5 Z q1 q2 h0 n0 _ s₁.heap _
  rw [e0]
  exact ⟨r, rfl, N0, rfl, hgr⟩
theorem d7_0 : decode prog_48_method_1_code 0 = .ok (.aload_n 0, 1) := by decide +kernel
theorem pd_0 : parseMethodDescriptor "()V" = some ⟨[], none⟩ := by decide +kernel
theorem d7_1 : decode prog_48_method_1_code 1 = .ok (.invokespecial 1, 3) := by decide +kernel
theorem d7_4 : decode prog_48_method_1_code 4 = .ok (.iload_n 1, 1) := by decide +kernel
theorem d7_5 : decode prog_48_method_1_code 5 = .ok (.lload_n 2, 1) := by decide +kernel
theorem pd_1 : parseMethodDescriptor "(IJ)V" = some ⟨[.int, .long], none⟩ := by decide +kernel
theorem d7_6 : decode prog_48_method_1_code 6 = .ok (.invokestatic 7, 3) := by decide +kernel
theorem d7_9 : decode prog_48_method_1_code 9 = .ok (.iload 4, 2) := by decide +kernel
theorem d7_11 : decode prog_48_method_1_code 11 = .ok (.ifCond .lt 32, 3) := by decide +kernel
theorem d7_14 : decode prog_48_method_1_code 14 = .ok (.iload 4, 2) := by decide +kernel
theorem d7_16 : decode prog_48_method_1_code 16 = .ok (.iload_n 1, 1) := by decide +kernel
theorem d7_17 : decode prog_48_method_1_code 17 = .ok (.if_icmp .gt 26, 3) := by decide +kernel
theorem d7_20 : decode prog_48_method_1_code 20 = .ok (.iload 4, 2) := by decide +kernel
theorem d7_22 : decode prog_48_method_1_code 22 = .ok (.iload_n 1, 1) := by decide +kernel
theorem d7_23 : decode prog_48_method_1_code 23 = .ok (.if_icmp .ne 13, 3) := by decide +kernel
theorem d7_26 : decode prog_48_method_1_code 26 = .ok (.lload 5, 2) := by decide +kernel
theorem d7_28 : decode prog_48_method_1_code 28 = .ok (.lconst 0, 1) := by decide +kernel
theorem d7_29 : decode prog_48_method_1_code 29 = .ok (.lcmp, 1) := by decide +kernel
theorem d7_30 : decode prog_48_method_1_code 30 = .ok (.ifCond .eq 31, 3) := by decide +kernel
theorem d7_61 : decode prog_48_method_1_code 61 = .ok (.aload_n 0, 1) := by decide +kernel
theorem d7_62 : decode prog_48_method_1_code 62 = .ok (.iload_n 1, 1) := by decide +kernel
theorem d7_63 : decode prog_48_method_1_code 63 = .ok (.putfield 22, 3) := by decide +kernel
theorem d7_66 : decode prog_48_method_1_code 66 = .ok (.aload_n 0, 1) := by decide +kernel
theorem d7_67 : decode prog_48_method_1_code 67 = .ok (.lload_n 2, 1) := by decide +kernel
theorem d7_68 : decode prog_48_method_1_code 68 = .ok (.putfield 28, 3) := by decide +kernel
theorem d7_71 : decode prog_48_method_1_code 71 = .ok (.aload_n 0, 1) := by decide +kernel
theorem d7_72 : decode prog_48_method_1_code 72 = .ok (.iload 4, 2) := by decide +kernel
theorem d7_74 : decode prog_48_method_1_code 74 = .ok (.putfield 32, 3) := by decide +kernel
theorem d7_77 : decode prog_48_method_1_code 77 = .ok (.aload_n 0, 1) := by decide +kernel
theorem d7_78 : decode prog_48_method_1_code 78 = .ok (.lload 5, 2) := by decide +kernel
theorem d7_80 : decode prog_48_method_1_code 80 = .ok (.putfield 35, 3) := by decide +kernel
theorem d7_83 : decode prog_48_method_1_code 83 = .ok (.return_, 1) := by decide +kernel
theorem pn_3 : plainName "com/example/admission_by_rate/admissionbyrate/Quota" = true := by first | (simp [plainName, overriddenIn]; done) | decide +kernel
theorem ef_rm7 (m : MethodId) (x0 : Addr) (x1 : Int32) (x2 : Int64) (x3 : Int32) (x4 : Int64) : entryFrame m #[(.ref x0), (.int x1), (.long x2), (.int x3), (.long x4)] 7 = mkF m 0 #[.val (.ref x0), .val (.int x1), .val (.long x2), .second, .val (.int x3), .val (.long x4), .second] [] := by first | (simp [entryFrame, mkF, argsToLocals, Value.category]; done) | rfl
def Q7 (Z : State) (a : Addr) (p1 : Int32) (q1 : Int64) (p2 : Int32) (q2 : Int64) (h0 : Heap) (n0 : Nat) (v : Option Value) (h : Heap) (L : List Loc) : Prop := v = none ∧ Fr n0 L ∧ Keep h0 h [a]
set_option maxRecDepth 65536 in
set_option maxHeartbeats 40000000 in
theorem rm7 (l : Launch) (Z : State) (a0 : Array Value) (hw : ∀ d ∈ tables_1, d.before a0 Z = true) (ws : List Jvm.Cond) (a : Addr) (p1 : Int32) (q1 : Int64) (p2 : Int32) (q2 : Int64) (h0 : Heap) (n0 : Nat) (Z0 : n0 ≤ h0.size) (E0 : Exa Z h0 a "com/example/admission_by_rate/admissionbyrate/Quota") (P_limit : Fld Z h0 a "com/example/admission_by_rate/admissionbyrate/Quota" "limit" "I" (.int (0 : Int32))) (P_periodMs : Fld Z h0 a "com/example/admission_by_rate/admissionbyrate/Quota" "periodMs" "J" (.long (0 : Int64))) (P_remaining : Fld Z h0 a "com/example/admission_by_rate/admissionbyrate/Quota" "remaining" "I" (.int (0 : Int32))) (P_resetMs : Fld Z h0 a "com/example/admission_by_rate/admissionbyrate/Quota" "resetMs" "J" (.long (0 : Int64))) (g : n0 ≤ a) (b1 : ¬ p1 < (1 : Int32)) (b2 : ¬ q1 < (1 : Int64)) (b3 : ¬ p2 < (0 : Int32)) (b4 : ¬ p1 < p2) (b5 : p2 = p1) (b6 : q2 = (0 : Int64)) :
    MetFree l (⟨"com/example/admission_by_rate/admissionbyrate/Quota", "<init>", "(IJIJ)V"⟩ : MethodName) (head1 (Jvm.Cond.code (⟨"com/example/admission_by_rate/admissionbyrate/Quota", "<init>", "(IJIJ)V"⟩ : MethodName) prog_48_method_1_code 7 none :: ws) ({ frames := 2, cells := 0, slots := 0, locals := 24 } : Room)) (fun aa U => aa = #[(.ref a), (.int p1), (.long q1), (.int p2), (.long q2)] ∧ Z.Warmed39 U.vm ∧ U.heap = h0) (fun _ _ _ _ _ => True) (fun _ U o U' => ∃ v L, o = .returned v ∧ Q7 Z a p1 q1 p2 q2 h0 n0 v U'.heap L ∧ FrameEnd U o U' L ({ frames := 2, cells := 0, slots := 0, locals := 24 } : Room).cells ({ frames := 2, cells := 0, slots := 0, locals := 24 } : Room).slots) := by
  refine MetFree.of_bodySF (plainFor_of_name pn_3) hisR ?_
  intro p e s m args below meth c s₁ Bd hml0 hP hK
  obtain ⟨rfl, hZ, hh⟩ := hP
  have hx := Bd.exec
  have hby := Bd.bytes
  have hml : c.maxLocals = 7 := hml0
  have hown : s.vm.findClass "com/example/admission_by_rate/admissionbyrate/Quota" = some m.cls := findClass_of_methodNamed Bd.named
  have hnm := (name_of_methodNamed Bd.named Bd.method).1
  have X0 : Stand p l e ({ frames := 2, cells := 0, slots := 0, locals := 24 } : Room) s m #[(.ref a), (.int p1), (.long q1), (.int p2), (.long q2)] below meth c s₁ [] 0 0 := Stand.of_body Bd
  have e0 : s₁.heap = h0 := by rw [← hh, Bd.state]; rfl
  have N0 := Fr.nil n0
  obtain ⟨Ω, hΩ⟩ : ∃ z, z = s₁.setTop (entryFrame m #[(.ref a), (.int p1), (.long q1), (.int p2), (.long q2)] 7) := ⟨_, rfl⟩
  have S0 : Steps p.tables e below Ω (s₁.setTop (mkF m 0 #[.val (.ref a), .val (.int p1), .val (.long q1), .second, .val (.int p2), .val (.long q2), .second] [])) := by rw [hΩ]; exact castTop (ef_rm7 m a p1 q1 p2 q2) (Steps.refl _)
  have S1 : Steps p.tables e below Ω (s₁.setTop (mkF m 1 #[.val (.ref a), .val (.int p1), .val (.long q1), .second, .val (.int p2), .val (.long q2), .second] [(.ref a)])) := by
    refine S0.trans ?_
    refine XS.aloadN X0.here hx rfl (hb hby d7_0) rfl rfl ?_
    exact Steps.refl _
  obtain ⟨_, _, ⟨T2, L2, k2, n2⟩, -, X2, ⟨Lc2, hQ2, l2, y2, z2⟩, st2⟩ := X0.specialBack hx (y := (⟨"java/lang/Record", "<init>", "()V"⟩ : MethodName)) rfl hown (mvT hZ (hw _ (List.mem_of_getElem? (i := 42) rfl))) (mvT hZ (hw _ (List.mem_of_getElem? (i := 43) rfl))) (mvT hZ (hw _ (List.mem_of_getElem? (i := 46) rfl))) (by decide) (backOf (W := 0) (rm8 l Z a0 hw [] a  h0 n0 Z0 ) hZ (hw _ (List.mem_of_getElem? (i := 46) rfl)) (hw _ (List.mem_of_getElem? (i := 45) rfl)) (by decide) (by decide)) (g := (mkF m 1 #[.val (.ref a), .val (.int p1), .val (.long q1), .second, .val (.int p2), .val (.long q2), .second] [(.ref a)])) rfl (by rw [hml]; rfl) (Steps.refl _) (a := a) (argsL := []) (rest := []) (lenOf pd_0 rfl) rfl (by show 2 * 0 + _ ≤ _; exact Nat.le_of_eq rfl) (hb hby d7_1) (fun _ _ => ⟨rfl, e0, (by decide : 0 + 0 ≤ _), (by decide : 0 + 0 ≤ _)⟩)
  dsimp only [Pt.U, Pt.locs, Pt.cells, Pt.slots] at X2 l2 y2 z2 st2 hQ2
  subst l2 y2 z2
  obtain ⟨rfl, N2q, e2⟩ := hQ2
  have N2 := Fr.app N0 N2q
  have S3 : Steps p.tables e below Ω (T2.setTop (mkF m 4 #[.val (.ref a), .val (.int p1), .val (.long q1), .second, .val (.int p2), .val (.long q2), .second] [])) := S1.trans st2
  have S4 : Steps p.tables e below Ω (T2.setTop (mkF m 6 #[.val (.ref a), .val (.int p1), .val (.long q1), .second, .val (.int p2), .val (.long q2), .second] [(.long q1), (.int p1)])) := by
    refine S3.trans ?_
    refine XS.iloadN X2.here hx rfl (hb hby d7_4) rfl ?_
    show Steps p.tables e below (T2.setTop (mkF m 5 #[.val (.ref a), .val (.int p1), .val (.long q1), .second, .val (.int p2), .val (.long q2), .second] [(.int p1)])) _
    refine XS.lloadN X2.here hx rfl (hb hby d7_5) rfl ?_
    exact Steps.refl _
  obtain ⟨_, _, ⟨T5, L5, k5, n5⟩, -, X5, ⟨Lc5, hQ5, l5, y5, z5⟩, st5⟩ := Jvm.LawKit.callS X2 hx (y := (⟨"com/example/admission_by_rate/admissionbyrate/LimitAndPeriod", "check", "(IJ)V"⟩ : MethodName)) hown (mvT hZ (hw _ (List.mem_of_getElem? (i := 48) rfl))) (mvT hZ (hw _ (List.mem_of_getElem? (i := 16) rfl))) (mvT hZ (hw _ (List.mem_of_getElem? (i := 17) rfl))) (mvT hZ (hw _ (List.mem_of_getElem? (i := 18) rfl))) (by decide) (backOf (W := 0) (rm4 l Z a0 hw [] p1 q1  h0 n0 Z0 b1 b2) hZ (hw _ (List.mem_of_getElem? (i := 18) rfl)) (hw _ (List.mem_of_getElem? (i := 17) rfl)) (by decide) (by decide)) (g := (mkF m 6 #[.val (.ref a), .val (.int p1), .val (.long q1), .second, .val (.int p2), .val (.long q2), .second] [(.long q1), (.int p1)])) rfl (by rw [hml]; rfl) (argsL := [(.int p1), (.long q1)]) (rest := []) (lenOf pd_1 rfl) rfl (by show 2 * 0 + _ ≤ _; exact Nat.le_of_eq rfl) (hb hby d7_6) (fun _ _ => ⟨rfl, e2, (by decide : 0 + 0 ≤ _), (by decide : 0 + 0 ≤ _)⟩)
  dsimp only [Pt.U, Pt.locs, Pt.cells, Pt.slots] at X5 l5 y5 z5 st5 hQ5
  subst l5 y5 z5
  obtain ⟨rfl, N5q, e5⟩ := hQ5
  have N5 := Fr.app N2 N5q
  have S6 : Steps p.tables e below Ω (T5.setTop (mkF m 9 #[.val (.ref a), .val (.int p1), .val (.long q1), .second, .val (.int p2), .val (.long q2), .second] [])) := S4.trans (st5 _ (Steps.refl _))
  have S7 : Steps p.tables e below Ω (T5.setTop (mkF m 63 #[.val (.ref a), .val (.int p1), .val (.long q1), .second, .val (.int p2), .val (.long q2), .second] [(.int p1), (.ref a)])) := by
    refine S6.trans ?_
    refine XS.iload X5.here hx rfl (hb hby d7_9) rfl ?_
    show Steps p.tables e below (T5.setTop (mkF m 11 #[.val (.ref a), .val (.int p1), .val (.long q1), .second, .val (.int p2), .val (.long q2), .second] [(.int p2)])) _
    refine XS.ifNo X5.here hx rfl (hb hby d7_11) rfl (XT.i0_lt_f b3) ?_
    show Steps p.tables e below (T5.setTop (mkF m 14 #[.val (.ref a), .val (.int p1), .val (.long q1), .second, .val (.int p2), .val (.long q2), .second] [])) _
    refine XS.iload X5.here hx rfl (hb hby d7_14) rfl ?_
    show Steps p.tables e below (T5.setTop (mkF m 16 #[.val (.ref a), .val (.int p1), .val (.long q1), .second, .val (.int p2), .val (.long q2), .second] [(.int p2)])) _
    refine XS.iloadN X5.here hx rfl (hb hby d7_16) rfl ?_
    show Steps p.tables e below (T5.setTop (mkF m 17 #[.val (.ref a), .val (.int p1), .val (.long q1), .second, .val (.int p2), .val (.long q2), .second] [(.int p1), (.int p2)])) _
    refine XS.icmpNo X5.here hx rfl (hb hby d7_17) rfl (XT.ii_gt_f b4) ?_
    show Steps p.tables e below (T5.setTop (mkF m 20 #[.val (.ref a), .val (.int p1), .val (.long q1), .second, .val (.int p2), .val (.long q2), .second] [])) _
    refine XS.iload X5.here hx rfl (hb hby d7_20) rfl ?_
    show Steps p.tables e below (T5.setTop (mkF m 22 #[.val (.ref a), .val (.int p1), .val (.long q1), .second, .val (.int p2), .val (.long q2), .second] [(.int p2)])) _
    refine XS.iloadN X5.here hx rfl (hb hby d7_22) rfl ?_
    show Steps p.tables e below (T5.setTop (mkF m 23 #[.val (.ref a), .val (.int p1), .val (.long q1), .second, .val (.int p2), .val (.long q2), .second] [(.int p1), (.int p2)])) _
    refine XS.icmpNo X5.here hx rfl (hb hby d7_23) rfl (XT.ii_ne_f b5) ?_
    show Steps p.tables e below (T5.setTop (mkF m 26 #[.val (.ref a), .val (.int p1), .val (.long q1), .second, .val (.int p2), .val (.long q2), .second] [])) _
    refine XS.lload X5.here hx rfl (hb hby d7_26) rfl ?_
    show Steps p.tables e below (T5.setTop (mkF m 28 #[.val (.ref a), .val (.int p1), .val (.long q1), .second, .val (.int p2), .val (.long q2), .second] [(.long q2)])) _
    refine XS.lconst X5.here hx rfl (hb hby d7_28) ?_
    show Steps p.tables e below (T5.setTop (mkF m 29 #[.val (.ref a), .val (.int p1), .val (.long q1), .second, .val (.int p2), .val (.long q2), .second] [(.long (0 : Int64)), (.long q2)])) _
    refine XS.lcmp X5.here hx rfl (hb hby d7_29) rfl ?_
    show Steps p.tables e below (T5.setTop (mkF m 30 #[.val (.ref a), .val (.int p1), .val (.long q1), .second, .val (.int p2), .val (.long q2), .second] [(.int (lcmpW q2 (0 : Int64)))])) _
    refine XS.ifYes X5.here hx rfl (pc0 := 30) (pc' := 61) rfl (hb hby d7_30) rfl (XT.ll_eq_t b6) (by decide) (by decide) ?_
    show Steps p.tables e below (T5.setTop (mkF m 61 #[.val (.ref a), .val (.int p1), .val (.long q1), .second, .val (.int p2), .val (.long q2), .second] [])) _
    refine XS.aloadN X5.here hx rfl (hb hby d7_61) rfl rfl ?_
    show Steps p.tables e below (T5.setTop (mkF m 62 #[.val (.ref a), .val (.int p1), .val (.long q1), .second, .val (.int p2), .val (.long q2), .second] [(.ref a)])) _
    refine XS.iloadN X5.here hx rfl (hb hby d7_62) rfl ?_
    exact Steps.refl _
  obtain ⟨T8, h8, X8, e8, W8, st8⟩ := putF X5 hx hZ hown (host := "") (Or.inl (hw _ (List.mem_of_getElem? (i := 49) rfl))) Via.refl e5 P_limit E0 (Or.inr ⟨(hw _ (List.mem_of_getElem? (i := 50) rfl)), rfl, hnm⟩) (hw _ (List.mem_of_getElem? (i := 38) rfl)) (ty := .int) (by decide) rfl rfl (g := (mkF m 63 #[.val (.ref a), .val (.int p1), .val (.long q1), .second, .val (.int p2), .val (.long q2), .second] [(.int p1), (.ref a)])) rfl rfl (hb hby d7_63)
  have S9 : Steps p.tables e below Ω (T8.setTop (mkF m 66 #[.val (.ref a), .val (.int p1), .val (.long q1), .second, .val (.int p2), .val (.long q2), .second] [])) := S7.trans (st8 _ (Steps.refl _))
  have N8 := Fr.snoc X8 N5 g
  have E_a_8 := (E0).wr W8
  have F_limit_a_8 : Fld Z h8 a "com/example/admission_by_rate/admissionbyrate/Quota" "limit" "I" (.int p1) := (P_limit).same W8
  have F_periodMs_a_8 : Fld Z h8 a "com/example/admission_by_rate/admissionbyrate/Quota" "periodMs" "J" (.long (0 : Int64)) := (P_periodMs).other W8 (Or.inr (slot_ne (Or.inr (hw _ (List.mem_of_getElem? (i := 52) rfl))) (Or.inr (hw _ (List.mem_of_getElem? (i := 50) rfl))) (by decide) (t := .long) (t' := .int) (by decide) (by decide)))
  have F_remaining_a_8 : Fld Z h8 a "com/example/admission_by_rate/admissionbyrate/Quota" "remaining" "I" (.int (0 : Int32)) := (P_remaining).other W8 (Or.inr (slot_ne (Or.inr (hw _ (List.mem_of_getElem? (i := 54) rfl))) (Or.inr (hw _ (List.mem_of_getElem? (i := 50) rfl))) (by decide) (t := .int) (t' := .int) (by decide) (by decide)))
  have F_resetMs_a_8 : Fld Z h8 a "com/example/admission_by_rate/admissionbyrate/Quota" "resetMs" "J" (.long (0 : Int64)) := (P_resetMs).other W8 (Or.inr (slot_ne (Or.inr (hw _ (List.mem_of_getElem? (i := 56) rfl))) (Or.inr (hw _ (List.mem_of_getElem? (i := 50) rfl))) (by decide) (t := .long) (t' := .int) (by decide) (by decide)))
  have S10 : Steps p.tables e below Ω (T8.setTop (mkF m 68 #[.val (.ref a), .val (.int p1), .val (.long q1), .second, .val (.int p2), .val (.long q2), .second] [(.long q1), (.ref a)])) := by
    refine S9.trans ?_
    refine XS.aloadN X8.here hx rfl (hb hby d7_66) rfl rfl ?_
    show Steps p.tables e below (T8.setTop (mkF m 67 #[.val (.ref a), .val (.int p1), .val (.long q1), .second, .val (.int p2), .val (.long q2), .second] [(.ref a)])) _
    refine XS.lloadN X8.here hx rfl (hb hby d7_67) rfl ?_
    exact Steps.refl _
  obtain ⟨T11, h11, X11, e11, W11, st11⟩ := putF X8 hx hZ hown (host := "") (Or.inl (hw _ (List.mem_of_getElem? (i := 51) rfl))) Via.refl e8 F_periodMs_a_8 E_a_8 (Or.inr ⟨(hw _ (List.mem_of_getElem? (i := 52) rfl)), rfl, hnm⟩) (hw _ (List.mem_of_getElem? (i := 38) rfl)) (ty := .long) (by decide) rfl rfl (g := (mkF m 68 #[.val (.ref a), .val (.int p1), .val (.long q1), .second, .val (.int p2), .val (.long q2), .second] [(.long q1), (.ref a)])) rfl rfl (hb hby d7_68)
  have S12 : Steps p.tables e below Ω (T11.setTop (mkF m 71 #[.val (.ref a), .val (.int p1), .val (.long q1), .second, .val (.int p2), .val (.long q2), .second] [])) := S10.trans (st11 _ (Steps.refl _))
  have N11 := Fr.snoc X11 N8 g
  have E_a_11 := (E_a_8).wr W11
  have F_limit_a_11 : Fld Z h11 a "com/example/admission_by_rate/admissionbyrate/Quota" "limit" "I" (.int p1) := (F_limit_a_8).other W11 (Or.inr (slot_ne (Or.inr (hw _ (List.mem_of_getElem? (i := 50) rfl))) (Or.inr (hw _ (List.mem_of_getElem? (i := 52) rfl))) (by decide) (t := .int) (t' := .long) (by decide) (by decide)))
  have F_periodMs_a_11 : Fld Z h11 a "com/example/admission_by_rate/admissionbyrate/Quota" "periodMs" "J" (.long q1) := (F_periodMs_a_8).same W11
  have F_remaining_a_11 : Fld Z h11 a "com/example/admission_by_rate/admissionbyrate/Quota" "remaining" "I" (.int (0 : Int32)) := (F_remaining_a_8).other W11 (Or.inr (slot_ne (Or.inr (hw _ (List.mem_of_getElem? (i := 54) rfl))) (Or.inr (hw _ (List.mem_of_getElem? (i := 52) rfl))) (by decide) (t := .int) (t' := .long) (by decide) (by decide)))
  have F_resetMs_a_11 : Fld Z h11 a "com/example/admission_by_rate/admissionbyrate/Quota" "resetMs" "J" (.long (0 : Int64)) := (F_resetMs_a_8).other W11 (Or.inr (slot_ne (Or.inr (hw _ (List.mem_of_getElem? (i := 56) rfl))) (Or.inr (hw _ (List.mem_of_getElem? (i := 52) rfl))) (by decide) (t := .long) (t' := .long) (by decide) (by decide)))
  have S13 : Steps p.tables e below Ω (T11.setTop (mkF m 74 #[.val (.ref a), .val (.int p1), .val (.long q1), .second, .val (.int p2), .val (.long q2), .second] [(.int p2), (.ref a)])) := by
    refine S12.trans ?_
    refine XS.aloadN X11.here hx rfl (hb hby d7_71) rfl rfl ?_
    show Steps p.tables e below (T11.setTop (mkF m 72 #[.val (.ref a), .val (.int p1), .val (.long q1), .second, .val (.int p2), .val (.long q2), .second] [(.ref a)])) _
    refine XS.iload X11.here hx rfl (hb hby d7_72) rfl ?_
    exact Steps.refl _
  obtain ⟨T14, h14, X14, e14, W14, st14⟩ := putF X11 hx hZ hown (host := "") (Or.inl (hw _ (List.mem_of_getElem? (i := 53) rfl))) Via.refl e11 F_remaining_a_11 E_a_11 (Or.inr ⟨(hw _ (List.mem_of_getElem? (i := 54) rfl)), rfl, hnm⟩) (hw _ (List.mem_of_getElem? (i := 38) rfl)) (ty := .int) (by decide) rfl rfl (g := (mkF m 74 #[.val (.ref a), .val (.int p1), .val (.long q1), .second, .val (.int p2), .val (.long q2), .second] [(.int p2), (.ref a)])) rfl rfl (hb hby d7_74)
  have S15 : Steps p.tables e below Ω (T14.setTop (mkF m 77 #[.val (.ref a), .val (.int p1), .val (.long q1), .second, .val (.int p2), .val (.long q2), .second] [])) := S13.trans (st14 _ (Steps.refl _))
  have N14 := Fr.snoc X14 N11 g
  have E_a_14 := (E_a_11).wr W14
  have F_limit_a_14 : Fld Z h14 a "com/example/admission_by_rate/admissionbyrate/Quota" "limit" "I" (.int p1) := (F_limit_a_11).other W14 (Or.inr (slot_ne (Or.inr (hw _ (List.mem_of_getElem? (i := 50) rfl))) (Or.inr (hw _ (List.mem_of_getElem? (i := 54) rfl))) (by decide) (t := .int) (t' := .int) (by decide) (by decide)))
  have F_periodMs_a_14 : Fld Z h14 a "com/example/admission_by_rate/admissionbyrate/Quota" "periodMs" "J" (.long q1) := (F_periodMs_a_11).other W14 (Or.inr (slot_ne (Or.inr (hw _ (List.mem_of_getElem? (i := 52) rfl))) (Or.inr (hw _ (List.mem_of_getElem? (i := 54) rfl))) (by decide) (t := .long) (t' := .int) (by decide) (by decide)))
  have F_remaining_a_14 : Fld Z h14 a "com/example/admission_by_rate/admissionbyrate/Quota" "remaining" "I" (.int p2) := (F_remaining_a_11).same W14
  have F_resetMs_a_14 : Fld Z h14 a "com/example/admission_by_rate/admissionbyrate/Quota" "resetMs" "J" (.long (0 : Int64)) := (F_resetMs_a_11).other W14 (Or.inr (slot_ne (Or.inr (hw _ (List.mem_of_getElem? (i := 56) rfl))) (Or.inr (hw _ (List.mem_of_getElem? (i := 54) rfl))) (by decide) (t := .long) (t' := .int) (by decide) (by decide)))
  have S16 : Steps p.tables e below Ω (T14.setTop (mkF m 80 #[.val (.ref a), .val (.int p1), .val (.long q1), .second, .val (.int p2), .val (.long q2), .second] [(.long q2), (.ref a)])) := by
    refine S15.trans ?_
    refine XS.aloadN X14.here hx rfl (hb hby d7_77) rfl rfl ?_
    show Steps p.tables e below (T14.setTop (mkF m 78 #[.val (.ref a), .val (.int p1), .val (.long q1), .second, .val (.int p2), .val (.long q2), .second] [(.ref a)])) _
    refine XS.lload X14.here hx rfl (hb hby d7_78) rfl ?_
    exact Steps.refl _
  obtain ⟨T17, h17, X17, e17, W17, st17⟩ := putF X14 hx hZ hown (host := "") (Or.inl (hw _ (List.mem_of_getElem? (i := 55) rfl))) Via.refl e14 F_resetMs_a_14 E_a_14 (Or.inr ⟨(hw _ (List.mem_of_getElem? (i := 56) rfl)), rfl, hnm⟩) (hw _ (List.mem_of_getElem? (i := 38) rfl)) (ty := .long) (by decide) rfl rfl (g := (mkF m 80 #[.val (.ref a), .val (.int p1), .val (.long q1), .second, .val (.int p2), .val (.long q2), .second] [(.long q2), (.ref a)])) rfl rfl (hb hby d7_80)
  have S18 : Steps p.tables e below Ω (T17.setTop (mkF m 83 #[.val (.ref a), .val (.int p1), .val (.long q1), .second, .val (.int p2), .val (.long q2), .second] [])) := S16.trans (st17 _ (Steps.refl _))
  have N17 := Fr.snoc X17 N14 g
  have E_a_17 := (E_a_14).wr W17
  have F_limit_a_17 : Fld Z h17 a "com/example/admission_by_rate/admissionbyrate/Quota" "limit" "I" (.int p1) := (F_limit_a_14).other W17 (Or.inr (slot_ne (Or.inr (hw _ (List.mem_of_getElem? (i := 50) rfl))) (Or.inr (hw _ (List.mem_of_getElem? (i := 56) rfl))) (by decide) (t := .int) (t' := .long) (by decide) (by decide)))
  have F_periodMs_a_17 : Fld Z h17 a "com/example/admission_by_rate/admissionbyrate/Quota" "periodMs" "J" (.long q1) := (F_periodMs_a_14).other W17 (Or.inr (slot_ne (Or.inr (hw _ (List.mem_of_getElem? (i := 52) rfl))) (Or.inr (hw _ (List.mem_of_getElem? (i := 56) rfl))) (by decide) (t := .long) (t' := .long) (by decide) (by decide)))
  have F_remaining_a_17 : Fld Z h17 a "com/example/admission_by_rate/admissionbyrate/Quota" "remaining" "I" (.int p2) := (F_remaining_a_14).other W17 (Or.inr (slot_ne (Or.inr (hw _ (List.mem_of_getElem? (i := 54) rfl))) (Or.inr (hw _ (List.mem_of_getElem? (i := 56) rfl))) (by decide) (t := .int) (t' := .long) (by decide) (by decide)))
  have F_resetMs_a_17 : Fld Z h17 a "com/example/admission_by_rate/admissionbyrate/Quota" "resetMs" "J" (.long q2) := (F_resetMs_a_14).same W17
  obtain ⟨fs, hr, hrun, hended, hW, hsame⟩ := X17.leave (v := none) (fun _ => rfl)
  have hfin : Steps p.tables e below Ω (T17.setFrames fs) := by
    refine S18.trans ?_
    exact X17.returnOut hx Bd.returns (hb hby d7_83) hr
  rw [hΩ] at hfin
  refine ⟨_, _, hfin, hrun, hended, _, _, rfl, ?_, ⟨_, rfl⟩, hW, hsame.mono (by decide) (by decide)⟩
  show Q7 Z a p1 q1 p2 q2 h0 n0 _ T17.heap _
  rw [e17]
  exact ⟨rfl, N17, (((((((((Keep.refl h0 [a])).wr W8 (Or.inl (List.mem_of_getElem? (i := 0) rfl)))).wr W11 (Or.inl (List.mem_of_getElem? (i := 0) rfl)))).wr W14 (Or.inl (List.mem_of_getElem? (i := 0) rfl)))).wr W17 (Or.inl (List.mem_of_getElem? (i := 0) rfl)))⟩
theorem d6_0 : decode prog_48_method_2_code 0 = .ok (.new 23, 3) := by decide +kernel
theorem d6_3 : decode prog_48_method_2_code 3 = .ok (.dup, 1) := by decide +kernel
theorem d6_4 : decode prog_48_method_2_code 4 = .ok (.iload_n 0, 1) := by decide +kernel
theorem d6_5 : decode prog_48_method_2_code 5 = .ok (.lload_n 1, 1) := by decide +kernel
theorem d6_6 : decode prog_48_method_2_code 6 = .ok (.iload_n 0, 1) := by decide +kernel
theorem d6_7 : decode prog_48_method_2_code 7 = .ok (.lconst 0, 1) := by decide +kernel
theorem pd_2 : parseMethodDescriptor "(IJIJ)V" = some ⟨[.int, .long, .int, .long], none⟩ := by decide +kernel
theorem d6_8 : decode prog_48_method_2_code 8 = .ok (.invokespecial 38, 3) := by decide +kernel
theorem d6_11 : decode prog_48_method_2_code 11 = .ok (.areturn, 1) := by decide +kernel
theorem ef_rm6 (m : MethodId) (x0 : Int32) (x1 : Int64) : entryFrame m #[(.int x0), (.long x1)] 3 = mkF m 0 #[.val (.int x0), .val (.long x1), .second] [] := by first | (simp [entryFrame, mkF, argsToLocals, Value.category]; done) | rfl
def Q6 (Z : State) (p1 : Int32) (q1 : Int64) (h0 : Heap) (n0 : Nat) (v : Option Value) (h : Heap) (L : List Loc) : Prop := ∃ b : Addr, v = some (.ref b) ∧ Fr n0 L ∧ Keep h0 h []
set_option maxRecDepth 65536 in
set_option maxHeartbeats 40000000 in
theorem rm6 (l : Launch) (Z : State) (a0 : Array Value) (hw : ∀ d ∈ tables_1, d.before a0 Z = true) (ws : List Jvm.Cond) (p1 : Int32) (q1 : Int64) (h0 : Heap) (n0 : Nat) (Z0 : n0 ≤ h0.size) (b1 : ¬ p1 < (1 : Int32)) (b2 : ¬ q1 < (1 : Int64)) (b3 : ¬ p1 < (0 : Int32)) (b4 : ¬ p1 < p1) :
    MetFree l (⟨"com/example/admission_by_rate/admissionbyrate/Quota", "full", "(IJ)Lcom/example/admission_by_rate/admissionbyrate/Quota;"⟩ : MethodName) (head1 (Jvm.Cond.code (⟨"com/example/admission_by_rate/admissionbyrate/Quota", "full", "(IJ)Lcom/example/admission_by_rate/admissionbyrate/Quota;"⟩ : MethodName) prog_48_method_2_code 3 (some (.object "com/example/admission_by_rate/admissionbyrate/Quota")) :: ws) ({ frames := 3, cells := 1, slots := 4, locals := 43 } : Room)) (fun aa U => aa = #[(.int p1), (.long q1)] ∧ Z.Warmed39 U.vm ∧ U.heap = h0) (fun _ _ _ _ _ => True) (fun _ U o U' => ∃ v L, o = .returned v ∧ Q6 Z p1 q1 h0 n0 v U'.heap L ∧ FrameEnd U o U' L ({ frames := 3, cells := 1, slots := 4, locals := 43 } : Room).cells ({ frames := 3, cells := 1, slots := 4, locals := 43 } : Room).slots) := by
  refine MetFree.of_bodySF (plainFor_of_name pn_3) hisR ?_
  intro p e s m args below meth c s₁ Bd hml0 hP hK
  obtain ⟨rfl, hZ, hh⟩ := hP
  have hx := Bd.exec
  have hby := Bd.bytes
  have hml : c.maxLocals = 3 := hml0
  have hown : s.vm.findClass "com/example/admission_by_rate/admissionbyrate/Quota" = some m.cls := findClass_of_methodNamed Bd.named
  have hnm := (name_of_methodNamed Bd.named Bd.method).1
  have X0 : Stand p l e ({ frames := 3, cells := 1, slots := 4, locals := 43 } : Room) s m #[(.int p1), (.long q1)] below meth c s₁ [] 0 0 := Stand.of_body Bd
  have e0 : s₁.heap = h0 := by rw [← hh, Bd.state]; rfl
  have N0 := Fr.nil n0
  obtain ⟨Ω, hΩ⟩ : ∃ z, z = s₁.setTop (entryFrame m #[(.int p1), (.long q1)] 3) := ⟨_, rfl⟩
  have S0 : Steps p.tables e below Ω (s₁.setTop (mkF m 0 #[.val (.int p1), .val (.long q1), .second] [])) := by rw [hΩ]; exact castTop (ef_rm6 m p1 q1) (Steps.refl _)
  obtain ⟨T1, h1, X1, e1, E1, A1, D1, -, st1⟩ := newO X0 hx hZ hown (hw _ (List.mem_of_getElem? (i := 37) rfl)) (hw _ (List.mem_of_getElem? (i := 38) rfl)) (hw _ (List.mem_of_getElem? (i := 35) rfl)) e0 (g := (mkF m 0 #[.val (.int p1), .val (.long q1), .second] [])) rfl (hb hby d6_0) (by decide) (by decide)
  obtain ⟨b, s_b⟩ : ∃ z, z = h0.size := ⟨_, rfl⟩
  rw [← s_b] at A1 D1 st1
  have g_b : n0 ≤ b := Nat.le_trans Z0 (Nat.le_of_eq s_b.symm)
  have F_limit_b : Fld Z h1 b "com/example/admission_by_rate/admissionbyrate/Quota" "limit" "I" (.int (0 : Int32)) := D1 (Or.inr (hw _ (List.mem_of_getElem? (i := 50) rfl))) (ty := .int) (by decide)
  have F_periodMs_b : Fld Z h1 b "com/example/admission_by_rate/admissionbyrate/Quota" "periodMs" "J" (.long (0 : Int64)) := D1 (Or.inr (hw _ (List.mem_of_getElem? (i := 52) rfl))) (ty := .long) (by decide)
  have F_remaining_b : Fld Z h1 b "com/example/admission_by_rate/admissionbyrate/Quota" "remaining" "I" (.int (0 : Int32)) := D1 (Or.inr (hw _ (List.mem_of_getElem? (i := 54) rfl))) (ty := .int) (by decide)
  have F_resetMs_b : Fld Z h1 b "com/example/admission_by_rate/admissionbyrate/Quota" "resetMs" "J" (.long (0 : Int64)) := D1 (Or.inr (hw _ (List.mem_of_getElem? (i := 56) rfl))) (ty := .long) (by decide)
  have S2 : Steps p.tables e below Ω (T1.setTop (mkF m 3 #[.val (.int p1), .val (.long q1), .second] [(.ref b)])) := S0.trans (st1 _ (Steps.refl _))
  have S3 : Steps p.tables e below Ω (T1.setTop (mkF m 8 #[.val (.int p1), .val (.long q1), .second] [(.long (0 : Int64)), (.int p1), (.long q1), (.int p1), (.ref b), (.ref b)])) := by
    refine S2.trans ?_
    refine XS.dup X1.here hx rfl (hb hby d6_3) rfl rfl ?_
    show Steps p.tables e below (T1.setTop (mkF m 4 #[.val (.int p1), .val (.long q1), .second] [(.ref b), (.ref b)])) _
    refine XS.iloadN X1.here hx rfl (hb hby d6_4) rfl ?_
    show Steps p.tables e below (T1.setTop (mkF m 5 #[.val (.int p1), .val (.long q1), .second] [(.int p1), (.ref b), (.ref b)])) _
    refine XS.lloadN X1.here hx rfl (hb hby d6_5) rfl ?_
    show Steps p.tables e below (T1.setTop (mkF m 6 #[.val (.int p1), .val (.long q1), .second] [(.long q1), (.int p1), (.ref b), (.ref b)])) _
    refine XS.iloadN X1.here hx rfl (hb hby d6_6) rfl ?_
    show Steps p.tables e below (T1.setTop (mkF m 7 #[.val (.int p1), .val (.long q1), .second] [(.int p1), (.long q1), (.int p1), (.ref b), (.ref b)])) _
    refine XS.lconst X1.here hx rfl (hb hby d6_7) ?_
    exact Steps.refl _
  obtain ⟨_, _, ⟨T4, L4, k4, n4⟩, -, X4, ⟨Lc4, hQ4, l4, y4, z4⟩, st4⟩ := X1.specialBack hx (y := (⟨"com/example/admission_by_rate/admissionbyrate/Quota", "<init>", "(IJIJ)V"⟩ : MethodName)) rfl hown (mvT hZ (hw _ (List.mem_of_getElem? (i := 39) rfl))) (mvT hZ (hw _ (List.mem_of_getElem? (i := 40) rfl))) (mvT hZ (hw _ (List.mem_of_getElem? (i := 41) rfl))) (by decide) (backOf (W := 1) (rm7 l Z a0 hw [] b p1 q1 p1 (0 : Int64)  h1 n0 (Nat.le_trans Z0 E1.1) A1 F_limit_b F_periodMs_b F_remaining_b F_resetMs_b g_b b1 b2 b3 b4 rfl rfl) hZ (hw _ (List.mem_of_getElem? (i := 41) rfl)) (hw _ (List.mem_of_getElem? (i := 35) rfl)) (by decide) (by decide)) (g := (mkF m 8 #[.val (.int p1), .val (.long q1), .second] [(.long (0 : Int64)), (.int p1), (.long q1), (.int p1), (.ref b), (.ref b)])) rfl (by rw [hml]; rfl) (Steps.refl _) (a := b) (argsL := [(.int p1), (.long q1), (.int p1), (.long (0 : Int64))]) (rest := [(.ref b)]) (lenOf pd_2 rfl) rfl (by show 2 * 0 + _ ≤ _; exact Nat.le_of_eq rfl) (hb hby d6_8) (fun _ _ => ⟨rfl, e1, (by decide : 1 + 0 ≤ _), (by decide : 4 + 0 ≤ _)⟩)
  dsimp only [Pt.U, Pt.locs, Pt.cells, Pt.slots] at X4 l4 y4 z4 st4 hQ4
  subst l4 y4 z4
  obtain ⟨rfl, N4q, K4⟩ := hQ4
  have N4 := Fr.app N0 N4q
  have S5 : Steps p.tables e below Ω (T4.setTop (mkF m 11 #[.val (.int p1), .val (.long q1), .second] [(.ref b)])) := S3.trans st4
  have KK : Keep h0 T4.heap [] := ((Keep.refl h0 []).ext E1).trans K4 (fun x hx => Or.inr (by cases List.mem_singleton.mp hx; exact Nat.le_of_eq s_b.symm))
  obtain ⟨fs, hr, hrun, hended, hW, hsame⟩ := X4.leave (v := some (.ref b)) (fun h => by rw [Bd.returns] at h; cases h)
  have hfin : Steps p.tables e below Ω (T4.setFrames fs) := by
    refine S5.trans ?_
    jvm_step X4.here [X4.here.top, hx, (hb hby d6_11), X4.method', Bd.returns, Value.isRef, FieldType.isReference]
    first | (intro acts; rw [hr _ acts rfl rfl rfl]) | rw [hr _ _ rfl rfl rfl]
    exact Steps.refl _
  rw [hΩ] at hfin
  refine ⟨_, _, hfin, hrun, hended, _, _, rfl, ?_, ⟨_, rfl⟩, hW, hsame.mono (by decide) (by decide)⟩
  show Q6 Z p1 q1 h0 n0 _ T4.heap _
  exact ⟨b, rfl, N4, KK⟩
theorem d2_0 : decode prog_4_method_1_code 0 = .ok (.aload_n 0, 1) := by decide +kernel
theorem d2_1 : decode prog_4_method_1_code 1 = .ok (.invokespecial 3, 3) := by decide +kernel
theorem d2_4 : decode prog_4_method_1_code 4 = .ok (.iload_n 1, 1) := by decide +kernel
theorem d2_5 : decode prog_4_method_1_code 5 = .ok (.lload_n 2, 1) := by decide +kernel
theorem d2_6 : decode prog_4_method_1_code 6 = .ok (.invokestatic 9, 3) := by decide +kernel
theorem d2_9 : decode prog_4_method_1_code 9 = .ok (.iload_n 1, 1) := by decide +kernel
theorem d2_10 : decode prog_4_method_1_code 10 = .ok (.i2l, 1) := by decide +kernel
theorem d2_11 : decode prog_4_method_1_code 11 = .ok (.lload_n 2, 1) := by decide +kernel
theorem pd_3 : parseMethodDescriptor "(JJ)J" = some ⟨[.long, .long], some .long⟩ := by decide +kernel
theorem d2_12 : decode prog_4_method_1_code 12 = .ok (.invokestatic 15, 3) := by decide +kernel
theorem d2_15 : decode prog_4_method_1_code 15 = .ok (.lstore 4, 2) := by decide +kernel
theorem d2_17 : decode prog_4_method_1_code 17 = .ok (.aload_n 0, 1) := by decide +kernel
theorem d2_18 : decode prog_4_method_1_code 18 = .ok (.iload_n 1, 1) := by decide +kernel
theorem d2_19 : decode prog_4_method_1_code 19 = .ok (.putfield 21, 3) := by decide +kernel
theorem d2_22 : decode prog_4_method_1_code 22 = .ok (.aload_n 0, 1) := by decide +kernel
theorem d2_23 : decode prog_4_method_1_code 23 = .ok (.lload_n 2, 1) := by decide +kernel
theorem d2_24 : decode prog_4_method_1_code 24 = .ok (.putfield 25, 3) := by decide +kernel
theorem d2_27 : decode prog_4_method_1_code 27 = .ok (.aload_n 0, 1) := by decide +kernel
theorem d2_28 : decode prog_4_method_1_code 28 = .ok (.iload_n 1, 1) := by decide +kernel
theorem d2_29 : decode prog_4_method_1_code 29 = .ok (.i2l, 1) := by decide +kernel
theorem d2_30 : decode prog_4_method_1_code 30 = .ok (.lload 4, 2) := by decide +kernel
theorem d2_32 : decode prog_4_method_1_code 32 = .ok (.ldiv, 1) := by decide +kernel
theorem d2_33 : decode prog_4_method_1_code 33 = .ok (.putfield 29, 3) := by decide +kernel
theorem d2_36 : decode prog_4_method_1_code 36 = .ok (.aload_n 0, 1) := by decide +kernel
theorem d2_37 : decode prog_4_method_1_code 37 = .ok (.lload_n 2, 1) := by decide +kernel
theorem d2_38 : decode prog_4_method_1_code 38 = .ok (.lload 4, 2) := by decide +kernel
theorem d2_40 : decode prog_4_method_1_code 40 = .ok (.ldiv, 1) := by decide +kernel
theorem d2_41 : decode prog_4_method_1_code 41 = .ok (.putfield 32, 3) := by decide +kernel
theorem d2_44 : decode prog_4_method_1_code 44 = .ok (.lload_n 2, 1) := by decide +kernel
theorem d2_45 : decode prog_4_method_1_code 45 = .ok (.ldc2_w 35, 3) := by decide +kernel
theorem d2_48 : decode prog_4_method_1_code 48 = .ok (.aload_n 0, 1) := by decide +kernel
theorem d2_49 : decode prog_4_method_1_code 49 = .ok (.getfield 29, 3) := by decide +kernel
theorem d2_52 : decode prog_4_method_1_code 52 = .ok (.ldiv, 1) := by decide +kernel
theorem d2_53 : decode prog_4_method_1_code 53 = .ok (.lcmp, 1) := by decide +kernel
theorem d2_54 : decode prog_4_method_1_code 54 = .ok (.ifCond .le 18, 3) := by decide +kernel
theorem d2_72 : decode prog_4_method_1_code 72 = .ok (.aload_n 0, 1) := by decide +kernel
theorem d2_73 : decode prog_4_method_1_code 73 = .ok (.lload_n 2, 1) := by decide +kernel
theorem d2_74 : decode prog_4_method_1_code 74 = .ok (.aload_n 0, 1) := by decide +kernel
theorem d2_75 : decode prog_4_method_1_code 75 = .ok (.getfield 29, 3) := by decide +kernel
theorem d2_78 : decode prog_4_method_1_code 78 = .ok (.lmul, 1) := by decide +kernel
theorem d2_79 : decode prog_4_method_1_code 79 = .ok (.putfield 46, 3) := by decide +kernel
theorem d2_82 : decode prog_4_method_1_code 82 = .ok (.aload_n 0, 1) := by decide +kernel
theorem d2_83 : decode prog_4_method_1_code 83 = .ok (.iload_n 1, 1) := by decide +kernel
theorem d2_84 : decode prog_4_method_1_code 84 = .ok (.lload_n 2, 1) := by decide +kernel
theorem pd_4 : parseMethodDescriptor "(IJ)Lcom/example/admission_by_rate/admissionbyrate/Quota;" = some ⟨[.int, .long], some (.object "com/example/admission_by_rate/admissionbyrate/Quota")⟩ := by decide +kernel
theorem d2_85 : decode prog_4_method_1_code 85 = .ok (.invokestatic 49, 3) := by decide +kernel
theorem d2_88 : decode prog_4_method_1_code 88 = .ok (.putfield 55, 3) := by decide +kernel
theorem d2_91 : decode prog_4_method_1_code 91 = .ok (.return_, 1) := by decide +kernel
theorem ef_rm2 (m : MethodId) (x0 : Addr) (x1 : Int32) (x2 : Int64) : entryFrame m #[(.ref x0), (.int x1), (.long x2)] 6 = mkF m 0 #[.val (.ref x0), .val (.int x1), .val (.long x2), .second, .unset, .unset] [] := by first | (simp [entryFrame, mkF, argsToLocals, Value.category]; done) | rfl
def Q2 (Z : State) (a : Addr) (p1 : Int32) (q1 : Int64) (h0 : Heap) (n0 : Nat) (v : Option Value) (h : Heap) (L : List Loc) : Prop := ∃ d : Int64, v = none ∧ Fr n0 L ∧ 1 ≤ d.toInt ∧ d.toInt ≤ 2147483647 ∧ Keep h0 h [a] ∧ Exa Z h a "com/example/admission_by_rate/admissionbyrate/Gcra" ∧ Fld Z h a "com/example/admission_by_rate/admissionbyrate/Gcra" "ticksPerMs" "J" (.long d)
set_option maxRecDepth 65536 in
set_option maxHeartbeats 40000000 in
theorem rm2 (l : Launch) (Z : State) (a0 : Array Value) (hw : ∀ d ∈ tables_1, d.before a0 Z = true) (ws : List Jvm.Cond) (a : Addr) (p1 : Int32) (q1 : Int64) (h0 : Heap) (n0 : Nat) (Z0 : n0 ≤ h0.size) (E0 : Exa Z h0 a "com/example/admission_by_rate/admissionbyrate/Gcra") (P_limit : Fld Z h0 a "com/example/admission_by_rate/admissionbyrate/Gcra" "limit" "I" (.int (0 : Int32))) (P_periodMs : Fld Z h0 a "com/example/admission_by_rate/admissionbyrate/Gcra" "periodMs" "J" (.long (0 : Int64))) (P_ticksPerMs : Fld Z h0 a "com/example/admission_by_rate/admissionbyrate/Gcra" "ticksPerMs" "J" (.long (0 : Int64))) (P_intervalTicks : Fld Z h0 a "com/example/admission_by_rate/admissionbyrate/Gcra" "intervalTicks" "J" (.long (0 : Int64))) (P_periodTicks : Fld Z h0 a "com/example/admission_by_rate/admissionbyrate/Gcra" "periodTicks" "J" (.long (0 : Int64))) (P_full : Fld Z h0 a "com/example/admission_by_rate/admissionbyrate/Gcra" "full" "Lcom/example/admission_by_rate/admissionbyrate/Quota;" .null) (g : n0 ≤ a) (b1 : 1 ≤ p1.toInt) (b2 : 1 ≤ q1.toInt) (b3 : q1.toInt ≤ 4294967296) :
    MetFree l (⟨"com/example/admission_by_rate/admissionbyrate/Gcra", "<init>", "(IJ)V"⟩ : MethodName) (head1 (Jvm.Cond.code (⟨"com/example/admission_by_rate/admissionbyrate/Gcra", "<init>", "(IJ)V"⟩ : MethodName) prog_4_method_1_code 6 none :: ws) ({ frames := 4, cells := 1, slots := 4, locals := 58 } : Room)) (fun aa U => aa = #[(.ref a), (.int p1), (.long q1)] ∧ Z.Warmed39 U.vm ∧ U.heap = h0) (fun _ _ _ _ _ => True) (fun _ U o U' => ∃ v L, o = .returned v ∧ Q2 Z a p1 q1 h0 n0 v U'.heap L ∧ FrameEnd U o U' L ({ frames := 4, cells := 1, slots := 4, locals := 58 } : Room).cells ({ frames := 4, cells := 1, slots := 4, locals := 58 } : Room).slots) := by
  refine MetFree.of_bodySF (plainFor_of_name pn_2) hisR ?_
  intro p e s m args below meth c s₁ Bd hml0 hP hK
  obtain ⟨rfl, hZ, hh⟩ := hP
  have hx := Bd.exec
  have hby := Bd.bytes
  have hml : c.maxLocals = 6 := hml0
  have hown : s.vm.findClass "com/example/admission_by_rate/admissionbyrate/Gcra" = some m.cls := findClass_of_methodNamed Bd.named
  have hnm := (name_of_methodNamed Bd.named Bd.method).1
  have X0 : Stand p l e ({ frames := 4, cells := 1, slots := 4, locals := 58 } : Room) s m #[(.ref a), (.int p1), (.long q1)] below meth c s₁ [] 0 0 := Stand.of_body Bd
  have e0 : s₁.heap = h0 := by rw [← hh, Bd.state]; rfl
  have N0 := Fr.nil n0
  obtain ⟨Ω, hΩ⟩ : ∃ z, z = s₁.setTop (entryFrame m #[(.ref a), (.int p1), (.long q1)] 6) := ⟨_, rfl⟩
  have S0 : Steps p.tables e below Ω (s₁.setTop (mkF m 0 #[.val (.ref a), .val (.int p1), .val (.long q1), .second, .unset, .unset] [])) := by rw [hΩ]; exact castTop (ef_rm2 m a p1 q1) (Steps.refl _)
  have l1 : ¬ p1 < (1 : Int32) := fun q => by have := Int32.lt_iff_toInt_lt.mp q; have o : (1 : Int32).toInt = 1 := (by decide); omega
  have l2 : ¬ q1 < (1 : Int64) := own_ge (by have o : (1 : Int64).toInt = 1 := (by decide); omega)
  have l3 : ¬ p1 < (0 : Int32) := fun q => by have := Int32.lt_iff_toInt_lt.mp q; have o : (0 : Int32).toInt = 0 := (by decide); omega
  have l4 : ¬ p1 < p1 := Int32.lt_irrefl
  have S1 : Steps p.tables e below Ω (s₁.setTop (mkF m 1 #[.val (.ref a), .val (.int p1), .val (.long q1), .second, .unset, .unset] [(.ref a)])) := by
    refine S0.trans ?_
    refine XS.aloadN X0.here hx rfl (hb hby d2_0) rfl rfl ?_
    exact Steps.refl _
  obtain ⟨T2, X2, e2, st2⟩ := initO X0 hx hZ hown (hw _ (List.mem_of_getElem? (i := 12) rfl)) (hw _ (List.mem_of_getElem? (i := 13) rfl)) (hw _ (List.mem_of_getElem? (i := 14) rfl)) e0 (g := (mkF m 1 #[.val (.ref a), .val (.int p1), .val (.long q1), .second, .unset, .unset] [(.ref a)])) rfl (by rw [hml]; rfl) rfl (hb hby d2_1) (by decide) (W := 0) (by show 2 * 0 + _ ≤ _; exact Nat.le_of_eq rfl) (by decide)
  have S3 : Steps p.tables e below Ω (T2.setTop (mkF m 4 #[.val (.ref a), .val (.int p1), .val (.long q1), .second, .unset, .unset] [])) := S1.trans (st2 _ (Steps.refl _))
  have S4 : Steps p.tables e below Ω (T2.setTop (mkF m 6 #[.val (.ref a), .val (.int p1), .val (.long q1), .second, .unset, .unset] [(.long q1), (.int p1)])) := by
    refine S3.trans ?_
    refine XS.iloadN X2.here hx rfl (hb hby d2_4) rfl ?_
    show Steps p.tables e below (T2.setTop (mkF m 5 #[.val (.ref a), .val (.int p1), .val (.long q1), .second, .unset, .unset] [(.int p1)])) _
    refine XS.lloadN X2.here hx rfl (hb hby d2_5) rfl ?_
    exact Steps.refl _
  obtain ⟨_, _, ⟨T5, L5, k5, n5⟩, -, X5, ⟨Lc5, hQ5, l5, y5, z5⟩, st5⟩ := Jvm.LawKit.callS X2 hx (y := (⟨"com/example/admission_by_rate/admissionbyrate/LimitAndPeriod", "check", "(IJ)V"⟩ : MethodName)) hown (mvT hZ (hw _ (List.mem_of_getElem? (i := 15) rfl))) (mvT hZ (hw _ (List.mem_of_getElem? (i := 16) rfl))) (mvT hZ (hw _ (List.mem_of_getElem? (i := 17) rfl))) (mvT hZ (hw _ (List.mem_of_getElem? (i := 18) rfl))) (by decide) (backOf (W := 0) (rm4 l Z a0 hw [] p1 q1  h0 n0 Z0 l1 l2) hZ (hw _ (List.mem_of_getElem? (i := 18) rfl)) (hw _ (List.mem_of_getElem? (i := 17) rfl)) (by decide) (by decide)) (g := (mkF m 6 #[.val (.ref a), .val (.int p1), .val (.long q1), .second, .unset, .unset] [(.long q1), (.int p1)])) rfl (by rw [hml]; rfl) (argsL := [(.int p1), (.long q1)]) (rest := []) (lenOf pd_1 rfl) rfl (by show 2 * 0 + _ ≤ _; exact Nat.le_of_eq rfl) (hb hby d2_6) (fun _ _ => ⟨rfl, e2, (by decide : 0 + 0 ≤ _), (by decide : 0 + 0 ≤ _)⟩)
  dsimp only [Pt.U, Pt.locs, Pt.cells, Pt.slots] at X5 l5 y5 z5 st5 hQ5
  subst l5 y5 z5
  obtain ⟨rfl, N5q, e5⟩ := hQ5
  have N5 := Fr.app N0 N5q
  have S6 : Steps p.tables e below Ω (T5.setTop (mkF m 9 #[.val (.ref a), .val (.int p1), .val (.long q1), .second, .unset, .unset] [])) := S4.trans (st5 _ (Steps.refl _))
  have S7 : Steps p.tables e below Ω (T5.setTop (mkF m 12 #[.val (.ref a), .val (.int p1), .val (.long q1), .second, .unset, .unset] [(.long q1), (.long (p1.toInt64))])) := by
    refine S6.trans ?_
    refine XS.iloadN X5.here hx rfl (hb hby d2_9) rfl ?_
    show Steps p.tables e below (T5.setTop (mkF m 10 #[.val (.ref a), .val (.int p1), .val (.long q1), .second, .unset, .unset] [(.int p1)])) _
    refine XS.i2l X5.here hx rfl (hb hby d2_10) rfl ?_
    show Steps p.tables e below (T5.setTop (mkF m 11 #[.val (.ref a), .val (.int p1), .val (.long q1), .second, .unset, .unset] [(.long (p1.toInt64))])) _
    refine XS.lloadN X5.here hx rfl (hb hby d2_11) rfl ?_
    exact Steps.refl _
  have hp64 : p1.toInt64.toInt = p1.toInt := c_i2l p1
  obtain ⟨_, _, ⟨T8, L8, k8, n8⟩, -, X8, ⟨Lc8, hQ8, l8, y8, z8⟩, st8⟩ := Jvm.LawKit.callS X5 hx (y := (⟨"com/example/admission_by_rate/admissionbyrate/Gcra", "gcd", "(JJ)J"⟩ : MethodName)) hown (mvT hZ (hw _ (List.mem_of_getElem? (i := 19) rfl))) (mvT hZ (hw _ (List.mem_of_getElem? (i := 20) rfl))) (mvT hZ (hw _ (List.mem_of_getElem? (i := 8) rfl))) (mvT hZ (hw _ (List.mem_of_getElem? (i := 21) rfl))) (by decide) (backOf (W := 0) (rm5 l Z a0 hw [] (p1.toInt64) q1  h0 n0 Z0 (by omega) (by omega)) hZ (hw _ (List.mem_of_getElem? (i := 21) rfl)) (hw _ (List.mem_of_getElem? (i := 8) rfl)) (by decide) (by decide)) (g := (mkF m 12 #[.val (.ref a), .val (.int p1), .val (.long q1), .second, .unset, .unset] [(.long q1), (.long (p1.toInt64))])) rfl (by rw [hml]; rfl) (argsL := [(.long (p1.toInt64)), (.long q1)]) (rest := []) (lenOf pd_3 rfl) rfl (by show 2 * 0 + _ ≤ _; exact Nat.le_of_eq rfl) (hb hby d2_12) (fun _ _ => ⟨rfl, e5, (by decide : 0 + 0 ≤ _), (by decide : 0 + 0 ≤ _)⟩)
  dsimp only [Pt.U, Pt.locs, Pt.cells, Pt.slots] at X8 l8 y8 z8 st8 hQ8
  subst l8 y8 z8
  obtain ⟨r, rfl, N8q, e8, hgr⟩ := hQ8
  have N8 := Fr.app N5 N8q
  have S9 : Steps p.tables e below Ω (T8.setTop (mkF m 15 #[.val (.ref a), .val (.int p1), .val (.long q1), .second, .unset, .unset] [(.long r)])) := S7.trans (st8 _ (Steps.refl _))
  have hrp := rng32 p1
  have hr1 : 1 ≤ r.toInt := by rw [hgr]; have := Nat.gcd_pos_of_pos_left q1.toInt.toNat (m := p1.toInt64.toInt.toNat) (by omega); omega
  have hr2 : r.toInt ≤ p1.toInt64.toInt := by rw [hgr]; have := Nat.le_of_dvd (by omega) (Nat.gcd_dvd_left p1.toInt64.toInt.toNat q1.toInt.toNat); omega
  have hnz := own_nz hr1
  have hd := own_d p1.toInt64 r hr1 hr2
  have S10 : Steps p.tables e below Ω (T8.setTop (mkF m 19 #[.val (.ref a), .val (.int p1), .val (.long q1), .second, .val (.long r), .second] [(.int p1), (.ref a)])) := by
    refine S9.trans ?_
    refine XS.lstore X8.here hx rfl (hb hby d2_15) rfl (l' := #[.val (.ref a), .val (.int p1), .val (.long q1), .second, .val (.long r), .second]) rfl ?_
    show Steps p.tables e below (T8.setTop (mkF m 17 #[.val (.ref a), .val (.int p1), .val (.long q1), .second, .val (.long r), .second] [])) _
    refine XS.aloadN X8.here hx rfl (hb hby d2_17) rfl rfl ?_
    show Steps p.tables e below (T8.setTop (mkF m 18 #[.val (.ref a), .val (.int p1), .val (.long q1), .second, .val (.long r), .second] [(.ref a)])) _
    refine XS.iloadN X8.here hx rfl (hb hby d2_18) rfl ?_
    exact Steps.refl _
  obtain ⟨T11, h11, X11, e11, W11, st11⟩ := putF X8 hx hZ hown (host := "") (Or.inl (hw _ (List.mem_of_getElem? (i := 22) rfl))) Via.refl e8 P_limit E0 (Or.inr ⟨(hw _ (List.mem_of_getElem? (i := 23) rfl)), rfl, hnm⟩) (hw _ (List.mem_of_getElem? (i := 7) rfl)) (ty := .int) (by decide) rfl rfl (g := (mkF m 19 #[.val (.ref a), .val (.int p1), .val (.long q1), .second, .val (.long r), .second] [(.int p1), (.ref a)])) rfl rfl (hb hby d2_19)
  have S12 : Steps p.tables e below Ω (T11.setTop (mkF m 22 #[.val (.ref a), .val (.int p1), .val (.long q1), .second, .val (.long r), .second] [])) := S10.trans (st11 _ (Steps.refl _))
  have N11 := Fr.snoc X11 N8 g
  have E_a_11 := (E0).wr W11
  have F_limit_a_11 : Fld Z h11 a "com/example/admission_by_rate/admissionbyrate/Gcra" "limit" "I" (.int p1) := (P_limit).same W11
  have F_periodMs_a_11 : Fld Z h11 a "com/example/admission_by_rate/admissionbyrate/Gcra" "periodMs" "J" (.long (0 : Int64)) := (P_periodMs).other W11 (Or.inr (slot_ne (Or.inr (hw _ (List.mem_of_getElem? (i := 25) rfl))) (Or.inr (hw _ (List.mem_of_getElem? (i := 23) rfl))) (by decide) (t := .long) (t' := .int) (by decide) (by decide)))
  have F_ticksPerMs_a_11 : Fld Z h11 a "com/example/admission_by_rate/admissionbyrate/Gcra" "ticksPerMs" "J" (.long (0 : Int64)) := (P_ticksPerMs).other W11 (Or.inr (slot_ne (Or.inr (hw _ (List.mem_of_getElem? (i := 27) rfl))) (Or.inr (hw _ (List.mem_of_getElem? (i := 23) rfl))) (by decide) (t := .long) (t' := .int) (by decide) (by decide)))
  have F_intervalTicks_a_11 : Fld Z h11 a "com/example/admission_by_rate/admissionbyrate/Gcra" "intervalTicks" "J" (.long (0 : Int64)) := (P_intervalTicks).other W11 (Or.inr (slot_ne (Or.inr (hw _ (List.mem_of_getElem? (i := 29) rfl))) (Or.inr (hw _ (List.mem_of_getElem? (i := 23) rfl))) (by decide) (t := .long) (t' := .int) (by decide) (by decide)))
  have F_periodTicks_a_11 : Fld Z h11 a "com/example/admission_by_rate/admissionbyrate/Gcra" "periodTicks" "J" (.long (0 : Int64)) := (P_periodTicks).other W11 (Or.inr (slot_ne (Or.inr (hw _ (List.mem_of_getElem? (i := 32) rfl))) (Or.inr (hw _ (List.mem_of_getElem? (i := 23) rfl))) (by decide) (t := .long) (t' := .int) (by decide) (by decide)))
  have F_full_a_11 : Fld Z h11 a "com/example/admission_by_rate/admissionbyrate/Gcra" "full" "Lcom/example/admission_by_rate/admissionbyrate/Quota;" .null := (P_full).other W11 (Or.inr (slot_ne (Or.inr (hw _ (List.mem_of_getElem? (i := 58) rfl))) (Or.inr (hw _ (List.mem_of_getElem? (i := 23) rfl))) (by decide) (t := (.object "com/example/admission_by_rate/admissionbyrate/Quota")) (t' := .int) (by decide) (by decide)))
  have S13 : Steps p.tables e below Ω (T11.setTop (mkF m 24 #[.val (.ref a), .val (.int p1), .val (.long q1), .second, .val (.long r), .second] [(.long q1), (.ref a)])) := by
    refine S12.trans ?_
    refine XS.aloadN X11.here hx rfl (hb hby d2_22) rfl rfl ?_
    show Steps p.tables e below (T11.setTop (mkF m 23 #[.val (.ref a), .val (.int p1), .val (.long q1), .second, .val (.long r), .second] [(.ref a)])) _
    refine XS.lloadN X11.here hx rfl (hb hby d2_23) rfl ?_
    exact Steps.refl _
  obtain ⟨T14, h14, X14, e14, W14, st14⟩ := putF X11 hx hZ hown (host := "") (Or.inl (hw _ (List.mem_of_getElem? (i := 24) rfl))) Via.refl e11 F_periodMs_a_11 E_a_11 (Or.inr ⟨(hw _ (List.mem_of_getElem? (i := 25) rfl)), rfl, hnm⟩) (hw _ (List.mem_of_getElem? (i := 7) rfl)) (ty := .long) (by decide) rfl rfl (g := (mkF m 24 #[.val (.ref a), .val (.int p1), .val (.long q1), .second, .val (.long r), .second] [(.long q1), (.ref a)])) rfl rfl (hb hby d2_24)
  have S15 : Steps p.tables e below Ω (T14.setTop (mkF m 27 #[.val (.ref a), .val (.int p1), .val (.long q1), .second, .val (.long r), .second] [])) := S13.trans (st14 _ (Steps.refl _))
  have N14 := Fr.snoc X14 N11 g
  have E_a_14 := (E_a_11).wr W14
  have F_limit_a_14 : Fld Z h14 a "com/example/admission_by_rate/admissionbyrate/Gcra" "limit" "I" (.int p1) := (F_limit_a_11).other W14 (Or.inr (slot_ne (Or.inr (hw _ (List.mem_of_getElem? (i := 23) rfl))) (Or.inr (hw _ (List.mem_of_getElem? (i := 25) rfl))) (by decide) (t := .int) (t' := .long) (by decide) (by decide)))
  have F_periodMs_a_14 : Fld Z h14 a "com/example/admission_by_rate/admissionbyrate/Gcra" "periodMs" "J" (.long q1) := (F_periodMs_a_11).same W14
  have F_ticksPerMs_a_14 : Fld Z h14 a "com/example/admission_by_rate/admissionbyrate/Gcra" "ticksPerMs" "J" (.long (0 : Int64)) := (F_ticksPerMs_a_11).other W14 (Or.inr (slot_ne (Or.inr (hw _ (List.mem_of_getElem? (i := 27) rfl))) (Or.inr (hw _ (List.mem_of_getElem? (i := 25) rfl))) (by decide) (t := .long) (t' := .long) (by decide) (by decide)))
  have F_intervalTicks_a_14 : Fld Z h14 a "com/example/admission_by_rate/admissionbyrate/Gcra" "intervalTicks" "J" (.long (0 : Int64)) := (F_intervalTicks_a_11).other W14 (Or.inr (slot_ne (Or.inr (hw _ (List.mem_of_getElem? (i := 29) rfl))) (Or.inr (hw _ (List.mem_of_getElem? (i := 25) rfl))) (by decide) (t := .long) (t' := .long) (by decide) (by decide)))
  have F_periodTicks_a_14 : Fld Z h14 a "com/example/admission_by_rate/admissionbyrate/Gcra" "periodTicks" "J" (.long (0 : Int64)) := (F_periodTicks_a_11).other W14 (Or.inr (slot_ne (Or.inr (hw _ (List.mem_of_getElem? (i := 32) rfl))) (Or.inr (hw _ (List.mem_of_getElem? (i := 25) rfl))) (by decide) (t := .long) (t' := .long) (by decide) (by decide)))
  have F_full_a_14 : Fld Z h14 a "com/example/admission_by_rate/admissionbyrate/Gcra" "full" "Lcom/example/admission_by_rate/admissionbyrate/Quota;" .null := (F_full_a_11).other W14 (Or.inr (slot_ne (Or.inr (hw _ (List.mem_of_getElem? (i := 58) rfl))) (Or.inr (hw _ (List.mem_of_getElem? (i := 25) rfl))) (by decide) (t := (.object "com/example/admission_by_rate/admissionbyrate/Quota")) (t' := .long) (by decide) (by decide)))
  have S16 : Steps p.tables e below Ω (T14.setTop (mkF m 33 #[.val (.ref a), .val (.int p1), .val (.long q1), .second, .val (.long r), .second] [(.long ((p1.toInt64) / r)), (.ref a)])) := by
    refine S15.trans ?_
    refine XS.aloadN X14.here hx rfl (hb hby d2_27) rfl rfl ?_
    show Steps p.tables e below (T14.setTop (mkF m 28 #[.val (.ref a), .val (.int p1), .val (.long q1), .second, .val (.long r), .second] [(.ref a)])) _
    refine XS.iloadN X14.here hx rfl (hb hby d2_28) rfl ?_
    show Steps p.tables e below (T14.setTop (mkF m 29 #[.val (.ref a), .val (.int p1), .val (.long q1), .second, .val (.long r), .second] [(.int p1), (.ref a)])) _
    refine XS.i2l X14.here hx rfl (hb hby d2_29) rfl ?_
    show Steps p.tables e below (T14.setTop (mkF m 30 #[.val (.ref a), .val (.int p1), .val (.long q1), .second, .val (.long r), .second] [(.long (p1.toInt64)), (.ref a)])) _
    refine XS.lload X14.here hx rfl (hb hby d2_30) rfl ?_
    show Steps p.tables e below (T14.setTop (mkF m 32 #[.val (.ref a), .val (.int p1), .val (.long q1), .second, .val (.long r), .second] [(.long r), (.long (p1.toInt64)), (.ref a)])) _
    refine XS.ldiv X14.here hx rfl (hb hby d2_32) rfl hnz ?_
    exact Steps.refl _
  obtain ⟨d, h_d⟩ : ∃ z : Int64, z = ((p1.toInt64) / r) := ⟨_, rfl⟩
  rw [← h_d] at S16
  rw [← h_d] at hd
  have hd2 : d.toInt ≤ 2147483647 := by omega
  have hdz := own_nz hd.1
  obtain ⟨T17, h17, X17, e17, W17, st17⟩ := putF X14 hx hZ hown (host := "") (Or.inl (hw _ (List.mem_of_getElem? (i := 26) rfl))) Via.refl e14 F_ticksPerMs_a_14 E_a_14 (Or.inr ⟨(hw _ (List.mem_of_getElem? (i := 27) rfl)), rfl, hnm⟩) (hw _ (List.mem_of_getElem? (i := 7) rfl)) (ty := .long) (by decide) rfl rfl (g := (mkF m 33 #[.val (.ref a), .val (.int p1), .val (.long q1), .second, .val (.long r), .second] [(.long d), (.ref a)])) rfl rfl (hb hby d2_33)
  have S18 : Steps p.tables e below Ω (T17.setTop (mkF m 36 #[.val (.ref a), .val (.int p1), .val (.long q1), .second, .val (.long r), .second] [])) := S16.trans (st17 _ (Steps.refl _))
  have N17 := Fr.snoc X17 N14 g
  have E_a_17 := (E_a_14).wr W17
  have F_limit_a_17 : Fld Z h17 a "com/example/admission_by_rate/admissionbyrate/Gcra" "limit" "I" (.int p1) := (F_limit_a_14).other W17 (Or.inr (slot_ne (Or.inr (hw _ (List.mem_of_getElem? (i := 23) rfl))) (Or.inr (hw _ (List.mem_of_getElem? (i := 27) rfl))) (by decide) (t := .int) (t' := .long) (by decide) (by decide)))
  have F_periodMs_a_17 : Fld Z h17 a "com/example/admission_by_rate/admissionbyrate/Gcra" "periodMs" "J" (.long q1) := (F_periodMs_a_14).other W17 (Or.inr (slot_ne (Or.inr (hw _ (List.mem_of_getElem? (i := 25) rfl))) (Or.inr (hw _ (List.mem_of_getElem? (i := 27) rfl))) (by decide) (t := .long) (t' := .long) (by decide) (by decide)))
  have F_ticksPerMs_a_17 : Fld Z h17 a "com/example/admission_by_rate/admissionbyrate/Gcra" "ticksPerMs" "J" (.long d) := (F_ticksPerMs_a_14).same W17
  have F_intervalTicks_a_17 : Fld Z h17 a "com/example/admission_by_rate/admissionbyrate/Gcra" "intervalTicks" "J" (.long (0 : Int64)) := (F_intervalTicks_a_14).other W17 (Or.inr (slot_ne (Or.inr (hw _ (List.mem_of_getElem? (i := 29) rfl))) (Or.inr (hw _ (List.mem_of_getElem? (i := 27) rfl))) (by decide) (t := .long) (t' := .long) (by decide) (by decide)))
  have F_periodTicks_a_17 : Fld Z h17 a "com/example/admission_by_rate/admissionbyrate/Gcra" "periodTicks" "J" (.long (0 : Int64)) := (F_periodTicks_a_14).other W17 (Or.inr (slot_ne (Or.inr (hw _ (List.mem_of_getElem? (i := 32) rfl))) (Or.inr (hw _ (List.mem_of_getElem? (i := 27) rfl))) (by decide) (t := .long) (t' := .long) (by decide) (by decide)))
  have F_full_a_17 : Fld Z h17 a "com/example/admission_by_rate/admissionbyrate/Gcra" "full" "Lcom/example/admission_by_rate/admissionbyrate/Quota;" .null := (F_full_a_14).other W17 (Or.inr (slot_ne (Or.inr (hw _ (List.mem_of_getElem? (i := 58) rfl))) (Or.inr (hw _ (List.mem_of_getElem? (i := 27) rfl))) (by decide) (t := (.object "com/example/admission_by_rate/admissionbyrate/Quota")) (t' := .long) (by decide) (by decide)))
  have S19 : Steps p.tables e below Ω (T17.setTop (mkF m 41 #[.val (.ref a), .val (.int p1), .val (.long q1), .second, .val (.long r), .second] [(.long (q1 / r)), (.ref a)])) := by
    refine S18.trans ?_
    refine XS.aloadN X17.here hx rfl (hb hby d2_36) rfl rfl ?_
    show Steps p.tables e below (T17.setTop (mkF m 37 #[.val (.ref a), .val (.int p1), .val (.long q1), .second, .val (.long r), .second] [(.ref a)])) _
    refine XS.lloadN X17.here hx rfl (hb hby d2_37) rfl ?_
    show Steps p.tables e below (T17.setTop (mkF m 38 #[.val (.ref a), .val (.int p1), .val (.long q1), .second, .val (.long r), .second] [(.long q1), (.ref a)])) _
    refine XS.lload X17.here hx rfl (hb hby d2_38) rfl ?_
    show Steps p.tables e below (T17.setTop (mkF m 40 #[.val (.ref a), .val (.int p1), .val (.long q1), .second, .val (.long r), .second] [(.long r), (.long q1), (.ref a)])) _
    refine XS.ldiv X17.here hx rfl (hb hby d2_40) rfl hnz ?_
    exact Steps.refl _
  obtain ⟨T20, h20, X20, e20, W20, st20⟩ := putF X17 hx hZ hown (host := "") (Or.inl (hw _ (List.mem_of_getElem? (i := 28) rfl))) Via.refl e17 F_intervalTicks_a_17 E_a_17 (Or.inr ⟨(hw _ (List.mem_of_getElem? (i := 29) rfl)), rfl, hnm⟩) (hw _ (List.mem_of_getElem? (i := 7) rfl)) (ty := .long) (by decide) rfl rfl (g := (mkF m 41 #[.val (.ref a), .val (.int p1), .val (.long q1), .second, .val (.long r), .second] [(.long (q1 / r)), (.ref a)])) rfl rfl (hb hby d2_41)
  have S21 : Steps p.tables e below Ω (T20.setTop (mkF m 44 #[.val (.ref a), .val (.int p1), .val (.long q1), .second, .val (.long r), .second] [])) := S19.trans (st20 _ (Steps.refl _))
  have N20 := Fr.snoc X20 N17 g
  have E_a_20 := (E_a_17).wr W20
  have F_limit_a_20 : Fld Z h20 a "com/example/admission_by_rate/admissionbyrate/Gcra" "limit" "I" (.int p1) := (F_limit_a_17).other W20 (Or.inr (slot_ne (Or.inr (hw _ (List.mem_of_getElem? (i := 23) rfl))) (Or.inr (hw _ (List.mem_of_getElem? (i := 29) rfl))) (by decide) (t := .int) (t' := .long) (by decide) (by decide)))
  have F_periodMs_a_20 : Fld Z h20 a "com/example/admission_by_rate/admissionbyrate/Gcra" "periodMs" "J" (.long q1) := (F_periodMs_a_17).other W20 (Or.inr (slot_ne (Or.inr (hw _ (List.mem_of_getElem? (i := 25) rfl))) (Or.inr (hw _ (List.mem_of_getElem? (i := 29) rfl))) (by decide) (t := .long) (t' := .long) (by decide) (by decide)))
  have F_ticksPerMs_a_20 : Fld Z h20 a "com/example/admission_by_rate/admissionbyrate/Gcra" "ticksPerMs" "J" (.long d) := (F_ticksPerMs_a_17).other W20 (Or.inr (slot_ne (Or.inr (hw _ (List.mem_of_getElem? (i := 27) rfl))) (Or.inr (hw _ (List.mem_of_getElem? (i := 29) rfl))) (by decide) (t := .long) (t' := .long) (by decide) (by decide)))
  have F_intervalTicks_a_20 : Fld Z h20 a "com/example/admission_by_rate/admissionbyrate/Gcra" "intervalTicks" "J" (.long (q1 / r)) := (F_intervalTicks_a_17).same W20
  have F_periodTicks_a_20 : Fld Z h20 a "com/example/admission_by_rate/admissionbyrate/Gcra" "periodTicks" "J" (.long (0 : Int64)) := (F_periodTicks_a_17).other W20 (Or.inr (slot_ne (Or.inr (hw _ (List.mem_of_getElem? (i := 32) rfl))) (Or.inr (hw _ (List.mem_of_getElem? (i := 29) rfl))) (by decide) (t := .long) (t' := .long) (by decide) (by decide)))
  have F_full_a_20 : Fld Z h20 a "com/example/admission_by_rate/admissionbyrate/Gcra" "full" "Lcom/example/admission_by_rate/admissionbyrate/Quota;" .null := (F_full_a_17).other W20 (Or.inr (slot_ne (Or.inr (hw _ (List.mem_of_getElem? (i := 58) rfl))) (Or.inr (hw _ (List.mem_of_getElem? (i := 29) rfl))) (by decide) (t := (.object "com/example/admission_by_rate/admissionbyrate/Quota")) (t' := .long) (by decide) (by decide)))
  have S22 : Steps p.tables e below Ω (T20.setTop (mkF m 49 #[.val (.ref a), .val (.int p1), .val (.long q1), .second, .val (.long r), .second] [(.ref a), (.long (9223372036854775807 : Int64)), (.long q1)])) := by
    refine S21.trans ?_
    refine XS.lloadN X20.here hx rfl (hb hby d2_44) rfl ?_
    show Steps p.tables e below (T20.setTop (mkF m 45 #[.val (.ref a), .val (.int p1), .val (.long q1), .second, .val (.long r), .second] [(.long q1)])) _
    refine X20.ldc2Long hx hown (mvT hZ (hw _ (List.mem_of_getElem? (i := 30) rfl))) (g := (mkF m 45 #[.val (.ref a), .val (.int p1), .val (.long q1), .second, .val (.long r), .second] [(.long q1)])) rfl (hb hby d2_45) _ ?_
    show Steps p.tables e below (T20.setTop (mkF m 48 #[.val (.ref a), .val (.int p1), .val (.long q1), .second, .val (.long r), .second] [(.long (9223372036854775807 : Int64)), (.long q1)])) _
    refine XS.aloadN X20.here hx rfl (hb hby d2_48) rfl rfl ?_
    exact Steps.refl _
  obtain ⟨T23, X23, e23, st23⟩ := getF X20 hx hZ hown (host := "") (Or.inl (hw _ (List.mem_of_getElem? (i := 26) rfl))) Via.refl e20 F_ticksPerMs_a_20 (g := (mkF m 49 #[.val (.ref a), .val (.int p1), .val (.long q1), .second, .val (.long r), .second] [(.ref a), (.long (9223372036854775807 : Int64)), (.long q1)])) rfl rfl (hb hby d2_49)
  have S24 : Steps p.tables e below Ω (T23.setTop (mkF m 52 #[.val (.ref a), .val (.int p1), .val (.long q1), .second, .val (.long r), .second] [(.long d), (.long (9223372036854775807 : Int64)), (.long q1)])) := S22.trans (st23 _ (Steps.refl _))
  have S25 : Steps p.tables e below Ω (T23.setTop (mkF m 75 #[.val (.ref a), .val (.int p1), .val (.long q1), .second, .val (.long r), .second] [(.ref a), (.long q1), (.ref a)])) := by
    refine S24.trans ?_
    refine XS.ldiv X23.here hx rfl (hb hby d2_52) rfl hdz ?_
    show Steps p.tables e below (T23.setTop (mkF m 53 #[.val (.ref a), .val (.int p1), .val (.long q1), .second, .val (.long r), .second] [(.long ((9223372036854775807 : Int64) / d)), (.long q1)])) _
    refine XS.lcmp X23.here hx rfl (hb hby d2_53) rfl ?_
    show Steps p.tables e below (T23.setTop (mkF m 54 #[.val (.ref a), .val (.int p1), .val (.long q1), .second, .val (.long r), .second] [(.int (lcmpW q1 ((9223372036854775807 : Int64) / d)))])) _
    refine XS.ifYes X23.here hx rfl (pc0 := 54) (pc' := 72) rfl (hb hby d2_54) rfl (XT.ll_le_t (own_fit q1 d hd.1 hd2 b2 b3)) (by decide) (by decide) ?_
    show Steps p.tables e below (T23.setTop (mkF m 72 #[.val (.ref a), .val (.int p1), .val (.long q1), .second, .val (.long r), .second] [])) _
    refine XS.aloadN X23.here hx rfl (hb hby d2_72) rfl rfl ?_
    show Steps p.tables e below (T23.setTop (mkF m 73 #[.val (.ref a), .val (.int p1), .val (.long q1), .second, .val (.long r), .second] [(.ref a)])) _
    refine XS.lloadN X23.here hx rfl (hb hby d2_73) rfl ?_
    show Steps p.tables e below (T23.setTop (mkF m 74 #[.val (.ref a), .val (.int p1), .val (.long q1), .second, .val (.long r), .second] [(.long q1), (.ref a)])) _
    refine XS.aloadN X23.here hx rfl (hb hby d2_74) rfl rfl ?_
    exact Steps.refl _
  obtain ⟨T26, X26, e26, st26⟩ := getF X23 hx hZ hown (host := "") (Or.inl (hw _ (List.mem_of_getElem? (i := 26) rfl))) Via.refl e23 F_ticksPerMs_a_20 (g := (mkF m 75 #[.val (.ref a), .val (.int p1), .val (.long q1), .second, .val (.long r), .second] [(.ref a), (.long q1), (.ref a)])) rfl rfl (hb hby d2_75)
  have S27 : Steps p.tables e below Ω (T26.setTop (mkF m 78 #[.val (.ref a), .val (.int p1), .val (.long q1), .second, .val (.long r), .second] [(.long d), (.long q1), (.ref a)])) := S25.trans (st26 _ (Steps.refl _))
  have S28 : Steps p.tables e below Ω (T26.setTop (mkF m 79 #[.val (.ref a), .val (.int p1), .val (.long q1), .second, .val (.long r), .second] [(.long (q1 * d)), (.ref a)])) := by
    refine S27.trans ?_
    refine XS.lmul X26.here hx rfl (hb hby d2_78) rfl ?_
    exact Steps.refl _
  obtain ⟨T29, h29, X29, e29, W29, st29⟩ := putF X26 hx hZ hown (host := "") (Or.inl (hw _ (List.mem_of_getElem? (i := 31) rfl))) Via.refl e26 F_periodTicks_a_20 E_a_20 (Or.inr ⟨(hw _ (List.mem_of_getElem? (i := 32) rfl)), rfl, hnm⟩) (hw _ (List.mem_of_getElem? (i := 7) rfl)) (ty := .long) (by decide) rfl rfl (g := (mkF m 79 #[.val (.ref a), .val (.int p1), .val (.long q1), .second, .val (.long r), .second] [(.long (q1 * d)), (.ref a)])) rfl rfl (hb hby d2_79)
  have S30 : Steps p.tables e below Ω (T29.setTop (mkF m 82 #[.val (.ref a), .val (.int p1), .val (.long q1), .second, .val (.long r), .second] [])) := S28.trans (st29 _ (Steps.refl _))
  have N29 := Fr.snoc X29 N20 g
  have E_a_29 := (E_a_20).wr W29
  have F_limit_a_29 : Fld Z h29 a "com/example/admission_by_rate/admissionbyrate/Gcra" "limit" "I" (.int p1) := (F_limit_a_20).other W29 (Or.inr (slot_ne (Or.inr (hw _ (List.mem_of_getElem? (i := 23) rfl))) (Or.inr (hw _ (List.mem_of_getElem? (i := 32) rfl))) (by decide) (t := .int) (t' := .long) (by decide) (by decide)))
  have F_periodMs_a_29 : Fld Z h29 a "com/example/admission_by_rate/admissionbyrate/Gcra" "periodMs" "J" (.long q1) := (F_periodMs_a_20).other W29 (Or.inr (slot_ne (Or.inr (hw _ (List.mem_of_getElem? (i := 25) rfl))) (Or.inr (hw _ (List.mem_of_getElem? (i := 32) rfl))) (by decide) (t := .long) (t' := .long) (by decide) (by decide)))
  have F_ticksPerMs_a_29 : Fld Z h29 a "com/example/admission_by_rate/admissionbyrate/Gcra" "ticksPerMs" "J" (.long d) := (F_ticksPerMs_a_20).other W29 (Or.inr (slot_ne (Or.inr (hw _ (List.mem_of_getElem? (i := 27) rfl))) (Or.inr (hw _ (List.mem_of_getElem? (i := 32) rfl))) (by decide) (t := .long) (t' := .long) (by decide) (by decide)))
  have F_intervalTicks_a_29 : Fld Z h29 a "com/example/admission_by_rate/admissionbyrate/Gcra" "intervalTicks" "J" (.long (q1 / r)) := (F_intervalTicks_a_20).other W29 (Or.inr (slot_ne (Or.inr (hw _ (List.mem_of_getElem? (i := 29) rfl))) (Or.inr (hw _ (List.mem_of_getElem? (i := 32) rfl))) (by decide) (t := .long) (t' := .long) (by decide) (by decide)))
  have F_periodTicks_a_29 : Fld Z h29 a "com/example/admission_by_rate/admissionbyrate/Gcra" "periodTicks" "J" (.long (q1 * d)) := (F_periodTicks_a_20).same W29
  have F_full_a_29 : Fld Z h29 a "com/example/admission_by_rate/admissionbyrate/Gcra" "full" "Lcom/example/admission_by_rate/admissionbyrate/Quota;" .null := (F_full_a_20).other W29 (Or.inr (slot_ne (Or.inr (hw _ (List.mem_of_getElem? (i := 58) rfl))) (Or.inr (hw _ (List.mem_of_getElem? (i := 32) rfl))) (by decide) (t := (.object "com/example/admission_by_rate/admissionbyrate/Quota")) (t' := .long) (by decide) (by decide)))
  have S31 : Steps p.tables e below Ω (T29.setTop (mkF m 85 #[.val (.ref a), .val (.int p1), .val (.long q1), .second, .val (.long r), .second] [(.long q1), (.int p1), (.ref a)])) := by
    refine S30.trans ?_
    refine XS.aloadN X29.here hx rfl (hb hby d2_82) rfl rfl ?_
    show Steps p.tables e below (T29.setTop (mkF m 83 #[.val (.ref a), .val (.int p1), .val (.long q1), .second, .val (.long r), .second] [(.ref a)])) _
    refine XS.iloadN X29.here hx rfl (hb hby d2_83) rfl ?_
    show Steps p.tables e below (T29.setTop (mkF m 84 #[.val (.ref a), .val (.int p1), .val (.long q1), .second, .val (.long r), .second] [(.int p1), (.ref a)])) _
    refine XS.lloadN X29.here hx rfl (hb hby d2_84) rfl ?_
    exact Steps.refl _
  obtain ⟨_, _, ⟨T32, L32, k32, n32⟩, -, X32, ⟨Lc32, hQ32, l32, y32, z32⟩, st32⟩ := Jvm.LawKit.callS X29 hx (y := (⟨"com/example/admission_by_rate/admissionbyrate/Quota", "full", "(IJ)Lcom/example/admission_by_rate/admissionbyrate/Quota;"⟩ : MethodName)) hown (mvT hZ (hw _ (List.mem_of_getElem? (i := 33) rfl))) (mvT hZ (hw _ (List.mem_of_getElem? (i := 34) rfl))) (mvT hZ (hw _ (List.mem_of_getElem? (i := 35) rfl))) (mvT hZ (hw _ (List.mem_of_getElem? (i := 36) rfl))) (by decide) (backOf (W := 1) (rm6 l Z a0 hw [] p1 q1  h29 n0 (Nat.le_trans (Nat.le_trans (Nat.le_trans (Nat.le_trans (Nat.le_trans Z0 (Keep.of_wr W11).1) (Keep.of_wr W14).1) (Keep.of_wr W17).1) (Keep.of_wr W20).1) (Keep.of_wr W29).1) l1 l2 l3 l4) hZ (hw _ (List.mem_of_getElem? (i := 36) rfl)) (hw _ (List.mem_of_getElem? (i := 35) rfl)) (by decide) (by decide)) (g := (mkF m 85 #[.val (.ref a), .val (.int p1), .val (.long q1), .second, .val (.long r), .second] [(.long q1), (.int p1), (.ref a)])) rfl (by rw [hml]; rfl) (argsL := [(.int p1), (.long q1)]) (rest := [(.ref a)]) (lenOf pd_4 rfl) rfl (by show 2 * 0 + _ ≤ _; exact Nat.le_of_eq rfl) (hb hby d2_85) (fun _ _ => ⟨rfl, e29, (by decide : 0 + 1 ≤ _), (by decide : 0 + 4 ≤ _)⟩)
  dsimp only [Pt.U, Pt.locs, Pt.cells, Pt.slots] at X32 l32 y32 z32 st32 hQ32
  subst l32 y32 z32
  obtain ⟨bq, rfl, N32q, K32⟩ := hQ32
  have N32 := Fr.app N29 N32q
  have S33 : Steps p.tables e below Ω (T32.setTop (mkF m 88 #[.val (.ref a), .val (.int p1), .val (.long q1), .second, .val (.long r), .second] [(.ref bq), (.ref a)])) := S31.trans (st32 _ (Steps.refl _))
  have eT32 : T32.heap = T32.heap := rfl
  have E_a_k32 := (E_a_29).keep K32
  have F_limit_a_k32 : Fld Z T32.heap a "com/example/admission_by_rate/admissionbyrate/Gcra" "limit" "I" (.int p1) := (F_limit_a_29).keep K32 nin0
  have F_periodMs_a_k32 : Fld Z T32.heap a "com/example/admission_by_rate/admissionbyrate/Gcra" "periodMs" "J" (.long q1) := (F_periodMs_a_29).keep K32 nin0
  have F_ticksPerMs_a_k32 : Fld Z T32.heap a "com/example/admission_by_rate/admissionbyrate/Gcra" "ticksPerMs" "J" (.long d) := (F_ticksPerMs_a_29).keep K32 nin0
  have F_intervalTicks_a_k32 : Fld Z T32.heap a "com/example/admission_by_rate/admissionbyrate/Gcra" "intervalTicks" "J" (.long (q1 / r)) := (F_intervalTicks_a_29).keep K32 nin0
  have F_periodTicks_a_k32 : Fld Z T32.heap a "com/example/admission_by_rate/admissionbyrate/Gcra" "periodTicks" "J" (.long (q1 * d)) := (F_periodTicks_a_29).keep K32 nin0
  have F_full_a_k32 : Fld Z T32.heap a "com/example/admission_by_rate/admissionbyrate/Gcra" "full" "Lcom/example/admission_by_rate/admissionbyrate/Quota;" .null := (F_full_a_29).keep K32 nin0
  obtain ⟨T34, h34, X34, e34, W34, st34⟩ := putF X32 hx hZ hown (host := "") (Or.inl (hw _ (List.mem_of_getElem? (i := 57) rfl))) Via.refl rfl F_full_a_k32 E_a_k32 (Or.inr ⟨(hw _ (List.mem_of_getElem? (i := 58) rfl)), rfl, hnm⟩) (hw _ (List.mem_of_getElem? (i := 7) rfl)) (ty := (.object "com/example/admission_by_rate/admissionbyrate/Quota")) (by decide) rfl rfl (g := (mkF m 88 #[.val (.ref a), .val (.int p1), .val (.long q1), .second, .val (.long r), .second] [(.ref bq), (.ref a)])) rfl rfl (hb hby d2_88)
  have S35 : Steps p.tables e below Ω (T34.setTop (mkF m 91 #[.val (.ref a), .val (.int p1), .val (.long q1), .second, .val (.long r), .second] [])) := S33.trans (st34 _ (Steps.refl _))
  have N34 := Fr.snoc X34 N32 g
  have E_a_34 := (E_a_k32).wr W34
  have F_limit_a_34 : Fld Z h34 a "com/example/admission_by_rate/admissionbyrate/Gcra" "limit" "I" (.int p1) := (F_limit_a_k32).other W34 (Or.inr (slot_ne (Or.inr (hw _ (List.mem_of_getElem? (i := 23) rfl))) (Or.inr (hw _ (List.mem_of_getElem? (i := 58) rfl))) (by decide) (t := .int) (t' := (.object "com/example/admission_by_rate/admissionbyrate/Quota")) (by decide) (by decide)))
  have F_periodMs_a_34 : Fld Z h34 a "com/example/admission_by_rate/admissionbyrate/Gcra" "periodMs" "J" (.long q1) := (F_periodMs_a_k32).other W34 (Or.inr (slot_ne (Or.inr (hw _ (List.mem_of_getElem? (i := 25) rfl))) (Or.inr (hw _ (List.mem_of_getElem? (i := 58) rfl))) (by decide) (t := .long) (t' := (.object "com/example/admission_by_rate/admissionbyrate/Quota")) (by decide) (by decide)))
  have F_ticksPerMs_a_34 : Fld Z h34 a "com/example/admission_by_rate/admissionbyrate/Gcra" "ticksPerMs" "J" (.long d) := (F_ticksPerMs_a_k32).other W34 (Or.inr (slot_ne (Or.inr (hw _ (List.mem_of_getElem? (i := 27) rfl))) (Or.inr (hw _ (List.mem_of_getElem? (i := 58) rfl))) (by decide) (t := .long) (t' := (.object "com/example/admission_by_rate/admissionbyrate/Quota")) (by decide) (by decide)))
  have F_intervalTicks_a_34 : Fld Z h34 a "com/example/admission_by_rate/admissionbyrate/Gcra" "intervalTicks" "J" (.long (q1 / r)) := (F_intervalTicks_a_k32).other W34 (Or.inr (slot_ne (Or.inr (hw _ (List.mem_of_getElem? (i := 29) rfl))) (Or.inr (hw _ (List.mem_of_getElem? (i := 58) rfl))) (by decide) (t := .long) (t' := (.object "com/example/admission_by_rate/admissionbyrate/Quota")) (by decide) (by decide)))
  have F_periodTicks_a_34 : Fld Z h34 a "com/example/admission_by_rate/admissionbyrate/Gcra" "periodTicks" "J" (.long (q1 * d)) := (F_periodTicks_a_k32).other W34 (Or.inr (slot_ne (Or.inr (hw _ (List.mem_of_getElem? (i := 32) rfl))) (Or.inr (hw _ (List.mem_of_getElem? (i := 58) rfl))) (by decide) (t := .long) (t' := (.object "com/example/admission_by_rate/admissionbyrate/Quota")) (by decide) (by decide)))
  have F_full_a_34 : Fld Z h34 a "com/example/admission_by_rate/admissionbyrate/Gcra" "full" "Lcom/example/admission_by_rate/admissionbyrate/Quota;" (.ref bq) := (F_full_a_k32).same W34
  obtain ⟨fs, hr, hrun, hended, hW, hsame⟩ := X34.leave (v := none) (fun _ => rfl)
  have hfin : Steps p.tables e below Ω (T34.setFrames fs) := by
    refine S35.trans ?_
    exact X34.returnOut hx Bd.returns (hb hby d2_91) hr
  rw [hΩ] at hfin
  refine ⟨_, _, hfin, hrun, hended, _, _, rfl, ?_, ⟨_, rfl⟩, hW, hsame.mono (by decide) (by decide)⟩
  show Q2 Z a p1 q1 h0 n0 _ T34.heap _
  rw [e34]
  exact ⟨d, rfl, N34, hd.1, hd2, (((Keep.trans (((((((((((Keep.refl h0 [a])).wr W11 (Or.inl (List.mem_of_getElem? (i := 0) rfl)))).wr W14 (Or.inl (List.mem_of_getElem? (i := 0) rfl)))).wr W17 (Or.inl (List.mem_of_getElem? (i := 0) rfl)))).wr W20 (Or.inl (List.mem_of_getElem? (i := 0) rfl)))).wr W29 (Or.inl (List.mem_of_getElem? (i := 0) rfl))) K32 all0)).wr W34 (Or.inl (List.mem_of_getElem? (i := 0) rfl))), E_a_34, F_ticksPerMs_a_34⟩
theorem d9_0 : decode prog_4_method_4_code 0 = .ok (.aload_n 0, 1) := by decide +kernel
theorem d9_1 : decode prog_4_method_4_code 1 = .ok (.getfield 29, 3) := by decide +kernel
theorem d9_4 : decode prog_4_method_4_code 4 = .ok (.lreturn, 1) := by decide +kernel
theorem ef_rm9 (m : MethodId) (x0 : Addr) : entryFrame m #[(.ref x0)] 1 = mkF m 0 #[.val (.ref x0)] [] := by first | (simp [entryFrame, mkF, argsToLocals, Value.category]; done) | rfl
def Q9 (Z : State) (a : Addr) (d : Int64) (h0 : Heap) (n0 : Nat) (v : Option Value) (h : Heap) (L : List Loc) : Prop := v = some (.long d) ∧ Fr n0 L ∧ h = h0
set_option maxRecDepth 65536 in
set_option maxHeartbeats 40000000 in
theorem rm9 (l : Launch) (Z : State) (a0 : Array Value) (hw : ∀ d ∈ tables_1, d.before a0 Z = true) (ws : List Jvm.Cond) (a : Addr) (d : Int64) (h0 : Heap) (n0 : Nat) (Z0 : n0 ≤ h0.size) (F1 : Fld Z h0 a "com/example/admission_by_rate/admissionbyrate/Gcra" "ticksPerMs" "J" (.long d)) :
    MetFree l (⟨"com/example/admission_by_rate/admissionbyrate/Gcra", "ticksPerMs", "()J"⟩ : MethodName) (head1 (Jvm.Cond.code (⟨"com/example/admission_by_rate/admissionbyrate/Gcra", "ticksPerMs", "()J"⟩ : MethodName) prog_4_method_4_code 1 (some .long) :: ws) ({ frames := 0, cells := 0, slots := 0, locals := 0 } : Room)) (fun aa U => aa = #[(.ref a)] ∧ Z.Warmed39 U.vm ∧ U.heap = h0) (fun _ _ _ _ _ => True) (fun _ U o U' => ∃ v L, o = .returned v ∧ Q9 Z a d h0 n0 v U'.heap L ∧ FrameEnd U o U' L ({ frames := 0, cells := 0, slots := 0, locals := 0 } : Room).cells ({ frames := 0, cells := 0, slots := 0, locals := 0 } : Room).slots) := by
  refine MetFree.of_bodySF (plainFor_of_name pn_2) hisR ?_
  intro p e s m args below meth c s₁ Bd hml0 hP hK
  obtain ⟨rfl, hZ, hh⟩ := hP
  have hx := Bd.exec
  have hby := Bd.bytes
  have hml : c.maxLocals = 1 := hml0
  have hown : s.vm.findClass "com/example/admission_by_rate/admissionbyrate/Gcra" = some m.cls := findClass_of_methodNamed Bd.named
  have hnm := (name_of_methodNamed Bd.named Bd.method).1
  have X0 : Stand p l e ({ frames := 0, cells := 0, slots := 0, locals := 0 } : Room) s m #[(.ref a)] below meth c s₁ [] 0 0 := Stand.of_body Bd
  have e0 : s₁.heap = h0 := by rw [← hh, Bd.state]; rfl
  have N0 := Fr.nil n0
  obtain ⟨Ω, hΩ⟩ : ∃ z, z = s₁.setTop (entryFrame m #[(.ref a)] 1) := ⟨_, rfl⟩
  have S0 : Steps p.tables e below Ω (s₁.setTop (mkF m 0 #[.val (.ref a)] [])) := by rw [hΩ]; exact castTop (ef_rm9 m a) (Steps.refl _)
  have S1 : Steps p.tables e below Ω (s₁.setTop (mkF m 1 #[.val (.ref a)] [(.ref a)])) := by
    refine S0.trans ?_
    refine XS.aloadN X0.here hx rfl (hb hby d9_0) rfl rfl ?_
    exact Steps.refl _
  obtain ⟨T2, X2, e2, st2⟩ := getF X0 hx hZ hown (host := "") (Or.inl (hw _ (List.mem_of_getElem? (i := 26) rfl))) Via.refl e0 F1 (g := (mkF m 1 #[.val (.ref a)] [(.ref a)])) rfl rfl (hb hby d9_1)
  have S3 : Steps p.tables e below Ω (T2.setTop (mkF m 4 #[.val (.ref a)] [(.long d)])) := S1.trans (st2 _ (Steps.refl _))
  obtain ⟨fs, hr, hrun, hended, hW, hsame⟩ := X2.leave (v := some (.long d)) (fun h => by rw [Bd.returns] at h; cases h)
  have hfin : Steps p.tables e below Ω (T2.setFrames fs) := by
    refine S3.trans ?_
    exact X2.lreturnOut hx Bd.returns (hb hby d9_4) hr
  rw [hΩ] at hfin
  refine ⟨_, _, hfin, hrun, hended, _, _, rfl, ?_, ⟨_, rfl⟩, hW, hsame.mono (by decide) (by decide)⟩
  show Q9 Z a d h0 n0 _ T2.heap _
  rw [e2]
  exact ⟨rfl, N0, rfl⟩
theorem d10_0 : decode prog_4_method_11_code 0 = .ok (.lload_n 1, 1) := by decide +kernel
theorem d10_1 : decode prog_4_method_11_code 1 = .ok (.aload_n 0, 1) := by decide +kernel
theorem d10_2 : decode prog_4_method_11_code 2 = .ok (.getfield 29, 3) := by decide +kernel
theorem d10_5 : decode prog_4_method_11_code 5 = .ok (.ldiv, 1) := by decide +kernel
theorem d10_6 : decode prog_4_method_11_code 6 = .ok (.lload_n 1, 1) := by decide +kernel
theorem d10_7 : decode prog_4_method_11_code 7 = .ok (.aload_n 0, 1) := by decide +kernel
theorem d10_8 : decode prog_4_method_11_code 8 = .ok (.getfield 29, 3) := by decide +kernel
theorem d10_11 : decode prog_4_method_11_code 11 = .ok (.lrem, 1) := by decide +kernel
theorem d10_12 : decode prog_4_method_11_code 12 = .ok (.lconst 0, 1) := by decide +kernel
theorem d10_13 : decode prog_4_method_11_code 13 = .ok (.lcmp, 1) := by decide +kernel
theorem d10_14 : decode prog_4_method_11_code 14 = .ok (.ifCond .le 7, 3) := by decide +kernel
theorem d10_17 : decode prog_4_method_11_code 17 = .ok (.iconst 1, 1) := by decide +kernel
theorem d10_18 : decode prog_4_method_11_code 18 = .ok (.goto 4, 3) := by decide +kernel
theorem d10_21 : decode prog_4_method_11_code 21 = .ok (.iconst 0, 1) := by decide +kernel
theorem d10_22 : decode prog_4_method_11_code 22 = .ok (.i2l, 1) := by decide +kernel
theorem d10_23 : decode prog_4_method_11_code 23 = .ok (.ladd, 1) := by decide +kernel
theorem d10_24 : decode prog_4_method_11_code 24 = .ok (.lreturn, 1) := by decide +kernel
theorem ef_rm10 (m : MethodId) (x0 : Addr) (x1 : Int64) : entryFrame m #[(.ref x0), (.long x1)] 3 = mkF m 0 #[.val (.ref x0), .val (.long x1), .second] [] := by first | (simp [entryFrame, mkF, argsToLocals, Value.category]; done) | rfl
def Q10 (Z : State) (a : Addr) (q1 : Int64) (d : Int64) (h0 : Heap) (n0 : Nat) (v : Option Value) (h : Heap) (L : List Loc) : Prop := v = some (.long (own_dr q1 d)) ∧ Fr n0 L ∧ h = h0
set_option maxRecDepth 65536 in
set_option maxHeartbeats 40000000 in
theorem rm10 (l : Launch) (Z : State) (a0 : Array Value) (hw : ∀ d ∈ tables_1, d.before a0 Z = true) (ws : List Jvm.Cond) (a : Addr) (q1 : Int64) (d : Int64) (h0 : Heap) (n0 : Nat) (Z0 : n0 ≤ h0.size) (F1 : Fld Z h0 a "com/example/admission_by_rate/admissionbyrate/Gcra" "ticksPerMs" "J" (.long d)) (hz : d ≠ 0) :
    MetFree l (⟨"com/example/admission_by_rate/admissionbyrate/Gcra", "drainedMs", "(J)J"⟩ : MethodName) (head1 (Jvm.Cond.code (⟨"com/example/admission_by_rate/admissionbyrate/Gcra", "drainedMs", "(J)J"⟩ : MethodName) prog_4_method_11_code 3 (some .long) :: ws) ({ frames := 0, cells := 0, slots := 0, locals := 0 } : Room)) (fun aa U => aa = #[(.ref a), (.long q1)] ∧ Z.Warmed39 U.vm ∧ U.heap = h0) (fun _ _ _ _ _ => True) (fun _ U o U' => ∃ v L, o = .returned v ∧ Q10 Z a q1 d h0 n0 v U'.heap L ∧ FrameEnd U o U' L ({ frames := 0, cells := 0, slots := 0, locals := 0 } : Room).cells ({ frames := 0, cells := 0, slots := 0, locals := 0 } : Room).slots) := by
  refine MetFree.of_bodySF (plainFor_of_name pn_2) hisR ?_
  intro p e s m args below meth c s₁ Bd hml0 hP hK
  obtain ⟨rfl, hZ, hh⟩ := hP
  have hx := Bd.exec
  have hby := Bd.bytes
  have hml : c.maxLocals = 3 := hml0
  have hown : s.vm.findClass "com/example/admission_by_rate/admissionbyrate/Gcra" = some m.cls := findClass_of_methodNamed Bd.named
  have hnm := (name_of_methodNamed Bd.named Bd.method).1
  have X0 : Stand p l e ({ frames := 0, cells := 0, slots := 0, locals := 0 } : Room) s m #[(.ref a), (.long q1)] below meth c s₁ [] 0 0 := Stand.of_body Bd
  have e0 : s₁.heap = h0 := by rw [← hh, Bd.state]; rfl
  have N0 := Fr.nil n0
  obtain ⟨Ω, hΩ⟩ : ∃ z, z = s₁.setTop (entryFrame m #[(.ref a), (.long q1)] 3) := ⟨_, rfl⟩
  have S0 : Steps p.tables e below Ω (s₁.setTop (mkF m 0 #[.val (.ref a), .val (.long q1), .second] [])) := by rw [hΩ]; exact castTop (ef_rm10 m a q1) (Steps.refl _)
  have S1 : Steps p.tables e below Ω (s₁.setTop (mkF m 2 #[.val (.ref a), .val (.long q1), .second] [(.ref a), (.long q1)])) := by
    refine S0.trans ?_
    refine XS.lloadN X0.here hx rfl (hb hby d10_0) rfl ?_
    show Steps p.tables e below (s₁.setTop (mkF m 1 #[.val (.ref a), .val (.long q1), .second] [(.long q1)])) _
    refine XS.aloadN X0.here hx rfl (hb hby d10_1) rfl rfl ?_
    exact Steps.refl _
  obtain ⟨T2, X2, e2, st2⟩ := getF X0 hx hZ hown (host := "") (Or.inl (hw _ (List.mem_of_getElem? (i := 26) rfl))) Via.refl e0 F1 (g := (mkF m 2 #[.val (.ref a), .val (.long q1), .second] [(.ref a), (.long q1)])) rfl rfl (hb hby d10_2)
  have S3 : Steps p.tables e below Ω (T2.setTop (mkF m 5 #[.val (.ref a), .val (.long q1), .second] [(.long d), (.long q1)])) := S1.trans (st2 _ (Steps.refl _))
  have S4 : Steps p.tables e below Ω (T2.setTop (mkF m 8 #[.val (.ref a), .val (.long q1), .second] [(.ref a), (.long q1), (.long (q1 / d))])) := by
    refine S3.trans ?_
    refine XS.ldiv X2.here hx rfl (hb hby d10_5) rfl hz ?_
    show Steps p.tables e below (T2.setTop (mkF m 6 #[.val (.ref a), .val (.long q1), .second] [(.long (q1 / d))])) _
    refine XS.lloadN X2.here hx rfl (hb hby d10_6) rfl ?_
    show Steps p.tables e below (T2.setTop (mkF m 7 #[.val (.ref a), .val (.long q1), .second] [(.long q1), (.long (q1 / d))])) _
    refine XS.aloadN X2.here hx rfl (hb hby d10_7) rfl rfl ?_
    exact Steps.refl _
  obtain ⟨T5, X5, e5, st5⟩ := getF X2 hx hZ hown (host := "") (Or.inl (hw _ (List.mem_of_getElem? (i := 26) rfl))) Via.refl e2 F1 (g := (mkF m 8 #[.val (.ref a), .val (.long q1), .second] [(.ref a), (.long q1), (.long (q1 / d))])) rfl rfl (hb hby d10_8)
  have S6 : Steps p.tables e below Ω (T5.setTop (mkF m 11 #[.val (.ref a), .val (.long q1), .second] [(.long d), (.long q1), (.long (q1 / d))])) := S4.trans (st5 _ (Steps.refl _))
  have S7 : Steps p.tables e below Ω (T5.setTop (mkF m 14 #[.val (.ref a), .val (.long q1), .second] [(.int (lcmpW (q1 % d) (0 : Int64))), (.long (q1 / d))])) := by
    refine S6.trans ?_
    refine own_lrem X5 hx rfl (hb hby d10_11) rfl hz ?_
    show Steps p.tables e below (T5.setTop (mkF m 12 #[.val (.ref a), .val (.long q1), .second] [(.long (q1 % d)), (.long (q1 / d))])) _
    refine XS.lconst X5.here hx rfl (hb hby d10_12) ?_
    show Steps p.tables e below (T5.setTop (mkF m 13 #[.val (.ref a), .val (.long q1), .second] [(.long (0 : Int64)), (.long (q1 % d)), (.long (q1 / d))])) _
    refine XS.lcmp X5.here hx rfl (hb hby d10_13) rfl ?_
    exact Steps.refl _
  obtain ⟨t, h_t, S9⟩ : ∃ (t : Int32), t = (if (0 : Int64) < (q1 % d) then (1 : Int32) else (0 : Int32)) ∧ Steps p.tables e below Ω (T5.setTop (mkF m 22 #[.val (.ref a), .val (.long q1), .second] [(.int t), (.long (q1 / d))])) := by
    by_cases c8 : (0 : Int64) < (q1 % d)
    · refine ⟨(1 : Int32), (by rw [if_pos c8]), S7.trans ?_⟩
      refine XS.ifNo X5.here hx rfl (hb hby d10_14) rfl (XT.ll_le_f c8) ?_
      show Steps p.tables e below (T5.setTop (mkF m 17 #[.val (.ref a), .val (.long q1), .second] [(.long (q1 / d))])) _
      refine XS.iconst X5.here hx rfl (hb hby d10_17) ?_
      show Steps p.tables e below (T5.setTop (mkF m 18 #[.val (.ref a), .val (.long q1), .second] [(.int (1 : Int32)), (.long (q1 / d))])) _
      refine XS.goto X5.here hx rfl (pc0 := 18) (pc' := 22) rfl (hb hby d10_18) (by decide) (by decide) ?_
      exact Steps.refl _
    · refine ⟨(0 : Int32), (by rw [if_neg c8]), S7.trans ?_⟩
      refine XS.ifYes X5.here hx rfl (pc0 := 14) (pc' := 21) rfl (hb hby d10_14) rfl (XT.ll_le_t c8) (by decide) (by decide) ?_
      show Steps p.tables e below (T5.setTop (mkF m 21 #[.val (.ref a), .val (.long q1), .second] [(.long (q1 / d))])) _
      refine XS.iconst X5.here hx rfl (hb hby d10_21) ?_
      exact Steps.refl _
  have S10 : Steps p.tables e below Ω (T5.setTop (mkF m 24 #[.val (.ref a), .val (.long q1), .second] [(.long ((q1 / d) + (t.toInt64)))])) := by
    refine S9.trans ?_
    refine XS.i2l X5.here hx rfl (hb hby d10_22) rfl ?_
    show Steps p.tables e below (T5.setTop (mkF m 23 #[.val (.ref a), .val (.long q1), .second] [(.long (t.toInt64)), (.long (q1 / d))])) _
    refine XS.ladd X5.here hx rfl (hb hby d10_23) rfl ?_
    exact Steps.refl _
  obtain ⟨fs, hr, hrun, hended, hW, hsame⟩ := X5.leave (v := some (.long ((q1 / d) + (t.toInt64)))) (fun h => by rw [Bd.returns] at h; cases h)
  have hfin : Steps p.tables e below Ω (T5.setFrames fs) := by
    refine S10.trans ?_
    exact X5.lreturnOut hx Bd.returns (hb hby d10_24) hr
  rw [hΩ] at hfin
  refine ⟨_, _, hfin, hrun, hended, _, _, rfl, ?_, ⟨_, rfl⟩, hW, hsame.mono (by decide) (by decide)⟩
  show Q10 Z a q1 d h0 n0 _ T5.heap _
  rw [e5]
  exact ⟨by rw [own_dr, h_t], N0, rfl⟩
theorem pd_5 : parseMethodDescriptor "(II)I" = some ⟨[.int, .int], some .int⟩ := by decide +kernel
theorem pd_6 : parseMethodDescriptor "()J" = some ⟨[], some .long⟩ := by decide +kernel
theorem pd_7 : parseMethodDescriptor "(J)J" = some ⟨[.long], some .long⟩ := by decide +kernel
theorem pn_4 : plainName "com/example/admission_by_rate/admissionbyrate/GcraDrainedMsPinLaw" = true := by first | (simp [plainName, overriddenIn]; done) | decide +kernel
theorem ef_rm0 (m : MethodId) (x0 : Int32) (x1 : Int64) (x2 : Int64) (x3 : Int32) : entryFrame m #[(.int x0), (.long x1), (.long x2), (.int x3)] maxLocals = mkF m 0 #[.val (.int x0), .val (.long x1), .second, .val (.long x2), .second, .val (.int x3), .unset, .unset, .unset, .unset, .unset, .unset, .unset, .unset, .unset, .unset, .unset, .unset, .unset, .unset] [] := by first | (simp [entryFrame, mkF, argsToLocals, Value.category, maxLocals]; done) | rfl
def Q0 (Z : State) (a1 : Int32) (p1 : Int64) (s1 : Int64) (se : Int32) (h0 : Heap) (n0 : Nat) (v : Option Value) (h : Heap) (L : List Loc) : Prop := v = some (.int 1) ∧ Fr n0 L
set_option maxRecDepth 65536 in
set_option maxHeartbeats 40000000 in
theorem rm0 (l : Launch) (Z : State) (a0 : Array Value) (hw : ∀ d ∈ tables_1, d.before a0 Z = true) (ws : List Jvm.Cond) (a1 : Int32) (p1 : Int64) (s1 : Int64) (se : Int32) (h0 : Heap) (n0 : Nat) (Z0 : n0 ≤ h0.size) :
    MetFree l x (head1 (Jvm.Cond.code x code maxLocals ret :: ws) room_1) (fun aa U => aa = #[(.int a1), (.long p1), (.long s1), (.int se)] ∧ Z.Warmed39 U.vm ∧ U.heap = h0) (fun _ _ _ _ _ => True) (fun _ U o U' => ∃ v L, o = .returned v ∧ Q0 Z a1 p1 s1 se h0 n0 v U'.heap L ∧ FrameEnd U o U' L room_1.cells room_1.slots) := by
  refine MetFree.of_bodySF (plainFor_of_name pn_4) hisR ?_
  intro p e s m args below meth c s₁ Bd hml0 hP hK
  obtain ⟨rfl, hZ, hh⟩ := hP
  have hx := Bd.exec
  have hby := Bd.bytes
  have hml : c.maxLocals = 20 := hml0
  have hown : s.vm.findClass "com/example/admission_by_rate/admissionbyrate/GcraDrainedMsPinLaw" = some m.cls := findClass_of_methodNamed Bd.named
  have hnm := (name_of_methodNamed Bd.named Bd.method).1
  have X0 : Stand p l e room_1 s m #[(.int a1), (.long p1), (.long s1), (.int se)] below meth c s₁ [] 0 0 := Stand.of_body Bd
  have e0 : s₁.heap = h0 := by rw [← hh, Bd.state]; rfl
  have N0 := Fr.nil n0
  obtain ⟨Ω, hΩ⟩ : ∃ z, z = s₁.setTop (entryFrame m #[(.int a1), (.long p1), (.long s1), (.int se)] maxLocals) := ⟨_, rfl⟩
  have S0 : Steps p.tables e below Ω (s₁.setTop (mkF m 0 #[.val (.int a1), .val (.long p1), .second, .val (.long s1), .second, .val (.int se), .unset, .unset, .unset, .unset, .unset, .unset, .unset, .unset, .unset, .unset, .unset, .unset, .unset, .unset] [])) := by rw [hΩ]; exact castTop (ef_rm0 m a1 p1 s1 se) (Steps.refl _)
  have S1 : Steps p.tables e below Ω (s₁.setTop (mkF m 5 #[.val (.int a1), .val (.long p1), .second, .val (.long s1), .second, .val (.int se), .unset, .unset, .unset, .unset, .unset, .unset, .unset, .unset, .unset, .unset, .unset, .unset, .unset, .unset] [(.int (a1 &&& (2147483647 : Int32))), (.int (1 : Int32))])) := by
    refine S0.trans ?_
    refine XS.iconst X0.here hx rfl (hb hby at_0) ?_
    show Steps p.tables e below (s₁.setTop (mkF m 1 #[.val (.int a1), .val (.long p1), .second, .val (.long s1), .second, .val (.int se), .unset, .unset, .unset, .unset, .unset, .unset, .unset, .unset, .unset, .unset, .unset, .unset, .unset, .unset] [(.int (1 : Int32))])) _
    refine XS.iloadN X0.here hx rfl (hb hby at_1) rfl ?_
    show Steps p.tables e below (s₁.setTop (mkF m 2 #[.val (.int a1), .val (.long p1), .second, .val (.long s1), .second, .val (.int se), .unset, .unset, .unset, .unset, .unset, .unset, .unset, .unset, .unset, .unset, .unset, .unset, .unset, .unset] [(.int a1), (.int (1 : Int32))])) _
    refine X0.ldcInt hx hown (mvT hZ (hw _ (List.mem_of_getElem? (i := 0) rfl))) (g := (mkF m 2 #[.val (.int a1), .val (.long p1), .second, .val (.long s1), .second, .val (.int se), .unset, .unset, .unset, .unset, .unset, .unset, .unset, .unset, .unset, .unset, .unset, .unset, .unset, .unset] [(.int a1), (.int (1 : Int32))])) rfl (hb hby at_2) _ ?_
    show Steps p.tables e below (s₁.setTop (mkF m 4 #[.val (.int a1), .val (.long p1), .second, .val (.long s1), .second, .val (.int se), .unset, .unset, .unset, .unset, .unset, .unset, .unset, .unset, .unset, .unset, .unset, .unset, .unset, .unset] [(.int (2147483647 : Int32)), (.int a1), (.int (1 : Int32))])) _
    refine XS.iand X0.here hx rfl (hb hby at_4) rfl ?_
    exact Steps.refl _
  obtain ⟨_, _, ⟨T2, L2, k2, n2⟩, -, X2, ⟨Lc2, hQ2, l2, y2, z2⟩, st2⟩ := Jvm.LawKit.callS X0 hx (y := (⟨"java/lang/Math", "max", "(II)I"⟩ : MethodName)) hown (mvT hZ (hw _ (List.mem_of_getElem? (i := 1) rfl))) (mvT hZ (hw _ (List.mem_of_getElem? (i := 2) rfl))) (mvT hZ (hw _ (List.mem_of_getElem? (i := 3) rfl))) (mvT hZ (hw _ (List.mem_of_getElem? (i := 4) rfl))) (by decide) (backOf (W := 0) (rm1 l Z a0 hw [] (1 : Int32) (a1 &&& (2147483647 : Int32))  h0 n0 Z0 ) hZ (hw _ (List.mem_of_getElem? (i := 4) rfl)) (hw _ (List.mem_of_getElem? (i := 3) rfl)) (by decide) (by decide)) (g := (mkF m 5 #[.val (.int a1), .val (.long p1), .second, .val (.long s1), .second, .val (.int se), .unset, .unset, .unset, .unset, .unset, .unset, .unset, .unset, .unset, .unset, .unset, .unset, .unset, .unset] [(.int (a1 &&& (2147483647 : Int32))), (.int (1 : Int32))])) rfl (by rw [hml]; rfl) (argsL := [(.int (1 : Int32)), (.int (a1 &&& (2147483647 : Int32)))]) (rest := []) (lenOf pd_5 rfl) rfl (by show 2 * 0 + _ ≤ _; exact Nat.le_of_eq rfl) (hb hby at_5) (fun _ _ => ⟨rfl, e0, (by decide : 0 + 0 ≤ _), (by decide : 0 + 0 ≤ _)⟩)
  dsimp only [Pt.U, Pt.locs, Pt.cells, Pt.slots] at X2 l2 y2 z2 st2 hQ2
  subst l2 y2 z2
  obtain ⟨rfl, N2q, e2⟩ := hQ2
  have N2 := Fr.app N0 N2q
  have S3 : Steps p.tables e below Ω (T2.setTop (mkF m 8 #[.val (.int a1), .val (.long p1), .second, .val (.long s1), .second, .val (.int se), .unset, .unset, .unset, .unset, .unset, .unset, .unset, .unset, .unset, .unset, .unset, .unset, .unset, .unset] [(.int (own_max (1 : Int32) (a1 &&& (2147483647 : Int32))))])) := S1.trans (st2 _ (Steps.refl _))
  obtain ⟨li, h_li⟩ : ∃ z : Int32, z = (own_max (1 : Int32) (a1 &&& (2147483647 : Int32))) := ⟨_, rfl⟩
  rw [← h_li] at S3
  have S4 : Steps p.tables e below Ω (T2.setTop (mkF m 19 #[.val (.int a1), .val (.long p1), .second, .val (.long s1), .second, .val (.int se), .val (.int li), .val (.long ((1 : Int64) + (p1 &&& (4294967295 : Int64)))), .second, .unset, .unset, .unset, .unset, .unset, .unset, .unset, .unset, .unset, .unset, .unset] [])) := by
    refine S3.trans ?_
    refine XS.istore X2.here hx rfl (hb hby at_8) rfl (l' := #[.val (.int a1), .val (.long p1), .second, .val (.long s1), .second, .val (.int se), .val (.int li), .unset, .unset, .unset, .unset, .unset, .unset, .unset, .unset, .unset, .unset, .unset, .unset, .unset]) rfl ?_
    show Steps p.tables e below (T2.setTop (mkF m 10 #[.val (.int a1), .val (.long p1), .second, .val (.long s1), .second, .val (.int se), .val (.int li), .unset, .unset, .unset, .unset, .unset, .unset, .unset, .unset, .unset, .unset, .unset, .unset, .unset] [])) _
    refine XS.lconst X2.here hx rfl (hb hby at_10) ?_
    show Steps p.tables e below (T2.setTop (mkF m 11 #[.val (.int a1), .val (.long p1), .second, .val (.long s1), .second, .val (.int se), .val (.int li), .unset, .unset, .unset, .unset, .unset, .unset, .unset, .unset, .unset, .unset, .unset, .unset, .unset] [(.long (1 : Int64))])) _
    refine XS.lloadN X2.here hx rfl (hb hby at_11) rfl ?_
    show Steps p.tables e below (T2.setTop (mkF m 12 #[.val (.int a1), .val (.long p1), .second, .val (.long s1), .second, .val (.int se), .val (.int li), .unset, .unset, .unset, .unset, .unset, .unset, .unset, .unset, .unset, .unset, .unset, .unset, .unset] [(.long p1), (.long (1 : Int64))])) _
    refine X2.ldc2Long hx hown (mvT hZ (hw _ (List.mem_of_getElem? (i := 5) rfl))) (g := (mkF m 12 #[.val (.int a1), .val (.long p1), .second, .val (.long s1), .second, .val (.int se), .val (.int li), .unset, .unset, .unset, .unset, .unset, .unset, .unset, .unset, .unset, .unset, .unset, .unset, .unset] [(.long p1), (.long (1 : Int64))])) rfl (hb hby at_12) _ ?_
    show Steps p.tables e below (T2.setTop (mkF m 15 #[.val (.int a1), .val (.long p1), .second, .val (.long s1), .second, .val (.int se), .val (.int li), .unset, .unset, .unset, .unset, .unset, .unset, .unset, .unset, .unset, .unset, .unset, .unset, .unset] [(.long (4294967295 : Int64)), (.long p1), (.long (1 : Int64))])) _
    refine XS.land X2.here hx rfl (hb hby at_15) rfl ?_
    show Steps p.tables e below (T2.setTop (mkF m 16 #[.val (.int a1), .val (.long p1), .second, .val (.long s1), .second, .val (.int se), .val (.int li), .unset, .unset, .unset, .unset, .unset, .unset, .unset, .unset, .unset, .unset, .unset, .unset, .unset] [(.long (p1 &&& (4294967295 : Int64))), (.long (1 : Int64))])) _
    refine XS.ladd X2.here hx rfl (hb hby at_16) rfl ?_
    show Steps p.tables e below (T2.setTop (mkF m 17 #[.val (.int a1), .val (.long p1), .second, .val (.long s1), .second, .val (.int se), .val (.int li), .unset, .unset, .unset, .unset, .unset, .unset, .unset, .unset, .unset, .unset, .unset, .unset, .unset] [(.long ((1 : Int64) + (p1 &&& (4294967295 : Int64))))])) _
    refine XS.lstore X2.here hx rfl (hb hby at_17) rfl (l' := #[.val (.int a1), .val (.long p1), .second, .val (.long s1), .second, .val (.int se), .val (.int li), .val (.long ((1 : Int64) + (p1 &&& (4294967295 : Int64)))), .second, .unset, .unset, .unset, .unset, .unset, .unset, .unset, .unset, .unset, .unset, .unset]) rfl ?_
    exact Steps.refl _
  obtain ⟨pe, h_pe⟩ : ∃ z : Int64, z = ((1 : Int64) + (p1 &&& (4294967295 : Int64))) := ⟨_, rfl⟩
  rw [← h_pe] at S4
  have m1 := own_maxI (1 : Int32) (a1 &&& (2147483647 : Int32))
  rw [← h_li] at m1
  have o1 : (1 : Int32).toInt = 1 := by decide
  have m2 : 1 ≤ li.toInt := by omega
  have m3 : (p1 &&& (4294967295 : Int64)).toInt = p1.toInt % (2 ^ 32 : Nat) := c_maskL p1 (4294967295 : Int64) 32 (by decide) (by decide)
  have m4 := c_ladd (1 : Int64) (p1 &&& (4294967295 : Int64))
  rw [← h_pe] at m4
  have o2 : (1 : Int64).toInt = 1 := by decide
  have m5 := rng64 pe
  have m6 : 1 ≤ pe.toInt ∧ pe.toInt ≤ 4294967296 := by omega
  obtain ⟨T5, h5, X5, e5, E5, A5, D5, -, st5⟩ := newO X2 hx hZ hown (hw _ (List.mem_of_getElem? (i := 6) rfl)) (hw _ (List.mem_of_getElem? (i := 7) rfl)) (hw _ (List.mem_of_getElem? (i := 8) rfl)) e2 (g := (mkF m 19 #[.val (.int a1), .val (.long p1), .second, .val (.long s1), .second, .val (.int se), .val (.int li), .val (.long pe), .second, .unset, .unset, .unset, .unset, .unset, .unset, .unset, .unset, .unset, .unset, .unset] [])) rfl (hb hby at_19) (by decide) (by decide)
  obtain ⟨b, s_b⟩ : ∃ z, z = h0.size := ⟨_, rfl⟩
  rw [← s_b] at A5 D5 st5
  have g_b : n0 ≤ b := Nat.le_trans Z0 (Nat.le_of_eq s_b.symm)
  have F_limit_b : Fld Z h5 b "com/example/admission_by_rate/admissionbyrate/Gcra" "limit" "I" (.int (0 : Int32)) := D5 (Or.inr (hw _ (List.mem_of_getElem? (i := 23) rfl))) (ty := .int) (by decide)
  have F_periodMs_b : Fld Z h5 b "com/example/admission_by_rate/admissionbyrate/Gcra" "periodMs" "J" (.long (0 : Int64)) := D5 (Or.inr (hw _ (List.mem_of_getElem? (i := 25) rfl))) (ty := .long) (by decide)
  have F_ticksPerMs_b : Fld Z h5 b "com/example/admission_by_rate/admissionbyrate/Gcra" "ticksPerMs" "J" (.long (0 : Int64)) := D5 (Or.inr (hw _ (List.mem_of_getElem? (i := 27) rfl))) (ty := .long) (by decide)
  have F_intervalTicks_b : Fld Z h5 b "com/example/admission_by_rate/admissionbyrate/Gcra" "intervalTicks" "J" (.long (0 : Int64)) := D5 (Or.inr (hw _ (List.mem_of_getElem? (i := 29) rfl))) (ty := .long) (by decide)
  have F_periodTicks_b : Fld Z h5 b "com/example/admission_by_rate/admissionbyrate/Gcra" "periodTicks" "J" (.long (0 : Int64)) := D5 (Or.inr (hw _ (List.mem_of_getElem? (i := 32) rfl))) (ty := .long) (by decide)
  have F_full_b : Fld Z h5 b "com/example/admission_by_rate/admissionbyrate/Gcra" "full" "Lcom/example/admission_by_rate/admissionbyrate/Quota;" .null := D5 (Or.inr (hw _ (List.mem_of_getElem? (i := 58) rfl))) (ty := (.object "com/example/admission_by_rate/admissionbyrate/Quota")) (by decide)
  have S6 : Steps p.tables e below Ω (T5.setTop (mkF m 22 #[.val (.int a1), .val (.long p1), .second, .val (.long s1), .second, .val (.int se), .val (.int li), .val (.long pe), .second, .unset, .unset, .unset, .unset, .unset, .unset, .unset, .unset, .unset, .unset, .unset] [(.ref b)])) := S4.trans (st5 _ (Steps.refl _))
  have S7 : Steps p.tables e below Ω (T5.setTop (mkF m 27 #[.val (.int a1), .val (.long p1), .second, .val (.long s1), .second, .val (.int se), .val (.int li), .val (.long pe), .second, .unset, .unset, .unset, .unset, .unset, .unset, .unset, .unset, .unset, .unset, .unset] [(.long pe), (.int li), (.ref b), (.ref b)])) := by
    refine S6.trans ?_
    refine XS.dup X5.here hx rfl (hb hby at_22) rfl rfl ?_
    show Steps p.tables e below (T5.setTop (mkF m 23 #[.val (.int a1), .val (.long p1), .second, .val (.long s1), .second, .val (.int se), .val (.int li), .val (.long pe), .second, .unset, .unset, .unset, .unset, .unset, .unset, .unset, .unset, .unset, .unset, .unset] [(.ref b), (.ref b)])) _
    refine XS.iload X5.here hx rfl (hb hby at_23) rfl ?_
    show Steps p.tables e below (T5.setTop (mkF m 25 #[.val (.int a1), .val (.long p1), .second, .val (.long s1), .second, .val (.int se), .val (.int li), .val (.long pe), .second, .unset, .unset, .unset, .unset, .unset, .unset, .unset, .unset, .unset, .unset, .unset] [(.int li), (.ref b), (.ref b)])) _
    refine XS.lload X5.here hx rfl (hb hby at_25) rfl ?_
    exact Steps.refl _
  obtain ⟨_, _, ⟨T8, L8, k8, n8⟩, -, X8, ⟨Lc8, hQ8, l8, y8, z8⟩, st8⟩ := X5.specialBack hx (y := (⟨"com/example/admission_by_rate/admissionbyrate/Gcra", "<init>", "(IJ)V"⟩ : MethodName)) rfl hown (mvT hZ (hw _ (List.mem_of_getElem? (i := 9) rfl))) (mvT hZ (hw _ (List.mem_of_getElem? (i := 10) rfl))) (mvT hZ (hw _ (List.mem_of_getElem? (i := 11) rfl))) (by decide) (backOf (W := 1) (rm2 l Z a0 hw [] b li pe  h5 n0 (Nat.le_trans Z0 E5.1) A5 F_limit_b F_periodMs_b F_ticksPerMs_b F_intervalTicks_b F_periodTicks_b F_full_b g_b m2 m6.1 m6.2) hZ (hw _ (List.mem_of_getElem? (i := 11) rfl)) (hw _ (List.mem_of_getElem? (i := 8) rfl)) (by decide) (by decide)) (g := (mkF m 27 #[.val (.int a1), .val (.long p1), .second, .val (.long s1), .second, .val (.int se), .val (.int li), .val (.long pe), .second, .unset, .unset, .unset, .unset, .unset, .unset, .unset, .unset, .unset, .unset, .unset] [(.long pe), (.int li), (.ref b), (.ref b)])) rfl (by rw [hml]; rfl) (Steps.refl _) (a := b) (argsL := [(.int li), (.long pe)]) (rest := [(.ref b)]) (lenOf pd_1 rfl) rfl (by show 2 * 0 + _ ≤ _; exact Nat.le_of_eq rfl) (hb hby at_27) (fun _ _ => ⟨rfl, e5, (by decide : 1 + 1 ≤ _), (by decide : 6 + 4 ≤ _)⟩)
  dsimp only [Pt.U, Pt.locs, Pt.cells, Pt.slots] at X8 l8 y8 z8 st8 hQ8
  subst l8 y8 z8
  obtain ⟨d, rfl, N8q, hd1, hd2, K8, E8, F1⟩ := hQ8
  have N8 := Fr.app N2 N8q
  have S9 : Steps p.tables e below Ω (T8.setTop (mkF m 30 #[.val (.int a1), .val (.long p1), .second, .val (.long s1), .second, .val (.int se), .val (.int li), .val (.long pe), .second, .unset, .unset, .unset, .unset, .unset, .unset, .unset, .unset, .unset, .unset, .unset] [(.ref b)])) := S7.trans st8
  have S10 : Steps p.tables e below Ω (T8.setTop (mkF m 34 #[.val (.int a1), .val (.long p1), .second, .val (.long s1), .second, .val (.int se), .val (.int li), .val (.long pe), .second, .val (.ref b), .unset, .unset, .unset, .unset, .unset, .unset, .unset, .unset, .unset, .unset] [(.ref b)])) := by
    refine S9.trans ?_
    refine XS.astore X8.here hx rfl (hb hby at_30) rfl rfl (l' := #[.val (.int a1), .val (.long p1), .second, .val (.long s1), .second, .val (.int se), .val (.int li), .val (.long pe), .second, .val (.ref b), .unset, .unset, .unset, .unset, .unset, .unset, .unset, .unset, .unset, .unset]) rfl ?_
    show Steps p.tables e below (T8.setTop (mkF m 32 #[.val (.int a1), .val (.long p1), .second, .val (.long s1), .second, .val (.int se), .val (.int li), .val (.long pe), .second, .val (.ref b), .unset, .unset, .unset, .unset, .unset, .unset, .unset, .unset, .unset, .unset] [])) _
    refine XS.aload X8.here hx rfl (hb hby at_32) rfl rfl ?_
    exact Steps.refl _
  obtain ⟨cq11, kq11, q11a, q11b, q11c⟩ := isOf hZ rfl E8
  obtain ⟨_, _, ⟨T11, L11, k11, n11⟩, -, X11, ⟨Lc11, hQ11, l11, y11, z11⟩, st11⟩ := X8.virtualBack hx (y := (⟨"com/example/admission_by_rate/admissionbyrate/Gcra", "ticksPerMs", "()J"⟩ : MethodName)) (z := (⟨"com/example/admission_by_rate/admissionbyrate/Gcra", "ticksPerMs", "()J"⟩ : MethodName)) hown (mvT hZ (hw _ (List.mem_of_getElem? (i := 59) rfl))) (mvT hZ (hw _ (List.mem_of_getElem? (i := 60) rfl))) (notFace_of_selects (args := #[]) (mvT hZ (hw _ (List.mem_of_getElem? (i := 62) rfl)))) (mvT hZ (hw _ (List.mem_of_getElem? (i := 62) rfl))) (mvT hZ (hw _ (List.mem_of_getElem? (i := 61) rfl))) (by decide) (backOf (W := 0) (rm9 l Z a0 hw [] b d T8.heap n0 (Nat.le_trans (Nat.le_trans Z0 E5.1) K8.1) F1) hZ (hw _ (List.mem_of_getElem? (i := 63) rfl)) (hw _ (List.mem_of_getElem? (i := 8) rfl)) (by decide) (by decide)) q11a q11c (g := (mkF m 34 #[.val (.int a1), .val (.long p1), .second, .val (.long s1), .second, .val (.int se), .val (.int li), .val (.long pe), .second, .val (.ref b), .unset, .unset, .unset, .unset, .unset, .unset, .unset, .unset, .unset, .unset] [(.ref b)])) rfl (by rw [hml]; rfl) (Steps.refl _) (argsL := []) (rest := []) (lenOf pd_6 rfl) rfl (by show 2 * 0 + _ ≤ _; exact Nat.le_of_eq rfl) (hb hby at_34) (fun _ _ => ⟨rfl, rfl, (by decide : 2 + 0 ≤ _), (by decide : 10 + 0 ≤ _)⟩)
  dsimp only [Pt.U, Pt.locs, Pt.cells, Pt.slots] at X11 l11 y11 z11 st11 hQ11
  subst l11 y11 z11
  obtain ⟨rfl, N11q, e11⟩ := hQ11
  have N11 := Fr.app N8 N11q
  have S12 : Steps p.tables e below Ω (T11.setTop (mkF m 37 #[.val (.int a1), .val (.long p1), .second, .val (.long s1), .second, .val (.int se), .val (.int li), .val (.long pe), .second, .val (.ref b), .unset, .unset, .unset, .unset, .unset, .unset, .unset, .unset, .unset, .unset] [(.long d)])) := S10.trans st11
  have S13 : Steps p.tables e below Ω (T11.setTop (mkF m 52 #[.val (.int a1), .val (.long p1), .second, .val (.long s1), .second, .val (.int se), .val (.int li), .val (.long pe), .second, .val (.ref b), .val (.long d), .second, .unset, .unset, .unset, .unset, .unset, .unset, .unset, .unset] [(.int (se &&& (1 : Int32)))])) := by
    refine S12.trans ?_
    refine XS.lstore X11.here hx rfl (hb hby at_37) rfl (l' := #[.val (.int a1), .val (.long p1), .second, .val (.long s1), .second, .val (.int se), .val (.int li), .val (.long pe), .second, .val (.ref b), .val (.long d), .second, .unset, .unset, .unset, .unset, .unset, .unset, .unset, .unset]) rfl ?_
    show Steps p.tables e below (T11.setTop (mkF m 39 #[.val (.int a1), .val (.long p1), .second, .val (.long s1), .second, .val (.int se), .val (.int li), .val (.long pe), .second, .val (.ref b), .val (.long d), .second, .unset, .unset, .unset, .unset, .unset, .unset, .unset, .unset] [])) _
    refine XS.lload X11.here hx rfl (hb hby at_39) rfl ?_
    show Steps p.tables e below (T11.setTop (mkF m 41 #[.val (.int a1), .val (.long p1), .second, .val (.long s1), .second, .val (.int se), .val (.int li), .val (.long pe), .second, .val (.ref b), .val (.long d), .second, .unset, .unset, .unset, .unset, .unset, .unset, .unset, .unset] [(.long d)])) _
    refine XS.lconst X11.here hx rfl (hb hby at_41) ?_
    show Steps p.tables e below (T11.setTop (mkF m 42 #[.val (.int a1), .val (.long p1), .second, .val (.long s1), .second, .val (.int se), .val (.int li), .val (.long pe), .second, .val (.ref b), .val (.long d), .second, .unset, .unset, .unset, .unset, .unset, .unset, .unset, .unset] [(.long (1 : Int64)), (.long d)])) _
    refine XS.lcmp X11.here hx rfl (hb hby at_42) rfl ?_
    show Steps p.tables e below (T11.setTop (mkF m 43 #[.val (.int a1), .val (.long p1), .second, .val (.long s1), .second, .val (.int se), .val (.int li), .val (.long pe), .second, .val (.ref b), .val (.long d), .second, .unset, .unset, .unset, .unset, .unset, .unset, .unset, .unset] [(.int (lcmpW d (1 : Int64)))])) _
    refine XS.ifYes X11.here hx rfl (pc0 := 43) (pc' := 48) rfl (hb hby at_43) rfl (XT.ll_ge_t (own_ge (by omega))) (by decide) (by decide) ?_
    show Steps p.tables e below (T11.setTop (mkF m 48 #[.val (.int a1), .val (.long p1), .second, .val (.long s1), .second, .val (.int se), .val (.int li), .val (.long pe), .second, .val (.ref b), .val (.long d), .second, .unset, .unset, .unset, .unset, .unset, .unset, .unset, .unset] [])) _
    refine XS.iload X11.here hx rfl (hb hby at_48) rfl ?_
    show Steps p.tables e below (T11.setTop (mkF m 50 #[.val (.int a1), .val (.long p1), .second, .val (.long s1), .second, .val (.int se), .val (.int li), .val (.long pe), .second, .val (.ref b), .val (.long d), .second, .unset, .unset, .unset, .unset, .unset, .unset, .unset, .unset] [(.int se)])) _
    refine XS.iconst X11.here hx rfl (hb hby at_50) ?_
    show Steps p.tables e below (T11.setTop (mkF m 51 #[.val (.int a1), .val (.long p1), .second, .val (.long s1), .second, .val (.int se), .val (.int li), .val (.long pe), .second, .val (.ref b), .val (.long d), .second, .unset, .unset, .unset, .unset, .unset, .unset, .unset, .unset] [(.int (1 : Int32)), (.int se)])) _
    refine XS.iand X11.here hx rfl (hb hby at_51) rfl ?_
    exact Steps.refl _
  obtain ⟨st, h_st, S15⟩ : ∃ (st : Int64), st = (if (se &&& (1 : Int32)) = (0 : Int32) then s1 else ((s1 * d) + (((((se.toUInt32 >>> ((1 : Int32) &&& 31).toUInt32).toInt32) % (3 : Int32)) - (1 : Int32)).toInt64))) ∧ Steps p.tables e below Ω (T11.setTop (mkF m 73 #[.val (.int a1), .val (.long p1), .second, .val (.long s1), .second, .val (.int se), .val (.int li), .val (.long pe), .second, .val (.ref b), .val (.long d), .second, .unset, .unset, .unset, .unset, .unset, .unset, .unset, .unset] [(.long st)])) := by
    by_cases c14 : (se &&& (1 : Int32)) = (0 : Int32)
    · refine ⟨s1, (by rw [if_pos c14]), S13.trans ?_⟩
      refine XS.ifNo X11.here hx rfl (hb hby at_52) rfl (XT.i0_ne_f c14) ?_
      show Steps p.tables e below (T11.setTop (mkF m 55 #[.val (.int a1), .val (.long p1), .second, .val (.long s1), .second, .val (.int se), .val (.int li), .val (.long pe), .second, .val (.ref b), .val (.long d), .second, .unset, .unset, .unset, .unset, .unset, .unset, .unset, .unset] [])) _
      refine XS.lloadN X11.here hx rfl (hb hby at_55) rfl ?_
      show Steps p.tables e below (T11.setTop (mkF m 56 #[.val (.int a1), .val (.long p1), .second, .val (.long s1), .second, .val (.int se), .val (.int li), .val (.long pe), .second, .val (.ref b), .val (.long d), .second, .unset, .unset, .unset, .unset, .unset, .unset, .unset, .unset] [(.long s1)])) _
      refine XS.goto X11.here hx rfl (pc0 := 56) (pc' := 73) rfl (hb hby at_56) (by decide) (by decide) ?_
      exact Steps.refl _
    · refine ⟨((s1 * d) + (((((se.toUInt32 >>> ((1 : Int32) &&& 31).toUInt32).toInt32) % (3 : Int32)) - (1 : Int32)).toInt64)), (by rw [if_neg c14]), S13.trans ?_⟩
      refine XS.ifYes X11.here hx rfl (pc0 := 52) (pc' := 59) rfl (hb hby at_52) rfl (XT.i0_ne_t c14) (by decide) (by decide) ?_
      show Steps p.tables e below (T11.setTop (mkF m 59 #[.val (.int a1), .val (.long p1), .second, .val (.long s1), .second, .val (.int se), .val (.int li), .val (.long pe), .second, .val (.ref b), .val (.long d), .second, .unset, .unset, .unset, .unset, .unset, .unset, .unset, .unset] [])) _
      refine XS.lloadN X11.here hx rfl (hb hby at_59) rfl ?_
      show Steps p.tables e below (T11.setTop (mkF m 60 #[.val (.int a1), .val (.long p1), .second, .val (.long s1), .second, .val (.int se), .val (.int li), .val (.long pe), .second, .val (.ref b), .val (.long d), .second, .unset, .unset, .unset, .unset, .unset, .unset, .unset, .unset] [(.long s1)])) _
      refine XS.lload X11.here hx rfl (hb hby at_60) rfl ?_
      show Steps p.tables e below (T11.setTop (mkF m 62 #[.val (.int a1), .val (.long p1), .second, .val (.long s1), .second, .val (.int se), .val (.int li), .val (.long pe), .second, .val (.ref b), .val (.long d), .second, .unset, .unset, .unset, .unset, .unset, .unset, .unset, .unset] [(.long d), (.long s1)])) _
      refine XS.lmul X11.here hx rfl (hb hby at_62) rfl ?_
      show Steps p.tables e below (T11.setTop (mkF m 63 #[.val (.int a1), .val (.long p1), .second, .val (.long s1), .second, .val (.int se), .val (.int li), .val (.long pe), .second, .val (.ref b), .val (.long d), .second, .unset, .unset, .unset, .unset, .unset, .unset, .unset, .unset] [(.long (s1 * d))])) _
      refine XS.iload X11.here hx rfl (hb hby at_63) rfl ?_
      show Steps p.tables e below (T11.setTop (mkF m 65 #[.val (.int a1), .val (.long p1), .second, .val (.long s1), .second, .val (.int se), .val (.int li), .val (.long pe), .second, .val (.ref b), .val (.long d), .second, .unset, .unset, .unset, .unset, .unset, .unset, .unset, .unset] [(.int se), (.long (s1 * d))])) _
      refine XS.iconst X11.here hx rfl (hb hby at_65) ?_
      show Steps p.tables e below (T11.setTop (mkF m 66 #[.val (.int a1), .val (.long p1), .second, .val (.long s1), .second, .val (.int se), .val (.int li), .val (.long pe), .second, .val (.ref b), .val (.long d), .second, .unset, .unset, .unset, .unset, .unset, .unset, .unset, .unset] [(.int (1 : Int32)), (.int se), (.long (s1 * d))])) _
      refine XS.iushr X11.here hx rfl (hb hby at_66) rfl ?_
      show Steps p.tables e below (T11.setTop (mkF m 67 #[.val (.int a1), .val (.long p1), .second, .val (.long s1), .second, .val (.int se), .val (.int li), .val (.long pe), .second, .val (.ref b), .val (.long d), .second, .unset, .unset, .unset, .unset, .unset, .unset, .unset, .unset] [(.int ((se.toUInt32 >>> ((1 : Int32) &&& 31).toUInt32).toInt32)), (.long (s1 * d))])) _
      refine XS.iconst X11.here hx rfl (hb hby at_67) ?_
      show Steps p.tables e below (T11.setTop (mkF m 68 #[.val (.int a1), .val (.long p1), .second, .val (.long s1), .second, .val (.int se), .val (.int li), .val (.long pe), .second, .val (.ref b), .val (.long d), .second, .unset, .unset, .unset, .unset, .unset, .unset, .unset, .unset] [(.int (3 : Int32)), (.int ((se.toUInt32 >>> ((1 : Int32) &&& 31).toUInt32).toInt32)), (.long (s1 * d))])) _
      refine iremM X11 hx rfl (hb hby at_68) rfl (by decide) ?_
      show Steps p.tables e below (T11.setTop (mkF m 69 #[.val (.int a1), .val (.long p1), .second, .val (.long s1), .second, .val (.int se), .val (.int li), .val (.long pe), .second, .val (.ref b), .val (.long d), .second, .unset, .unset, .unset, .unset, .unset, .unset, .unset, .unset] [(.int (((se.toUInt32 >>> ((1 : Int32) &&& 31).toUInt32).toInt32) % (3 : Int32))), (.long (s1 * d))])) _
      refine XS.iconst X11.here hx rfl (hb hby at_69) ?_
      show Steps p.tables e below (T11.setTop (mkF m 70 #[.val (.int a1), .val (.long p1), .second, .val (.long s1), .second, .val (.int se), .val (.int li), .val (.long pe), .second, .val (.ref b), .val (.long d), .second, .unset, .unset, .unset, .unset, .unset, .unset, .unset, .unset] [(.int (1 : Int32)), (.int (((se.toUInt32 >>> ((1 : Int32) &&& 31).toUInt32).toInt32) % (3 : Int32))), (.long (s1 * d))])) _
      refine XS.isub X11.here hx rfl (hb hby at_70) rfl ?_
      show Steps p.tables e below (T11.setTop (mkF m 71 #[.val (.int a1), .val (.long p1), .second, .val (.long s1), .second, .val (.int se), .val (.int li), .val (.long pe), .second, .val (.ref b), .val (.long d), .second, .unset, .unset, .unset, .unset, .unset, .unset, .unset, .unset] [(.int ((((se.toUInt32 >>> ((1 : Int32) &&& 31).toUInt32).toInt32) % (3 : Int32)) - (1 : Int32))), (.long (s1 * d))])) _
      refine XS.i2l X11.here hx rfl (hb hby at_71) rfl ?_
      show Steps p.tables e below (T11.setTop (mkF m 72 #[.val (.int a1), .val (.long p1), .second, .val (.long s1), .second, .val (.int se), .val (.int li), .val (.long pe), .second, .val (.ref b), .val (.long d), .second, .unset, .unset, .unset, .unset, .unset, .unset, .unset, .unset] [(.long (((((se.toUInt32 >>> ((1 : Int32) &&& 31).toUInt32).toInt32) % (3 : Int32)) - (1 : Int32)).toInt64)), (.long (s1 * d))])) _
      refine XS.ladd X11.here hx rfl (hb hby at_72) rfl ?_
      exact Steps.refl _
  clear h_st
  have S16 : Steps p.tables e below Ω (T11.setTop (mkF m 79 #[.val (.int a1), .val (.long p1), .second, .val (.long s1), .second, .val (.int se), .val (.int li), .val (.long pe), .second, .val (.ref b), .val (.long d), .second, .val (.long st), .second, .unset, .unset, .unset, .unset, .unset, .unset] [(.long st), (.ref b)])) := by
    refine S15.trans ?_
    refine XS.lstore X11.here hx rfl (hb hby at_73) rfl (l' := #[.val (.int a1), .val (.long p1), .second, .val (.long s1), .second, .val (.int se), .val (.int li), .val (.long pe), .second, .val (.ref b), .val (.long d), .second, .val (.long st), .second, .unset, .unset, .unset, .unset, .unset, .unset]) rfl ?_
    show Steps p.tables e below (T11.setTop (mkF m 75 #[.val (.int a1), .val (.long p1), .second, .val (.long s1), .second, .val (.int se), .val (.int li), .val (.long pe), .second, .val (.ref b), .val (.long d), .second, .val (.long st), .second, .unset, .unset, .unset, .unset, .unset, .unset] [])) _
    refine XS.aload X11.here hx rfl (hb hby at_75) rfl rfl ?_
    show Steps p.tables e below (T11.setTop (mkF m 77 #[.val (.int a1), .val (.long p1), .second, .val (.long s1), .second, .val (.int se), .val (.int li), .val (.long pe), .second, .val (.ref b), .val (.long d), .second, .val (.long st), .second, .unset, .unset, .unset, .unset, .unset, .unset] [(.ref b)])) _
    refine XS.lload X11.here hx rfl (hb hby at_77) rfl ?_
    exact Steps.refl _
  obtain ⟨cq17, kq17, q17a, q17b, q17c⟩ := isOf hZ e11 E8
  obtain ⟨_, _, ⟨T17, L17, k17, n17⟩, -, X17, ⟨Lc17, hQ17, l17, y17, z17⟩, st17⟩ := X11.virtualBack hx (y := (⟨"com/example/admission_by_rate/admissionbyrate/Gcra", "drainedMs", "(J)J"⟩ : MethodName)) (z := (⟨"com/example/admission_by_rate/admissionbyrate/Gcra", "drainedMs", "(J)J"⟩ : MethodName)) hown (mvT hZ (hw _ (List.mem_of_getElem? (i := 64) rfl))) (mvT hZ (hw _ (List.mem_of_getElem? (i := 65) rfl))) (notFace_of_selects (args := #[]) (mvT hZ (hw _ (List.mem_of_getElem? (i := 67) rfl)))) (mvT hZ (hw _ (List.mem_of_getElem? (i := 67) rfl))) (mvT hZ (hw _ (List.mem_of_getElem? (i := 66) rfl))) (by decide) (backOf (W := 0) (rm10 l Z a0 hw [] b st d T8.heap n0 (Nat.le_trans (Nat.le_trans Z0 E5.1) K8.1) F1 (own_nz hd1)) hZ (hw _ (List.mem_of_getElem? (i := 68) rfl)) (hw _ (List.mem_of_getElem? (i := 8) rfl)) (by decide) (by decide)) q17a q17c (g := (mkF m 79 #[.val (.int a1), .val (.long p1), .second, .val (.long s1), .second, .val (.int se), .val (.int li), .val (.long pe), .second, .val (.ref b), .val (.long d), .second, .val (.long st), .second, .unset, .unset, .unset, .unset, .unset, .unset] [(.long st), (.ref b)])) rfl (by rw [hml]; rfl) (Steps.refl _) (argsL := [(.long st)]) (rest := []) (lenOf pd_7 rfl) rfl (by show 2 * 0 + _ ≤ _; exact Nat.le_of_eq rfl) (hb hby at_79) (fun _ _ => ⟨rfl, e11, (by decide : 2 + 0 ≤ _), (by decide : 10 + 0 ≤ _)⟩)
  dsimp only [Pt.U, Pt.locs, Pt.cells, Pt.slots] at X17 l17 y17 z17 st17 hQ17
  subst l17 y17 z17
  obtain ⟨rfl, N17q, e17⟩ := hQ17
  have N17 := Fr.app N11 N17q
  have S18 : Steps p.tables e below Ω (T17.setTop (mkF m 82 #[.val (.int a1), .val (.long p1), .second, .val (.long s1), .second, .val (.int se), .val (.int li), .val (.long pe), .second, .val (.ref b), .val (.long d), .second, .val (.long st), .second, .unset, .unset, .unset, .unset, .unset, .unset] [(.long (own_dr st d))])) := S16.trans st17
  obtain ⟨r, h_r⟩ : ∃ z : Int64, z = (own_dr st d) := ⟨_, rfl⟩
  rw [← h_r] at S18
  have S19 : Steps p.tables e below Ω (T17.setTop (mkF m 88 #[.val (.int a1), .val (.long p1), .second, .val (.long s1), .second, .val (.int se), .val (.int li), .val (.long pe), .second, .val (.ref b), .val (.long d), .second, .val (.long st), .second, .val (.long r), .second, .unset, .unset, .unset, .unset] [(.int (lcmpW st (0 : Int64)))])) := by
    refine S18.trans ?_
    refine XS.lstore X17.here hx rfl (hb hby at_82) rfl (l' := #[.val (.int a1), .val (.long p1), .second, .val (.long s1), .second, .val (.int se), .val (.int li), .val (.long pe), .second, .val (.ref b), .val (.long d), .second, .val (.long st), .second, .val (.long r), .second, .unset, .unset, .unset, .unset]) rfl ?_
    show Steps p.tables e below (T17.setTop (mkF m 84 #[.val (.int a1), .val (.long p1), .second, .val (.long s1), .second, .val (.int se), .val (.int li), .val (.long pe), .second, .val (.ref b), .val (.long d), .second, .val (.long st), .second, .val (.long r), .second, .unset, .unset, .unset, .unset] [])) _
    refine XS.lload X17.here hx rfl (hb hby at_84) rfl ?_
    show Steps p.tables e below (T17.setTop (mkF m 86 #[.val (.int a1), .val (.long p1), .second, .val (.long s1), .second, .val (.int se), .val (.int li), .val (.long pe), .second, .val (.ref b), .val (.long d), .second, .val (.long st), .second, .val (.long r), .second, .unset, .unset, .unset, .unset] [(.long st)])) _
    refine XS.lconst X17.here hx rfl (hb hby at_86) ?_
    show Steps p.tables e below (T17.setTop (mkF m 87 #[.val (.int a1), .val (.long p1), .second, .val (.long s1), .second, .val (.int se), .val (.int li), .val (.long pe), .second, .val (.ref b), .val (.long d), .second, .val (.long st), .second, .val (.long r), .second, .unset, .unset, .unset, .unset] [(.long (0 : Int64)), (.long st)])) _
    refine XS.lcmp X17.here hx rfl (hb hby at_87) rfl ?_
    exact Steps.refl _
  by_cases hs : (0 : Int64) < st
  · have qhs : 0 < st.toInt := Int64.lt_iff_toInt_lt.mp hs
    have S20 : Steps p.tables e below Ω (T17.setTop (mkF m 91 #[.val (.int a1), .val (.long p1), .second, .val (.long s1), .second, .val (.int se), .val (.int li), .val (.long pe), .second, .val (.ref b), .val (.long d), .second, .val (.long st), .second, .val (.long r), .second, .unset, .unset, .unset, .unset] [])) := by
      refine S19.trans ?_
      refine XS.ifNo X17.here hx rfl (hb hby at_88) rfl (XT.ll_le_f hs) ?_
      exact Steps.refl _
    have f := own_pos st d r hd1 hd2 (by omega) h_r
    have z0 : (0 : Int64).toInt = 0 := by decide
    have S21 : Steps p.tables e below Ω (T17.setTop (mkF m 143 #[.val (.int a1), .val (.long p1), .second, .val (.long s1), .second, .val (.int se), .val (.int li), .val (.long pe), .second, .val (.ref b), .val (.long d), .second, .val (.long st), .second, .val (.long r), .second, .val (.long ((r - (1 : Int64)) * d)), .second, .val (.long (st - ((r - (1 : Int64)) * d))), .second] [(.int (1 : Int32))])) := by
      refine S20.trans ?_
      refine XS.lload X17.here hx rfl (hb hby at_91) rfl ?_
      show Steps p.tables e below (T17.setTop (mkF m 93 #[.val (.int a1), .val (.long p1), .second, .val (.long s1), .second, .val (.int se), .val (.int li), .val (.long pe), .second, .val (.ref b), .val (.long d), .second, .val (.long st), .second, .val (.long r), .second, .unset, .unset, .unset, .unset] [(.long r)])) _
      refine XS.lconst X17.here hx rfl (hb hby at_93) ?_
      show Steps p.tables e below (T17.setTop (mkF m 94 #[.val (.int a1), .val (.long p1), .second, .val (.long s1), .second, .val (.int se), .val (.int li), .val (.long pe), .second, .val (.ref b), .val (.long d), .second, .val (.long st), .second, .val (.long r), .second, .unset, .unset, .unset, .unset] [(.long (1 : Int64)), (.long r)])) _
      refine XS.lcmp X17.here hx rfl (hb hby at_94) rfl ?_
      show Steps p.tables e below (T17.setTop (mkF m 95 #[.val (.int a1), .val (.long p1), .second, .val (.long s1), .second, .val (.int se), .val (.int li), .val (.long pe), .second, .val (.ref b), .val (.long d), .second, .val (.long st), .second, .val (.long r), .second, .unset, .unset, .unset, .unset] [(.int (lcmpW r (1 : Int64)))])) _
      refine XS.ifYes X17.here hx rfl (pc0 := 95) (pc' := 100) rfl (hb hby at_95) rfl (XT.ll_ge_t (own_ge (by omega))) (by decide) (by decide) ?_
      show Steps p.tables e below (T17.setTop (mkF m 100 #[.val (.int a1), .val (.long p1), .second, .val (.long s1), .second, .val (.int se), .val (.int li), .val (.long pe), .second, .val (.ref b), .val (.long d), .second, .val (.long st), .second, .val (.long r), .second, .unset, .unset, .unset, .unset] [])) _
      refine XS.lload X17.here hx rfl (hb hby at_100) rfl ?_
      show Steps p.tables e below (T17.setTop (mkF m 102 #[.val (.int a1), .val (.long p1), .second, .val (.long s1), .second, .val (.int se), .val (.int li), .val (.long pe), .second, .val (.ref b), .val (.long d), .second, .val (.long st), .second, .val (.long r), .second, .unset, .unset, .unset, .unset] [(.long r)])) _
      refine XS.lconst X17.here hx rfl (hb hby at_102) ?_
      show Steps p.tables e below (T17.setTop (mkF m 103 #[.val (.int a1), .val (.long p1), .second, .val (.long s1), .second, .val (.int se), .val (.int li), .val (.long pe), .second, .val (.ref b), .val (.long d), .second, .val (.long st), .second, .val (.long r), .second, .unset, .unset, .unset, .unset] [(.long (1 : Int64)), (.long r)])) _
      refine XS.lsub X17.here hx rfl (hb hby at_103) rfl ?_
      show Steps p.tables e below (T17.setTop (mkF m 104 #[.val (.int a1), .val (.long p1), .second, .val (.long s1), .second, .val (.int se), .val (.int li), .val (.long pe), .second, .val (.ref b), .val (.long d), .second, .val (.long st), .second, .val (.long r), .second, .unset, .unset, .unset, .unset] [(.long (r - (1 : Int64)))])) _
      refine XS.lload X17.here hx rfl (hb hby at_104) rfl ?_
      show Steps p.tables e below (T17.setTop (mkF m 106 #[.val (.int a1), .val (.long p1), .second, .val (.long s1), .second, .val (.int se), .val (.int li), .val (.long pe), .second, .val (.ref b), .val (.long d), .second, .val (.long st), .second, .val (.long r), .second, .unset, .unset, .unset, .unset] [(.long d), (.long (r - (1 : Int64)))])) _
      refine XS.lmul X17.here hx rfl (hb hby at_106) rfl ?_
      show Steps p.tables e below (T17.setTop (mkF m 107 #[.val (.int a1), .val (.long p1), .second, .val (.long s1), .second, .val (.int se), .val (.int li), .val (.long pe), .second, .val (.ref b), .val (.long d), .second, .val (.long st), .second, .val (.long r), .second, .unset, .unset, .unset, .unset] [(.long ((r - (1 : Int64)) * d))])) _
      refine XS.lstore X17.here hx rfl (hb hby at_107) rfl (l' := #[.val (.int a1), .val (.long p1), .second, .val (.long s1), .second, .val (.int se), .val (.int li), .val (.long pe), .second, .val (.ref b), .val (.long d), .second, .val (.long st), .second, .val (.long r), .second, .val (.long ((r - (1 : Int64)) * d)), .second, .unset, .unset]) rfl ?_
      show Steps p.tables e below (T17.setTop (mkF m 109 #[.val (.int a1), .val (.long p1), .second, .val (.long s1), .second, .val (.int se), .val (.int li), .val (.long pe), .second, .val (.ref b), .val (.long d), .second, .val (.long st), .second, .val (.long r), .second, .val (.long ((r - (1 : Int64)) * d)), .second, .unset, .unset] [])) _
      refine XS.lload X17.here hx rfl (hb hby at_109) rfl ?_
      show Steps p.tables e below (T17.setTop (mkF m 111 #[.val (.int a1), .val (.long p1), .second, .val (.long s1), .second, .val (.int se), .val (.int li), .val (.long pe), .second, .val (.ref b), .val (.long d), .second, .val (.long st), .second, .val (.long r), .second, .val (.long ((r - (1 : Int64)) * d)), .second, .unset, .unset] [(.long st)])) _
      refine XS.lload X17.here hx rfl (hb hby at_111) rfl ?_
      show Steps p.tables e below (T17.setTop (mkF m 113 #[.val (.int a1), .val (.long p1), .second, .val (.long s1), .second, .val (.int se), .val (.int li), .val (.long pe), .second, .val (.ref b), .val (.long d), .second, .val (.long st), .second, .val (.long r), .second, .val (.long ((r - (1 : Int64)) * d)), .second, .unset, .unset] [(.long ((r - (1 : Int64)) * d)), (.long st)])) _
      refine XS.lsub X17.here hx rfl (hb hby at_113) rfl ?_
      show Steps p.tables e below (T17.setTop (mkF m 114 #[.val (.int a1), .val (.long p1), .second, .val (.long s1), .second, .val (.int se), .val (.int li), .val (.long pe), .second, .val (.ref b), .val (.long d), .second, .val (.long st), .second, .val (.long r), .second, .val (.long ((r - (1 : Int64)) * d)), .second, .unset, .unset] [(.long (st - ((r - (1 : Int64)) * d)))])) _
      refine XS.lstore X17.here hx rfl (hb hby at_114) rfl (l' := #[.val (.int a1), .val (.long p1), .second, .val (.long s1), .second, .val (.int se), .val (.int li), .val (.long pe), .second, .val (.ref b), .val (.long d), .second, .val (.long st), .second, .val (.long r), .second, .val (.long ((r - (1 : Int64)) * d)), .second, .val (.long (st - ((r - (1 : Int64)) * d))), .second]) rfl ?_
      show Steps p.tables e below (T17.setTop (mkF m 116 #[.val (.int a1), .val (.long p1), .second, .val (.long s1), .second, .val (.int se), .val (.int li), .val (.long pe), .second, .val (.ref b), .val (.long d), .second, .val (.long st), .second, .val (.long r), .second, .val (.long ((r - (1 : Int64)) * d)), .second, .val (.long (st - ((r - (1 : Int64)) * d))), .second] [])) _
      refine XS.lload X17.here hx rfl (hb hby at_116) rfl ?_
      show Steps p.tables e below (T17.setTop (mkF m 118 #[.val (.int a1), .val (.long p1), .second, .val (.long s1), .second, .val (.int se), .val (.int li), .val (.long pe), .second, .val (.ref b), .val (.long d), .second, .val (.long st), .second, .val (.long r), .second, .val (.long ((r - (1 : Int64)) * d)), .second, .val (.long (st - ((r - (1 : Int64)) * d))), .second] [(.long ((r - (1 : Int64)) * d))])) _
      refine XS.lconst X17.here hx rfl (hb hby at_118) ?_
      show Steps p.tables e below (T17.setTop (mkF m 119 #[.val (.int a1), .val (.long p1), .second, .val (.long s1), .second, .val (.int se), .val (.int li), .val (.long pe), .second, .val (.ref b), .val (.long d), .second, .val (.long st), .second, .val (.long r), .second, .val (.long ((r - (1 : Int64)) * d)), .second, .val (.long (st - ((r - (1 : Int64)) * d))), .second] [(.long (0 : Int64)), (.long ((r - (1 : Int64)) * d))])) _
      refine XS.lcmp X17.here hx rfl (hb hby at_119) rfl ?_
      show Steps p.tables e below (T17.setTop (mkF m 120 #[.val (.int a1), .val (.long p1), .second, .val (.long s1), .second, .val (.int se), .val (.int li), .val (.long pe), .second, .val (.ref b), .val (.long d), .second, .val (.long st), .second, .val (.long r), .second, .val (.long ((r - (1 : Int64)) * d)), .second, .val (.long (st - ((r - (1 : Int64)) * d))), .second] [(.int (lcmpW ((r - (1 : Int64)) * d) (0 : Int64)))])) _
      refine XS.ifNo X17.here hx rfl (hb hby at_120) rfl (XT.ll_lt_f (own_ge (by omega))) ?_
      show Steps p.tables e below (T17.setTop (mkF m 123 #[.val (.int a1), .val (.long p1), .second, .val (.long s1), .second, .val (.int se), .val (.int li), .val (.long pe), .second, .val (.ref b), .val (.long d), .second, .val (.long st), .second, .val (.long r), .second, .val (.long ((r - (1 : Int64)) * d)), .second, .val (.long (st - ((r - (1 : Int64)) * d))), .second] [])) _
      refine XS.lload X17.here hx rfl (hb hby at_123) rfl ?_
      show Steps p.tables e below (T17.setTop (mkF m 125 #[.val (.int a1), .val (.long p1), .second, .val (.long s1), .second, .val (.int se), .val (.int li), .val (.long pe), .second, .val (.ref b), .val (.long d), .second, .val (.long st), .second, .val (.long r), .second, .val (.long ((r - (1 : Int64)) * d)), .second, .val (.long (st - ((r - (1 : Int64)) * d))), .second] [(.long (st - ((r - (1 : Int64)) * d)))])) _
      refine XS.lconst X17.here hx rfl (hb hby at_125) ?_
      show Steps p.tables e below (T17.setTop (mkF m 126 #[.val (.int a1), .val (.long p1), .second, .val (.long s1), .second, .val (.int se), .val (.int li), .val (.long pe), .second, .val (.ref b), .val (.long d), .second, .val (.long st), .second, .val (.long r), .second, .val (.long ((r - (1 : Int64)) * d)), .second, .val (.long (st - ((r - (1 : Int64)) * d))), .second] [(.long (0 : Int64)), (.long (st - ((r - (1 : Int64)) * d)))])) _
      refine XS.lcmp X17.here hx rfl (hb hby at_126) rfl ?_
      show Steps p.tables e below (T17.setTop (mkF m 127 #[.val (.int a1), .val (.long p1), .second, .val (.long s1), .second, .val (.int se), .val (.int li), .val (.long pe), .second, .val (.ref b), .val (.long d), .second, .val (.long st), .second, .val (.long r), .second, .val (.long ((r - (1 : Int64)) * d)), .second, .val (.long (st - ((r - (1 : Int64)) * d))), .second] [(.int (lcmpW (st - ((r - (1 : Int64)) * d)) (0 : Int64)))])) _
      refine XS.ifNo X17.here hx rfl (hb hby at_127) rfl (XT.ll_le_f (Int64.lt_iff_toInt_lt.mpr (by omega))) ?_
      show Steps p.tables e below (T17.setTop (mkF m 130 #[.val (.int a1), .val (.long p1), .second, .val (.long s1), .second, .val (.int se), .val (.int li), .val (.long pe), .second, .val (.ref b), .val (.long d), .second, .val (.long st), .second, .val (.long r), .second, .val (.long ((r - (1 : Int64)) * d)), .second, .val (.long (st - ((r - (1 : Int64)) * d))), .second] [])) _
      refine XS.lload X17.here hx rfl (hb hby at_130) rfl ?_
      show Steps p.tables e below (T17.setTop (mkF m 132 #[.val (.int a1), .val (.long p1), .second, .val (.long s1), .second, .val (.int se), .val (.int li), .val (.long pe), .second, .val (.ref b), .val (.long d), .second, .val (.long st), .second, .val (.long r), .second, .val (.long ((r - (1 : Int64)) * d)), .second, .val (.long (st - ((r - (1 : Int64)) * d))), .second] [(.long (st - ((r - (1 : Int64)) * d)))])) _
      refine XS.lload X17.here hx rfl (hb hby at_132) rfl ?_
      show Steps p.tables e below (T17.setTop (mkF m 134 #[.val (.int a1), .val (.long p1), .second, .val (.long s1), .second, .val (.int se), .val (.int li), .val (.long pe), .second, .val (.ref b), .val (.long d), .second, .val (.long st), .second, .val (.long r), .second, .val (.long ((r - (1 : Int64)) * d)), .second, .val (.long (st - ((r - (1 : Int64)) * d))), .second] [(.long d), (.long (st - ((r - (1 : Int64)) * d)))])) _
      refine XS.lcmp X17.here hx rfl (hb hby at_134) rfl ?_
      show Steps p.tables e below (T17.setTop (mkF m 135 #[.val (.int a1), .val (.long p1), .second, .val (.long s1), .second, .val (.int se), .val (.int li), .val (.long pe), .second, .val (.ref b), .val (.long d), .second, .val (.long st), .second, .val (.long r), .second, .val (.long ((r - (1 : Int64)) * d)), .second, .val (.long (st - ((r - (1 : Int64)) * d))), .second] [(.int (lcmpW (st - ((r - (1 : Int64)) * d)) d))])) _
      refine XS.ifNo X17.here hx rfl (hb hby at_135) rfl (XT.ll_gt_f (own_ge (by omega))) ?_
      show Steps p.tables e below (T17.setTop (mkF m 138 #[.val (.int a1), .val (.long p1), .second, .val (.long s1), .second, .val (.int se), .val (.int li), .val (.long pe), .second, .val (.ref b), .val (.long d), .second, .val (.long st), .second, .val (.long r), .second, .val (.long ((r - (1 : Int64)) * d)), .second, .val (.long (st - ((r - (1 : Int64)) * d))), .second] [])) _
      refine XS.iconst X17.here hx rfl (hb hby at_138) ?_
      show Steps p.tables e below (T17.setTop (mkF m 139 #[.val (.int a1), .val (.long p1), .second, .val (.long s1), .second, .val (.int se), .val (.int li), .val (.long pe), .second, .val (.ref b), .val (.long d), .second, .val (.long st), .second, .val (.long r), .second, .val (.long ((r - (1 : Int64)) * d)), .second, .val (.long (st - ((r - (1 : Int64)) * d))), .second] [(.int (1 : Int32))])) _
      refine XS.goto X17.here hx rfl (pc0 := 139) (pc' := 143) rfl (hb hby at_139) (by decide) (by decide) ?_
      exact Steps.refl _
    obtain ⟨fs, hr, hrun, hended, hW, hsame⟩ := X17.leave (v := some (.int (1 : Int32))) (fun h => by rw [Bd.returns] at h; cases h)
    have hfin : Steps p.tables e below Ω (T17.setFrames fs) := by
      refine S21.trans ?_
      exact own_retZ X17 hx Bd.returns (by decide) (hb hby at_143) hr
    rw [hΩ] at hfin
    refine ⟨_, _, hfin, hrun, hended, _, _, rfl, ?_, ⟨_, rfl⟩, hW, hsame.mono (by decide) (by decide)⟩
    show Q0 Z a1 p1 s1 se h0 n0 _ T17.heap _
    rw [e17]
    exact ⟨rfl, N17⟩
  · have qhs : ¬ 0 < st.toInt := fun q => hs (Int64.lt_iff_toInt_lt.mpr q)
    have S22 : Steps p.tables e below Ω (T17.setTop (mkF m 144 #[.val (.int a1), .val (.long p1), .second, .val (.long s1), .second, .val (.int se), .val (.int li), .val (.long pe), .second, .val (.ref b), .val (.long d), .second, .val (.long st), .second, .val (.long r), .second, .unset, .unset, .unset, .unset] [])) := by
      refine S19.trans ?_
      refine XS.ifYes X17.here hx rfl (pc0 := 88) (pc' := 144) rfl (hb hby at_88) rfl (XT.ll_le_t hs) (by decide) (by decide) ?_
      exact Steps.refl _
    have f := own_neg st d r hd1 hd2 (by omega) h_r
    have z0 : (0 : Int64).toInt = 0 := by decide
    have S23 : Steps p.tables e below Ω (T17.setTop (mkF m 194 #[.val (.int a1), .val (.long p1), .second, .val (.long s1), .second, .val (.int se), .val (.int li), .val (.long pe), .second, .val (.ref b), .val (.long d), .second, .val (.long st), .second, .val (.long r), .second, .val (.long (r * d)), .second, .val (.long ((r * d) - st)), .second] [(.int (1 : Int32))])) := by
      refine S22.trans ?_
      refine XS.lload X17.here hx rfl (hb hby at_144) rfl ?_
      show Steps p.tables e below (T17.setTop (mkF m 146 #[.val (.int a1), .val (.long p1), .second, .val (.long s1), .second, .val (.int se), .val (.int li), .val (.long pe), .second, .val (.ref b), .val (.long d), .second, .val (.long st), .second, .val (.long r), .second, .unset, .unset, .unset, .unset] [(.long r)])) _
      refine XS.lconst X17.here hx rfl (hb hby at_146) ?_
      show Steps p.tables e below (T17.setTop (mkF m 147 #[.val (.int a1), .val (.long p1), .second, .val (.long s1), .second, .val (.int se), .val (.int li), .val (.long pe), .second, .val (.ref b), .val (.long d), .second, .val (.long st), .second, .val (.long r), .second, .unset, .unset, .unset, .unset] [(.long (0 : Int64)), (.long r)])) _
      refine XS.lcmp X17.here hx rfl (hb hby at_147) rfl ?_
      show Steps p.tables e below (T17.setTop (mkF m 148 #[.val (.int a1), .val (.long p1), .second, .val (.long s1), .second, .val (.int se), .val (.int li), .val (.long pe), .second, .val (.ref b), .val (.long d), .second, .val (.long st), .second, .val (.long r), .second, .unset, .unset, .unset, .unset] [(.int (lcmpW r (0 : Int64)))])) _
      refine XS.ifYes X17.here hx rfl (pc0 := 148) (pc' := 153) rfl (hb hby at_148) rfl (XT.ll_le_t (own_ge (by omega))) (by decide) (by decide) ?_
      show Steps p.tables e below (T17.setTop (mkF m 153 #[.val (.int a1), .val (.long p1), .second, .val (.long s1), .second, .val (.int se), .val (.int li), .val (.long pe), .second, .val (.ref b), .val (.long d), .second, .val (.long st), .second, .val (.long r), .second, .unset, .unset, .unset, .unset] [])) _
      refine XS.lload X17.here hx rfl (hb hby at_153) rfl ?_
      show Steps p.tables e below (T17.setTop (mkF m 155 #[.val (.int a1), .val (.long p1), .second, .val (.long s1), .second, .val (.int se), .val (.int li), .val (.long pe), .second, .val (.ref b), .val (.long d), .second, .val (.long st), .second, .val (.long r), .second, .unset, .unset, .unset, .unset] [(.long r)])) _
      refine XS.lload X17.here hx rfl (hb hby at_155) rfl ?_
      show Steps p.tables e below (T17.setTop (mkF m 157 #[.val (.int a1), .val (.long p1), .second, .val (.long s1), .second, .val (.int se), .val (.int li), .val (.long pe), .second, .val (.ref b), .val (.long d), .second, .val (.long st), .second, .val (.long r), .second, .unset, .unset, .unset, .unset] [(.long d), (.long r)])) _
      refine XS.lmul X17.here hx rfl (hb hby at_157) rfl ?_
      show Steps p.tables e below (T17.setTop (mkF m 158 #[.val (.int a1), .val (.long p1), .second, .val (.long s1), .second, .val (.int se), .val (.int li), .val (.long pe), .second, .val (.ref b), .val (.long d), .second, .val (.long st), .second, .val (.long r), .second, .unset, .unset, .unset, .unset] [(.long (r * d))])) _
      refine XS.lstore X17.here hx rfl (hb hby at_158) rfl (l' := #[.val (.int a1), .val (.long p1), .second, .val (.long s1), .second, .val (.int se), .val (.int li), .val (.long pe), .second, .val (.ref b), .val (.long d), .second, .val (.long st), .second, .val (.long r), .second, .val (.long (r * d)), .second, .unset, .unset]) rfl ?_
      show Steps p.tables e below (T17.setTop (mkF m 160 #[.val (.int a1), .val (.long p1), .second, .val (.long s1), .second, .val (.int se), .val (.int li), .val (.long pe), .second, .val (.ref b), .val (.long d), .second, .val (.long st), .second, .val (.long r), .second, .val (.long (r * d)), .second, .unset, .unset] [])) _
      refine XS.lload X17.here hx rfl (hb hby at_160) rfl ?_
      show Steps p.tables e below (T17.setTop (mkF m 162 #[.val (.int a1), .val (.long p1), .second, .val (.long s1), .second, .val (.int se), .val (.int li), .val (.long pe), .second, .val (.ref b), .val (.long d), .second, .val (.long st), .second, .val (.long r), .second, .val (.long (r * d)), .second, .unset, .unset] [(.long (r * d))])) _
      refine XS.lload X17.here hx rfl (hb hby at_162) rfl ?_
      show Steps p.tables e below (T17.setTop (mkF m 164 #[.val (.int a1), .val (.long p1), .second, .val (.long s1), .second, .val (.int se), .val (.int li), .val (.long pe), .second, .val (.ref b), .val (.long d), .second, .val (.long st), .second, .val (.long r), .second, .val (.long (r * d)), .second, .unset, .unset] [(.long st), (.long (r * d))])) _
      refine XS.lsub X17.here hx rfl (hb hby at_164) rfl ?_
      show Steps p.tables e below (T17.setTop (mkF m 165 #[.val (.int a1), .val (.long p1), .second, .val (.long s1), .second, .val (.int se), .val (.int li), .val (.long pe), .second, .val (.ref b), .val (.long d), .second, .val (.long st), .second, .val (.long r), .second, .val (.long (r * d)), .second, .unset, .unset] [(.long ((r * d) - st))])) _
      refine XS.lstore X17.here hx rfl (hb hby at_165) rfl (l' := #[.val (.int a1), .val (.long p1), .second, .val (.long s1), .second, .val (.int se), .val (.int li), .val (.long pe), .second, .val (.ref b), .val (.long d), .second, .val (.long st), .second, .val (.long r), .second, .val (.long (r * d)), .second, .val (.long ((r * d) - st)), .second]) rfl ?_
      show Steps p.tables e below (T17.setTop (mkF m 167 #[.val (.int a1), .val (.long p1), .second, .val (.long s1), .second, .val (.int se), .val (.int li), .val (.long pe), .second, .val (.ref b), .val (.long d), .second, .val (.long st), .second, .val (.long r), .second, .val (.long (r * d)), .second, .val (.long ((r * d) - st)), .second] [])) _
      refine XS.lload X17.here hx rfl (hb hby at_167) rfl ?_
      show Steps p.tables e below (T17.setTop (mkF m 169 #[.val (.int a1), .val (.long p1), .second, .val (.long s1), .second, .val (.int se), .val (.int li), .val (.long pe), .second, .val (.ref b), .val (.long d), .second, .val (.long st), .second, .val (.long r), .second, .val (.long (r * d)), .second, .val (.long ((r * d) - st)), .second] [(.long (r * d))])) _
      refine XS.lconst X17.here hx rfl (hb hby at_169) ?_
      show Steps p.tables e below (T17.setTop (mkF m 170 #[.val (.int a1), .val (.long p1), .second, .val (.long s1), .second, .val (.int se), .val (.int li), .val (.long pe), .second, .val (.ref b), .val (.long d), .second, .val (.long st), .second, .val (.long r), .second, .val (.long (r * d)), .second, .val (.long ((r * d) - st)), .second] [(.long (0 : Int64)), (.long (r * d))])) _
      refine XS.lcmp X17.here hx rfl (hb hby at_170) rfl ?_
      show Steps p.tables e below (T17.setTop (mkF m 171 #[.val (.int a1), .val (.long p1), .second, .val (.long s1), .second, .val (.int se), .val (.int li), .val (.long pe), .second, .val (.ref b), .val (.long d), .second, .val (.long st), .second, .val (.long r), .second, .val (.long (r * d)), .second, .val (.long ((r * d) - st)), .second] [(.int (lcmpW (r * d) (0 : Int64)))])) _
      refine XS.ifNo X17.here hx rfl (hb hby at_171) rfl (XT.ll_gt_f (own_ge (by omega))) ?_
      show Steps p.tables e below (T17.setTop (mkF m 174 #[.val (.int a1), .val (.long p1), .second, .val (.long s1), .second, .val (.int se), .val (.int li), .val (.long pe), .second, .val (.ref b), .val (.long d), .second, .val (.long st), .second, .val (.long r), .second, .val (.long (r * d)), .second, .val (.long ((r * d) - st)), .second] [])) _
      refine XS.lload X17.here hx rfl (hb hby at_174) rfl ?_
      show Steps p.tables e below (T17.setTop (mkF m 176 #[.val (.int a1), .val (.long p1), .second, .val (.long s1), .second, .val (.int se), .val (.int li), .val (.long pe), .second, .val (.ref b), .val (.long d), .second, .val (.long st), .second, .val (.long r), .second, .val (.long (r * d)), .second, .val (.long ((r * d) - st)), .second] [(.long ((r * d) - st))])) _
      refine XS.lconst X17.here hx rfl (hb hby at_176) ?_
      show Steps p.tables e below (T17.setTop (mkF m 177 #[.val (.int a1), .val (.long p1), .second, .val (.long s1), .second, .val (.int se), .val (.int li), .val (.long pe), .second, .val (.ref b), .val (.long d), .second, .val (.long st), .second, .val (.long r), .second, .val (.long (r * d)), .second, .val (.long ((r * d) - st)), .second] [(.long (0 : Int64)), (.long ((r * d) - st))])) _
      refine XS.lcmp X17.here hx rfl (hb hby at_177) rfl ?_
      show Steps p.tables e below (T17.setTop (mkF m 178 #[.val (.int a1), .val (.long p1), .second, .val (.long s1), .second, .val (.int se), .val (.int li), .val (.long pe), .second, .val (.ref b), .val (.long d), .second, .val (.long st), .second, .val (.long r), .second, .val (.long (r * d)), .second, .val (.long ((r * d) - st)), .second] [(.int (lcmpW ((r * d) - st) (0 : Int64)))])) _
      refine XS.ifNo X17.here hx rfl (hb hby at_178) rfl (XT.ll_lt_f (own_ge (by omega))) ?_
      show Steps p.tables e below (T17.setTop (mkF m 181 #[.val (.int a1), .val (.long p1), .second, .val (.long s1), .second, .val (.int se), .val (.int li), .val (.long pe), .second, .val (.ref b), .val (.long d), .second, .val (.long st), .second, .val (.long r), .second, .val (.long (r * d)), .second, .val (.long ((r * d) - st)), .second] [])) _
      refine XS.lload X17.here hx rfl (hb hby at_181) rfl ?_
      show Steps p.tables e below (T17.setTop (mkF m 183 #[.val (.int a1), .val (.long p1), .second, .val (.long s1), .second, .val (.int se), .val (.int li), .val (.long pe), .second, .val (.ref b), .val (.long d), .second, .val (.long st), .second, .val (.long r), .second, .val (.long (r * d)), .second, .val (.long ((r * d) - st)), .second] [(.long ((r * d) - st))])) _
      refine XS.lload X17.here hx rfl (hb hby at_183) rfl ?_
      show Steps p.tables e below (T17.setTop (mkF m 185 #[.val (.int a1), .val (.long p1), .second, .val (.long s1), .second, .val (.int se), .val (.int li), .val (.long pe), .second, .val (.ref b), .val (.long d), .second, .val (.long st), .second, .val (.long r), .second, .val (.long (r * d)), .second, .val (.long ((r * d) - st)), .second] [(.long d), (.long ((r * d) - st))])) _
      refine XS.lcmp X17.here hx rfl (hb hby at_185) rfl ?_
      show Steps p.tables e below (T17.setTop (mkF m 186 #[.val (.int a1), .val (.long p1), .second, .val (.long s1), .second, .val (.int se), .val (.int li), .val (.long pe), .second, .val (.ref b), .val (.long d), .second, .val (.long st), .second, .val (.long r), .second, .val (.long (r * d)), .second, .val (.long ((r * d) - st)), .second] [(.int (lcmpW ((r * d) - st) d))])) _
      refine XS.ifNo X17.here hx rfl (hb hby at_186) rfl (XT.ll_ge_f (Int64.lt_iff_toInt_lt.mpr (by omega))) ?_
      show Steps p.tables e below (T17.setTop (mkF m 189 #[.val (.int a1), .val (.long p1), .second, .val (.long s1), .second, .val (.int se), .val (.int li), .val (.long pe), .second, .val (.ref b), .val (.long d), .second, .val (.long st), .second, .val (.long r), .second, .val (.long (r * d)), .second, .val (.long ((r * d) - st)), .second] [])) _
      refine XS.iconst X17.here hx rfl (hb hby at_189) ?_
      show Steps p.tables e below (T17.setTop (mkF m 190 #[.val (.int a1), .val (.long p1), .second, .val (.long s1), .second, .val (.int se), .val (.int li), .val (.long pe), .second, .val (.ref b), .val (.long d), .second, .val (.long st), .second, .val (.long r), .second, .val (.long (r * d)), .second, .val (.long ((r * d) - st)), .second] [(.int (1 : Int32))])) _
      refine XS.goto X17.here hx rfl (pc0 := 190) (pc' := 194) rfl (hb hby at_190) (by decide) (by decide) ?_
      exact Steps.refl _
    obtain ⟨fs, hr, hrun, hended, hW, hsame⟩ := X17.leave (v := some (.int (1 : Int32))) (fun h => by rw [Bd.returns] at h; cases h)
    have hfin : Steps p.tables e below Ω (T17.setFrames fs) := by
      refine S23.trans ?_
      exact own_retZ X17 hx Bd.returns (by decide) (hb hby at_194) hr
    rw [hΩ] at hfin
    refine ⟨_, _, hfin, hrun, hended, _, _, rfl, ?_, ⟨_, rfl⟩, hW, hsame.mono (by decide) (by decide)⟩
    show Q0 Z a1 p1 s1 se h0 n0 _ T17.heap _
    rw [e17]
    exact ⟨rfl, N17⟩
set_option maxRecDepth 65536 in
set_option maxHeartbeats 40000000 in
theorem comes_1 {Post : Tables → Env → Array Value → State → Outcome → State → Prop} (hpost : ∀ tb e args s v u, (limb_1_1.after args s (.returned v) u = true ∧ limb_1_2.after args s (.returned v) u = true ∧ True) → FrameEnd s (.returned v) u (Jvm.fieldLocs frame_1_writes args s ++ Jvm.arrayLocs frame_1_arrays args s ++ Jvm.staticLocs frame_1_statics s) 16 128 → Post tb e args s (.returned v) u) :
    ArmFor flags0 classFile x code maxLocals ret World_1 tables_1 room_1 Calls_1 rest_1 Pre_1 Post := by
  intro l hfl _ _ p e ha hc hk s m args below hf hA hF happ hP
  obtain ⟨hcalls, hrest, hpre⟩ := hP
  obtain ⟨-, -, -, hnamed, -, -, -, hat⟩ := (Spec.applies_iff hf).mp happ
  obtain ⟨hg, hn⟩ := and_e (Cond.before_iff.mp (show (Jvm.Cond.and given_1 narrow_1).before args s = true from hpre))
  obtain ⟨gc, g0⟩ := and_e hg
  obtain ⟨k0, g1⟩ := and_e g0
  obtain ⟨k1, g2⟩ := and_e g1
  obtain ⟨k2, g3⟩ := and_e g2
  obtain ⟨w0, w1, w2, w3, rfl⟩ : ∃ w0 w1 w2 w3 : Value, args = #[w0, w1, w2, w3] := by
    have hs : args.size = 4 := by simpa [Cond.value, given_1] using gc
    obtain ⟨L⟩ := args
    match L, hs with
    | [w0, w1, w2, w3], _ => exact ⟨w0, w1, w2, w3, rfl⟩
  have hw := fun d (hd : d ∈ tables_1) => atoms_spec (ws := Jvm.Cond.code x code maxLocals ret :: tables_1) hat d (List.mem_cons_of_mem _ hd)
  have hfit : Fit s := fun {y c} hc i hi => by
    obtain ⟨ha, rfl⟩ := Array.getElem?_eq_some_iff.mp hc
    have q := List.all_eq_true.mp ((Array.all_eq_true_iff_forall_mem.mp hF) _ (Array.getElem_mem ha)) i (List.mem_range.mpr hi)
    simpa [Array.getElem?_eq_getElem hi] using q
  obtain ⟨i0, ei0⟩ := is_v k0
  obtain rfl : w0 = (.int i0) := Option.some.inj ei0
  obtain ⟨i1, ei1⟩ := isL_v k1
  obtain rfl : w1 = (.long i1) := Option.some.inj ei1
  obtain ⟨i2, ei2⟩ := isL_v k2
  obtain rfl : w2 = (.long i2) := Option.some.inj ei2
  obtain ⟨i3, ei3⟩ := is_v g3
  obtain rfl : w3 = (.int i3) := Option.some.inj ei3
  obtain ⟨n, o, h1, h2, h3, _, L, rfl, ⟨rfl, N⟩, hq⟩ := rm0 l s _ hw tables_1 i0 i1 i2 i3  s.heap s.heap.size (Nat.le_refl _)  p e ha hc hk s m _ below hf ((Spec.applies_iff_loose hf).mp happ).1 ⟨rfl, State.Warmed39.refl s, rfl⟩ trivial
  refine ⟨n, _, h1, h2, h3, hpost _ _ _ _ _ _ ⟨Cond.after_iff.mpr rfl, Cond.after_iff.mpr (eq_i res_at (Term.int_eval (1)) rfl), trivial⟩ ⟨hq.1, hq.2.1, (hq.2.2.sift fun y hy => Or.inr (N y hy)).mono (by decide) (by decide)⟩⟩
theorem main_1_1 : Claimed_1_1 := comes_1 fun _ _ _ _ _ _ h hF => ⟨h.1, hF⟩
theorem main_1_2 : Claimed_1_2 := comes_1 fun _ _ _ _ _ _ h hF => ⟨h.2.1, hF⟩
end Jvm.Pilot.@@N@@
namespace Jvm.Pilot.@@N@@
open Jvm Jvm.ClassFile Sem Op Lib Jvm.Free Jvm.Stand Jvm.Pilot.@@N@@.Jvm.D
/-! MADE BY PROGRAM (witnessworld.py) out of the Statement's table words and the real class files: 13 classes; the members and pool entries that the words name. The judged class is class 1, her method 1. -/
namespace start1
open Jvm.ClassFile
def u (s : String) : CpInfo := .utf8 (stringToUtf16 s)
/-- a pool by its gaps: so many unusable entries, then the entry; so many at the end -/
def gap : Nat → List CpInfo → List CpInfo
  | 0, r => r
  | n + 1, r => .unusable :: gap n r
def poolList (es : List (Nat × CpInfo)) (last : Nat) : List CpInfo := es.foldr (fun e r => gap e.1 (e.2 :: r)) (gap last [])
def pool (es : List (Nat × CpInfo)) (last : Nat) : Array CpInfo := ⟨poolList es last⟩
def fileOf (pool : Array CpInfo) (this : Nat) (attrs : Array Attribute := #[]) (ms : Array MethodInfo := #[]) (fl : Nat := 33) (sup : Nat := 0) (ifs : Array Nat := #[]) (fds : Array FieldInfo := #[]) : ClassFile where
  minorVersion := 0
  majorVersion := 65
  constantPool := pool
  accessFlags := fl
  thisClass := this
  superClass := sup
  interfaces := ifs
  fields := fds
  methods := ms
  attributes := attrs
def plain (name : String) (sup : Option ClassId) : Class where
  name := name
  kind := .ordinary
  loader := none
  accessFlags := 33
  super := sup
  interfaces := #[]
  cf := none
  fields := #[]
  methods := #[]
  instanceTypes := #[]
  staticTypes := #[]
  resolved := #[]
  callSites := []
  init := .initialized
  statics := none
  mirror := none

def pool0 : Array CpInfo := pool [(5, u "<init>"), (0, u "()V"), (1, .class_ 10), (1, u "java/lang/Object")] 113

def k0c0 : Code := { maxStack := 0, maxLocals := 1, code := object_method_1_code, exceptionTable := #[], attributes := #[] }
def k0m0 : Method := { name := "<init>", desc := "()V", sig := { parameters := [], returnType := none }, accessFlags := 1, code := some k0c0 }
/-- java/lang/Object -/
def k0 : Class := { plain "java/lang/Object" none with
  accessFlags := 33
  interfaces := #[]
  cf := some (fileOf pool0 8 #[] #[{ accessFlags := 1, nameIndex := 5, descriptorIndex := 6, attributes := #[] }] 33 0 #[] #[])
  fields := #[]
  methods := #[k0m0]
  instanceTypes := #[]
  staticTypes := #[]
  resolved := Array.replicate 124 none
  statics := none }

def pool1 : Array CpInfo := pool [(2, .class_ 4), (1, u "java/lang/Object"), (0, u "<init>"), (0, u "()V"), (0, .integer 2147483647), (0, .methodref 9 10), (0, .class_ 11), (0, .nameAndType 12 13), (0, u "java/lang/Math"), (0, u "max"), (0, u "(II)I"), (0, .long 4294967295), (1, .class_ 17), (0, u "com/example/admission_by_rate/admissionbyrate/Gcra"), (0, .methodref 16 19), (0, .nameAndType 5 20), (0, u "(IJ)V"), (0, .methodref 16 22), (0, .nameAndType 23 24), (0, u "ticksPerMs"), (0, u "()J"), (0, .methodref 16 26), (0, .nameAndType 27 28), (0, u "drainedMs"), (0, u "(J)J"), (0, .class_ 30), (0, u "com/example/admission_by_rate/admissionbyrate/GcraDrainedMsPinLaw"), (2, u "law"), (0, u "(IJJI)Z")] 3

def k1m0 : Method := { name := "<init>", desc := "()V", sig := { parameters := [], returnType := none }, accessFlags := 2, code := none }
def k1c1 : Code := { maxStack := 6, maxLocals := 20, code := code, exceptionTable := #[], attributes := #[] }
def k1m1 : Method := { name := "law", desc := "(IJJI)Z", sig := { parameters := [.int, .long, .long, .int], returnType := some .boolean }, accessFlags := 9, code := some k1c1 }
/-- com/example/admission_by_rate/admissionbyrate/GcraDrainedMsPinLaw -/
def k1 : Class := { plain "com/example/admission_by_rate/admissionbyrate/GcraDrainedMsPinLaw" (some 0) with
  accessFlags := 49
  interfaces := #[]
  cf := some (fileOf pool1 29 #[] #[{ accessFlags := 2, nameIndex := 5, descriptorIndex := 6, attributes := #[] }, { accessFlags := 9, nameIndex := 33, descriptorIndex := 34, attributes := #[] }] 49 2 #[] #[])
  fields := #[]
  methods := #[k1m0, k1m1]
  instanceTypes := #[]
  staticTypes := #[]
  resolved := Array.replicate 38 none
  statics := none }

def pool2 : Array CpInfo := pool [(1, .class_ 2), (0, u "java/lang/Math"), (1, .class_ 6), (1, u "java/lang/Object"), (0, u "<init>"), (0, u "()V"), (89, .class_ 100), (1, u "java/lang/Math$RandomNumberGeneratorHolder"), (71, u "negativeZeroFloatBits"), (0, u "J"), (2, u "negativeZeroDoubleBits"), (21, u "max"), (46, u "$assertionsDisabled"), (0, u "Z"), (88, u "(II)I"), (2, u "twoToTheDoubleScaleDown"), (0, u "D"), (4, u "twoToTheDoubleScaleUp"), (9, u "E"), (3, u "PI"), (2, u "TAU"), (2, u "DEGREES_TO_RADIANS"), (0, u "RADIANS_TO_DEGREES")] 94

def k2m0 : Method := { name := "<init>", desc := "()V", sig := { parameters := [], returnType := none }, accessFlags := 2, code := none }
def k2c1 : Code := { maxStack := 2, maxLocals := 2, code := jdk_29_method_65_code, exceptionTable := #[], attributes := #[] }
def k2m1 : Method := { name := "max", desc := "(II)I", sig := { parameters := [.int, .int], returnType := some .int }, accessFlags := 9, code := some k2c1 }
/-- java/lang/Math -/
def k2 : Class := { plain "java/lang/Math" (some 0) with
  accessFlags := 49
  interfaces := #[]
  cf := some (fileOf pool2 1 #[.nestMembers #[98]] #[{ accessFlags := 2, nameIndex := 7, descriptorIndex := 8, attributes := #[] }, { accessFlags := 9, nameIndex := 198, descriptorIndex := 335, attributes := #[] }] 49 4 #[] #[{ accessFlags := 25, nameIndex := 354, descriptorIndex := 339, attributes := #[] }, { accessFlags := 25, nameIndex := 358, descriptorIndex := 339, attributes := #[] }, { accessFlags := 25, nameIndex := 361, descriptorIndex := 339, attributes := #[] }, { accessFlags := 26, nameIndex := 364, descriptorIndex := 339, attributes := #[] }, { accessFlags := 26, nameIndex := 365, descriptorIndex := 339, attributes := #[] }, { accessFlags := 26, nameIndex := 172, descriptorIndex := 173, attributes := #[] }, { accessFlags := 26, nameIndex := 176, descriptorIndex := 173, attributes := #[] }, { accessFlags := 8, nameIndex := 344, descriptorIndex := 339, attributes := #[] }, { accessFlags := 8, nameIndex := 338, descriptorIndex := 339, attributes := #[] }, { accessFlags := 4120, nameIndex := 245, descriptorIndex := 246, attributes := #[] }])
  fields := #[{ name := "E", type := .double, accessFlags := 25, slot := 0, constantValue := 0 }, { name := "PI", type := .double, accessFlags := 25, slot := 1, constantValue := 0 }, { name := "TAU", type := .double, accessFlags := 25, slot := 2, constantValue := 0 }, { name := "DEGREES_TO_RADIANS", type := .double, accessFlags := 26, slot := 3, constantValue := 0 }, { name := "RADIANS_TO_DEGREES", type := .double, accessFlags := 26, slot := 4, constantValue := 0 }, { name := "negativeZeroFloatBits", type := .long, accessFlags := 26, slot := 5, constantValue := 0 }, { name := "negativeZeroDoubleBits", type := .long, accessFlags := 26, slot := 6, constantValue := 0 }, { name := "twoToTheDoubleScaleUp", type := .double, accessFlags := 8, slot := 7, constantValue := 0 }, { name := "twoToTheDoubleScaleDown", type := .double, accessFlags := 8, slot := 8, constantValue := 0 }, { name := "$assertionsDisabled", type := .boolean, accessFlags := 4120, slot := 9, constantValue := 0 }]
  methods := #[k2m0, k2m1]
  instanceTypes := #[]
  staticTypes := #[.double, .double, .double, .double, .double, .long, .long, .double, .double, .boolean]
  resolved := Array.replicate 460 none
  statics := none }

def pool3 : Array CpInfo := pool [(3, .methodref 4 5), (0, .class_ 6), (0, .nameAndType 7 8), (0, u "java/lang/Object"), (0, u "<init>"), (0, u "()V"), (0, .methodref 10 11), (0, .class_ 12), (0, .nameAndType 13 14), (0, u "com/example/admission_by_rate/admissionbyrate/LimitAndPeriod"), (0, u "check"), (0, u "(IJ)V"), (0, .methodref 16 17), (0, .class_ 18), (0, .nameAndType 19 20), (0, u "com/example/admission_by_rate/admissionbyrate/Gcra"), (0, u "gcd"), (0, u "(JJ)J"), (0, .fieldref 16 22), (0, .nameAndType 23 24), (0, u "limit"), (0, u "I"), (0, .fieldref 16 26), (0, .nameAndType 27 28), (0, u "periodMs"), (0, u "J"), (0, .fieldref 16 30), (0, .nameAndType 31 28), (0, u "ticksPerMs"), (0, .fieldref 16 33), (0, .nameAndType 34 28), (0, u "intervalTicks"), (0, .long 9223372036854775807), (10, .fieldref 16 47), (0, .nameAndType 48 28), (0, u "periodTicks"), (0, .methodref 50 51), (0, .class_ 52), (0, .nameAndType 53 54), (0, u "com/example/admission_by_rate/admissionbyrate/Quota"), (0, u "full"), (0, u "(IJ)Lcom/example/admission_by_rate/admissionbyrate/Quota;"), (0, .fieldref 16 56), (0, .nameAndType 53 57), (0, u "Lcom/example/admission_by_rate/admissionbyrate/Quota;"), (6, u "(J)J"), (12, .class_ 79), (1, u "com/example/admission_by_rate/admissionbyrate/Gcra$1"), (15, u "drainedMs"), (36, u "UNSEEN"), (4, u "()J")] 29

def k3c0 : Code := { maxStack := 6, maxLocals := 6, code := prog_4_method_1_code, exceptionTable := #[], attributes := #[] }
def k3m0 : Method := { name := "<init>", desc := "(IJ)V", sig := { parameters := [.int, .long], returnType := none }, accessFlags := 1, code := some k3c0 }
def k3c1 : Code := { maxStack := 2, maxLocals := 1, code := prog_4_method_4_code, exceptionTable := #[], attributes := #[] }
def k3m1 : Method := { name := "ticksPerMs", desc := "()J", sig := { parameters := [], returnType := some .long }, accessFlags := 1, code := some k3c1 }
def k3c2 : Code := { maxStack := 6, maxLocals := 3, code := prog_4_method_11_code, exceptionTable := #[], attributes := #[] }
def k3m2 : Method := { name := "drainedMs", desc := "(J)J", sig := { parameters := [.long], returnType := some .long }, accessFlags := 1, code := some k3c2 }
def k3c3 : Code := { maxStack := 4, maxLocals := 6, code := prog_4_method_18_code, exceptionTable := #[], attributes := #[] }
def k3m3 : Method := { name := "gcd", desc := "(JJ)J", sig := { parameters := [.long, .long], returnType := some .long }, accessFlags := 10, code := some k3c3 }
/-- com/example/admission_by_rate/admissionbyrate/Gcra -/
def k3 : Class := { plain "com/example/admission_by_rate/admissionbyrate/Gcra" (some 0) with
  accessFlags := 49
  interfaces := #[]
  cf := some (fileOf pool3 16 #[.nestMembers #[77]] #[{ accessFlags := 1, nameIndex := 7, descriptorIndex := 14, attributes := #[] }, { accessFlags := 1, nameIndex := 31, descriptorIndex := 137, attributes := #[] }, { accessFlags := 1, nameIndex := 95, descriptorIndex := 64, attributes := #[] }, { accessFlags := 10, nameIndex := 19, descriptorIndex := 20, attributes := #[] }] 49 4 #[] #[{ accessFlags := 25, nameIndex := 132, descriptorIndex := 28, attributes := #[] }, { accessFlags := 18, nameIndex := 23, descriptorIndex := 24, attributes := #[] }, { accessFlags := 18, nameIndex := 27, descriptorIndex := 28, attributes := #[] }, { accessFlags := 18, nameIndex := 31, descriptorIndex := 28, attributes := #[] }, { accessFlags := 18, nameIndex := 34, descriptorIndex := 28, attributes := #[] }, { accessFlags := 18, nameIndex := 48, descriptorIndex := 28, attributes := #[] }, { accessFlags := 18, nameIndex := 53, descriptorIndex := 57, attributes := #[] }])
  fields := #[{ name := "UNSEEN", type := .long, accessFlags := 25, slot := 0, constantValue := 0 }, { name := "limit", type := .int, accessFlags := 18, slot := 0, constantValue := 0 }, { name := "periodMs", type := .long, accessFlags := 18, slot := 1, constantValue := 0 }, { name := "ticksPerMs", type := .long, accessFlags := 18, slot := 2, constantValue := 0 }, { name := "intervalTicks", type := .long, accessFlags := 18, slot := 3, constantValue := 0 }, { name := "periodTicks", type := .long, accessFlags := 18, slot := 4, constantValue := 0 }, { name := "full", type := (.object "com/example/admission_by_rate/admissionbyrate/Quota"), accessFlags := 18, slot := 5, constantValue := 0 }]
  methods := #[k3m0, k3m1, k3m2, k3m3]
  instanceTypes := #[.int, .long, .long, .long, .long, (.object "com/example/admission_by_rate/admissionbyrate/Quota")]
  staticTypes := #[.long]
  resolved := Array.replicate 167 none
  statics := none }

def pool4 : Array CpInfo := pool [(2, .class_ 4), (1, u "java/lang/Object"), (0, u "<init>"), (0, u "()V"), (15, .class_ 23), (0, u "com/example/admission_by_rate/admissionbyrate/LimitAndPeriod"), (2, u "check"), (0, u "(IJ)V")] 23

def k4m0 : Method := { name := "<init>", desc := "()V", sig := { parameters := [], returnType := none }, accessFlags := 2, code := none }
def k4c1 : Code := { maxStack := 4, maxLocals := 3, code := prog_33_method_2_code, exceptionTable := #[], attributes := #[] }
def k4m1 : Method := { name := "check", desc := "(IJ)V", sig := { parameters := [.int, .long], returnType := none }, accessFlags := 8, code := some k4c1 }
/-- com/example/admission_by_rate/admissionbyrate/LimitAndPeriod -/
def k4 : Class := { plain "com/example/admission_by_rate/admissionbyrate/LimitAndPeriod" (some 0) with
  accessFlags := 48
  interfaces := #[]
  cf := some (fileOf pool4 22 #[] #[{ accessFlags := 2, nameIndex := 5, descriptorIndex := 6, attributes := #[] }, { accessFlags := 8, nameIndex := 26, descriptorIndex := 27, attributes := #[] }] 48 2 #[] #[])
  fields := #[]
  methods := #[k4m0, k4m1]
  instanceTypes := #[]
  staticTypes := #[]
  resolved := Array.replicate 51 none
  statics := none }

def pool5 : Array CpInfo := pool [(1, .methodref 2 3), (0, .class_ 4), (0, .nameAndType 5 6), (0, u "java/lang/Object"), (0, u "<init>"), (0, u "()V"), (0, .class_ 8), (0, u "java/lang/Record")] 13

def k5c0 : Code := { maxStack := 1, maxLocals := 1, code := jdk_30_method_1_code, exceptionTable := #[], attributes := #[] }
def k5m0 : Method := { name := "<init>", desc := "()V", sig := { parameters := [], returnType := none }, accessFlags := 4, code := some k5c0 }
/-- java/lang/Record -/
def k5 : Class := { plain "java/lang/Record" (some 0) with
  accessFlags := 1057
  interfaces := #[]
  cf := some (fileOf pool5 7 #[] #[{ accessFlags := 4, nameIndex := 5, descriptorIndex := 6, attributes := #[] }] 1057 2 #[] #[])
  fields := #[]
  methods := #[k5m0]
  instanceTypes := #[]
  staticTypes := #[]
  resolved := Array.replicate 22 none
  statics := none }

def pool6 : Array CpInfo := pool [(1, .methodref 2 3), (0, .class_ 4), (0, .nameAndType 5 6), (0, u "java/lang/Record"), (0, u "<init>"), (0, u "()V"), (0, .methodref 8 9), (0, .class_ 10), (0, .nameAndType 11 12), (0, u "com/example/admission_by_rate/admissionbyrate/LimitAndPeriod"), (0, u "check"), (0, u "(IJ)V"), (9, .fieldref 23 24), (0, .class_ 25), (0, .nameAndType 26 27), (0, u "com/example/admission_by_rate/admissionbyrate/Quota"), (0, u "limit"), (0, u "I"), (0, .fieldref 23 29), (0, .nameAndType 30 31), (0, u "periodMs"), (0, u "J"), (0, .fieldref 23 33), (0, .nameAndType 34 27), (0, u "remaining"), (0, .fieldref 23 36), (0, .nameAndType 37 31), (0, u "resetMs"), (0, .methodref 23 39), (0, .nameAndType 5 40), (0, u "(IJIJ)V"), (20, u "full"), (0, u "(IJ)Lcom/example/admission_by_rate/admissionbyrate/Quota;")] 39

def k6c0 : Code := { maxStack := 6, maxLocals := 7, code := prog_48_method_1_code, exceptionTable := #[], attributes := #[] }
def k6m0 : Method := { name := "<init>", desc := "(IJIJ)V", sig := { parameters := [.int, .long, .int, .long], returnType := none }, accessFlags := 1, code := some k6c0 }
def k6c1 : Code := { maxStack := 8, maxLocals := 3, code := prog_48_method_2_code, exceptionTable := #[], attributes := #[] }
def k6m1 : Method := { name := "full", desc := "(IJ)Lcom/example/admission_by_rate/admissionbyrate/Quota;", sig := { parameters := [.int, .long], returnType := some (.object "com/example/admission_by_rate/admissionbyrate/Quota") }, accessFlags := 8, code := some k6c1 }
/-- com/example/admission_by_rate/admissionbyrate/Quota -/
def k6 : Class := { plain "com/example/admission_by_rate/admissionbyrate/Quota" (some 5) with
  accessFlags := 49
  interfaces := #[]
  cf := some (fileOf pool6 23 #[] #[{ accessFlags := 1, nameIndex := 5, descriptorIndex := 40, attributes := #[] }, { accessFlags := 8, nameIndex := 61, descriptorIndex := 62, attributes := #[] }] 49 2 #[] #[{ accessFlags := 18, nameIndex := 26, descriptorIndex := 27, attributes := #[] }, { accessFlags := 18, nameIndex := 30, descriptorIndex := 31, attributes := #[] }, { accessFlags := 18, nameIndex := 34, descriptorIndex := 27, attributes := #[] }, { accessFlags := 18, nameIndex := 37, descriptorIndex := 31, attributes := #[] }])
  fields := #[{ name := "limit", type := .int, accessFlags := 18, slot := 0, constantValue := 0 }, { name := "periodMs", type := .long, accessFlags := 18, slot := 1, constantValue := 0 }, { name := "remaining", type := .int, accessFlags := 18, slot := 2, constantValue := 0 }, { name := "resetMs", type := .long, accessFlags := 18, slot := 3, constantValue := 0 }]
  methods := #[k6m0, k6m1]
  instanceTypes := #[.int, .long, .int, .long]
  staticTypes := #[]
  resolved := Array.replicate 102 none
  statics := none }

def pool7 : Array CpInfo := pool [(1, u "java/lang/Cloneable"), (0, .class_ 1), (0, u "java/lang/Object"), (0, .class_ 3)] 3

/-- java/lang/Cloneable -/
def k7 : Class := { plain "java/lang/Cloneable" (some 0) with
  accessFlags := 1537
  interfaces := #[]
  cf := some (fileOf pool7 2 #[] #[] 1537 4 #[] #[])
  fields := #[]
  methods := #[]
  instanceTypes := #[]
  staticTypes := #[]
  resolved := Array.replicate 8 none
  statics := none }

def pool8 : Array CpInfo := pool [(1, u "java/io/Serializable"), (0, .class_ 1), (0, u "java/lang/Object"), (0, .class_ 3)] 3

/-- java/io/Serializable -/
def k8 : Class := { plain "java/io/Serializable" (some 0) with
  accessFlags := 1537
  interfaces := #[]
  cf := some (fileOf pool8 2 #[] #[] 1537 4 #[] #[])
  fields := #[]
  methods := #[]
  instanceTypes := #[]
  staticTypes := #[]
  resolved := Array.replicate 8 none
  statics := none }

/-- the primitive byte -/
def k9 : Class := { plain "byte" none with kind := .primitive 'B', accessFlags := 0x411 }
/-- [B -/
def k10 : Class := { plain "[B" (some 0) with kind := .array 9 .byte, interfaces := #[7, 8], accessFlags := 1041 }

/-- the primitive int -/
def k11 : Class := { plain "int" none with kind := .primitive 'I', accessFlags := 0x411 }
/-- [I -/
def k12 : Class := { plain "[I" (some 0) with kind := .array 11 .int, interfaces := #[7, 8], accessFlags := 1041 }

def heap : Heap := #[]
def classes : Array Class := #[k0, k1, k2, k3, k4, k5, k6, k7, k8, k9, k10, k11, k12]
def interned : List (Array UInt16 × Addr) := []
def slotsUsed : Nat := 0
def theMethod : MethodId := ⟨1, 1⟩
def args0 : Array Value := #[.int 5, .long 300, .long 7, .int 1]
def aboutOver (below : List Frame) : State where
  vm := { classes := classes, interned := interned.toArray }
  heap := heap
  slotsUsed := slotsUsed
  threads := #[{ frames := .invoking theMethod args0 :: below }]
def below0 : List Frame := [.native { method := ⟨0, 0⟩, args := #[] }]
def about1 : State := aboutOver below0
def p0 : Program := .bare "" "" ""
def e0 : Env := launch0.env 0 0 0
theorem w_frames : about1.frames = Frame.invoking theMethod args0 :: below0 := rfl
set_option maxRecDepth 65536 in
theorem w_args : argsFit about1.vm theMethod args0 = true := by decide +kernel
set_option maxRecDepth 65536 in
theorem w_heap : heapFits about1 = true := by decide +kernel
set_option maxRecDepth 65536 in
theorem w_runnable : about1.curStatus? = some .runnable := by decide +kernel
set_option maxRecDepth 65536 in
theorem w_alone : about1.alone = true := by decide +kernel
set_option maxRecDepth 65536 in
theorem w_named : about1.methodNamed? x = some theMethod := by decide +kernel
set_option maxRecDepth 65536 in
theorem w_hears : about1.hears theMethod below0 = true := by decide +kernel
set_option maxRecDepth 65536 in
theorem w_ripe : about1.ripe theMethod args0 below0 = true := by decide +kernel
theorem w_running : about1.status = .running := rfl
set_option maxRecDepth 65536 in
theorem w_room : about1.hasRoom e0.platform room_1 = true :=
  launch0.hasRoom_least _ room_1 (by decide +kernel) (by decide +kernel) (by decide +kernel) (by decide +kernel) (by decide +kernel) (by decide +kernel)
theorem allAtoms_all (ts : List Jvm.Cond) (a : Array Jvm.Value) (st : Jvm.State) : (allAtoms ts).before a st = ts.all (fun c => c.before a st) := by
  induction ts with
  | nil => rfl
  | cons c t ih =>
    show (Jvm.Cond.and c (allAtoms t)).before a st = _
    rw [Jvm.Cond.before_and, ih, List.all_cons]
def words1 : List Jvm.Cond := Jvm.Cond.code x code maxLocals ret :: tables_1
/-- a 'code' word, met by the world's own term for the bytes: nothing is compared byte by byte -/
theorem code_word {y : MethodName} {bytes : ByteArray} {mx : Nat} {rt : Option FieldType} {a : Array Value} {s : State} {m : MethodId} {meth : Method} {c : Code} (h1 : s.methodNamed? y = some m) (h2 : s.vm.method? m = some meth) (h3 : meth.code = some c) (h4 : c.code = bytes)
    (h5 : (c.maxLocals == mx && c.exceptionTable.isEmpty && decide (c.maxStack ≤ mostOperands) && decide (meth.sig.returnType = rt) && !meth.locks && decide (parseMethodDescriptor y.desc = some meth.sig)) = true) : (Jvm.Cond.code y bytes mx rt).before a s = true := by
  simp only [Bool.and_eq_true, beq_iff_eq, Bool.not_eq_true', decide_eq_true_eq] at h5
  obtain ⟨⟨⟨⟨⟨g1, g2⟩, g3⟩, g4⟩, g5⟩, g6⟩ := h5
  simp [Cond.before, Cond.holds, Cond.value, h1, h2, h3, h4, g1, g2, g3, g4, g5, g6]
def isCode : Jvm.Cond → Bool
  | .code _ _ _ _ => true
  | _ => false
theorem all_split {L : List Jvm.Cond} {P : Jvm.Cond → Bool} (h1 : L.all (fun c => isCode c || P c) = true) (h2 : ∀ c ∈ L.filter isCode, P c = true) : L.all P = true := by
  refine List.all_eq_true.mpr fun c hc => ?_
  have h := List.all_eq_true.mp h1 c hc
  rcases Bool.eq_false_or_eq_true (isCode c) with hi | hi
  · exact h2 c (List.mem_filter.mpr ⟨hc, hi⟩)
  · simpa [hi] using h
set_option maxRecDepth 65536 in
theorem w_c0 : (Jvm.Cond.code x code maxLocals ret).before args0 about1 = true := code_word (m := ⟨1, 1⟩) (meth := k1m1) (c := k1c1) (by decide +kernel) rfl rfl rfl (by decide +kernel)
set_option maxRecDepth 65536 in
theorem w_c1 : (Jvm.Cond.code ({ cls := "java/lang/Math", name := "max", desc := "(II)I" } : Jvm.MethodName) jdk_29_method_65_code (2 : Nat) (Option.some Jvm.ClassFile.FieldType.int)).before args0 about1 = true := code_word (m := ⟨2, 1⟩) (meth := k2m1) (c := k2c1) (by decide +kernel) rfl rfl rfl (by decide +kernel)
set_option maxRecDepth 65536 in
theorem w_c2 : (Jvm.Cond.code ({ cls := "com/example/admission_by_rate/admissionbyrate/Gcra", name := "<init>", desc := "(IJ)V" } : Jvm.MethodName) prog_4_method_1_code (6 : Nat) (Option.none : Option Jvm.ClassFile.FieldType)).before args0 about1 = true := code_word (m := ⟨3, 0⟩) (meth := k3m0) (c := k3c0) (by decide +kernel) rfl rfl rfl (by decide +kernel)
set_option maxRecDepth 65536 in
theorem w_c3 : (Jvm.Cond.code ({ cls := "java/lang/Object", name := "<init>", desc := "()V" } : Jvm.MethodName) object_method_1_code (1 : Nat) (Option.none : Option Jvm.ClassFile.FieldType)).before args0 about1 = true := code_word (m := ⟨0, 0⟩) (meth := k0m0) (c := k0c0) (by decide +kernel) rfl rfl rfl (by decide +kernel)
set_option maxRecDepth 65536 in
theorem w_c4 : (Jvm.Cond.code ({ cls := "com/example/admission_by_rate/admissionbyrate/LimitAndPeriod", name := "check", desc := "(IJ)V" } : Jvm.MethodName) prog_33_method_2_code (3 : Nat) (Option.none : Option Jvm.ClassFile.FieldType)).before args0 about1 = true := code_word (m := ⟨4, 1⟩) (meth := k4m1) (c := k4c1) (by decide +kernel) rfl rfl rfl (by decide +kernel)
set_option maxRecDepth 65536 in
theorem w_c5 : (Jvm.Cond.code ({ cls := "com/example/admission_by_rate/admissionbyrate/Gcra", name := "gcd", desc := "(JJ)J" } : Jvm.MethodName) prog_4_method_18_code (6 : Nat) (Option.some Jvm.ClassFile.FieldType.long)).before args0 about1 = true := code_word (m := ⟨3, 3⟩) (meth := k3m3) (c := k3c3) (by decide +kernel) rfl rfl rfl (by decide +kernel)
set_option maxRecDepth 65536 in
theorem w_c6 : (Jvm.Cond.code ({ cls := "com/example/admission_by_rate/admissionbyrate/Quota", name := "full", desc := "(IJ)Lcom/example/admission_by_rate/admissionbyrate/Quota;" } : Jvm.MethodName) prog_48_method_2_code (3 : Nat) (Option.some (Jvm.ClassFile.FieldType.object "com/example/admission_by_rate/admissionbyrate/Quota"))).before args0 about1 = true := code_word (m := ⟨6, 1⟩) (meth := k6m1) (c := k6c1) (by decide +kernel) rfl rfl rfl (by decide +kernel)
set_option maxRecDepth 65536 in
theorem w_c7 : (Jvm.Cond.code ({ cls := "com/example/admission_by_rate/admissionbyrate/Quota", name := "<init>", desc := "(IJIJ)V" } : Jvm.MethodName) prog_48_method_1_code (7 : Nat) (Option.none : Option Jvm.ClassFile.FieldType)).before args0 about1 = true := code_word (m := ⟨6, 0⟩) (meth := k6m0) (c := k6c0) (by decide +kernel) rfl rfl rfl (by decide +kernel)
set_option maxRecDepth 65536 in
theorem w_c8 : (Jvm.Cond.code ({ cls := "java/lang/Record", name := "<init>", desc := "()V" } : Jvm.MethodName) jdk_30_method_1_code (1 : Nat) (Option.none : Option Jvm.ClassFile.FieldType)).before args0 about1 = true := code_word (m := ⟨5, 0⟩) (meth := k5m0) (c := k5c0) (by decide +kernel) rfl rfl rfl (by decide +kernel)
set_option maxRecDepth 65536 in
theorem w_c9 : (Jvm.Cond.code ({ cls := "com/example/admission_by_rate/admissionbyrate/Gcra", name := "ticksPerMs", desc := "()J" } : Jvm.MethodName) prog_4_method_4_code (1 : Nat) (Option.some Jvm.ClassFile.FieldType.long)).before args0 about1 = true := code_word (m := ⟨3, 1⟩) (meth := k3m1) (c := k3c1) (by decide +kernel) rfl rfl rfl (by decide +kernel)
set_option maxRecDepth 65536 in
theorem w_c10 : (Jvm.Cond.code ({ cls := "com/example/admission_by_rate/admissionbyrate/Gcra", name := "drainedMs", desc := "(J)J" } : Jvm.MethodName) prog_4_method_11_code (3 : Nat) (Option.some Jvm.ClassFile.FieldType.long)).before args0 about1 = true := code_word (m := ⟨3, 2⟩) (meth := k3m2) (c := k3c2) (by decide +kernel) rfl rfl rfl (by decide +kernel)
def codes1 : List Jvm.Cond := [Jvm.Cond.code x code maxLocals ret, Jvm.Cond.code ({ cls := "java/lang/Math", name := "max", desc := "(II)I" } : Jvm.MethodName) jdk_29_method_65_code (2 : Nat) (Option.some Jvm.ClassFile.FieldType.int), Jvm.Cond.code ({ cls := "com/example/admission_by_rate/admissionbyrate/Gcra", name := "<init>", desc := "(IJ)V" } : Jvm.MethodName) prog_4_method_1_code (6 : Nat) (Option.none : Option Jvm.ClassFile.FieldType), Jvm.Cond.code ({ cls := "java/lang/Object", name := "<init>", desc := "()V" } : Jvm.MethodName) object_method_1_code (1 : Nat) (Option.none : Option Jvm.ClassFile.FieldType), Jvm.Cond.code ({ cls := "com/example/admission_by_rate/admissionbyrate/LimitAndPeriod", name := "check", desc := "(IJ)V" } : Jvm.MethodName) prog_33_method_2_code (3 : Nat) (Option.none : Option Jvm.ClassFile.FieldType), Jvm.Cond.code ({ cls := "com/example/admission_by_rate/admissionbyrate/Gcra", name := "gcd", desc := "(JJ)J" } : Jvm.MethodName) prog_4_method_18_code (6 : Nat) (Option.some Jvm.ClassFile.FieldType.long), Jvm.Cond.code ({ cls := "com/example/admission_by_rate/admissionbyrate/Quota", name := "full", desc := "(IJ)Lcom/example/admission_by_rate/admissionbyrate/Quota;" } : Jvm.MethodName) prog_48_method_2_code (3 : Nat) (Option.some (Jvm.ClassFile.FieldType.object "com/example/admission_by_rate/admissionbyrate/Quota")), Jvm.Cond.code ({ cls := "com/example/admission_by_rate/admissionbyrate/Quota", name := "<init>", desc := "(IJIJ)V" } : Jvm.MethodName) prog_48_method_1_code (7 : Nat) (Option.none : Option Jvm.ClassFile.FieldType), Jvm.Cond.code ({ cls := "java/lang/Record", name := "<init>", desc := "()V" } : Jvm.MethodName) jdk_30_method_1_code (1 : Nat) (Option.none : Option Jvm.ClassFile.FieldType), Jvm.Cond.code ({ cls := "com/example/admission_by_rate/admissionbyrate/Gcra", name := "ticksPerMs", desc := "()J" } : Jvm.MethodName) prog_4_method_4_code (1 : Nat) (Option.some Jvm.ClassFile.FieldType.long), Jvm.Cond.code ({ cls := "com/example/admission_by_rate/admissionbyrate/Gcra", name := "drainedMs", desc := "(J)J" } : Jvm.MethodName) prog_4_method_11_code (3 : Nat) (Option.some Jvm.ClassFile.FieldType.long)]
set_option maxRecDepth 65536 in
theorem codes_eq : words1.filter isCode = codes1 := rfl
theorem w_codes : ∀ c ∈ words1.filter isCode, c.before args0 about1 = true := by
  rw [codes_eq]
  intro c hc
  simp only [codes1, List.mem_cons, List.not_mem_nil, or_false] at hc
  rcases hc with rfl | rfl | rfl | rfl | rfl | rfl | rfl | rfl | rfl | rfl | rfl
  · exact w_c0
  · exact w_c1
  · exact w_c2
  · exact w_c3
  · exact w_c4
  · exact w_c5
  · exact w_c6
  · exact w_c7
  · exact w_c8
  · exact w_c9
  · exact w_c10
set_option maxRecDepth 65536 in
theorem w_t1 : (words1.take 24).all (fun c => isCode c || c.before args0 about1) = true := by decide +kernel
set_option maxRecDepth 65536 in
theorem w_t2 : ((words1.drop 24).take 24).all (fun c => isCode c || c.before args0 about1) = true := by decide +kernel
set_option maxRecDepth 65536 in
theorem w_t3 : ((words1.drop 24).drop 24).all (fun c => isCode c || c.before args0 about1) = true := by decide +kernel
theorem w_tables : (allAtoms (Jvm.Cond.code x code maxLocals ret :: tables_1)).before args0 about1 = true := by
  rw [allAtoms_all]
  show words1.all (fun c => c.before args0 about1) = true
  refine all_split ?_ w_codes
  rw [← List.take_append_drop 24 words1, List.all_append, w_t1, ← List.take_append_drop 24 (words1.drop 24), List.all_append, w_t2, w_t3]
  rfl
set_option maxRecDepth 65536 in
theorem w_case : (Jvm.Cond.and given_1 narrow_1).before args0 about1 = true := by decide +kernel
theorem w_applies : (headSpec (Jvm.Cond.code x code maxLocals ret :: tables_1) room_1).applies x e0.platform about1 = true :=
  (Spec.applies_iff w_frames).mpr ⟨w_running, w_runnable, w_alone, w_named, w_hears, w_ripe, w_room, w_tables⟩
theorem atStart : AtStart classFile x code maxLocals ret World_1 tables_1 room_1 Calls_1 rest_1 Pre_1 launch0 p0 e0 about1 theMethod args0 below0 :=
  ⟨lists_1, trivial, launch0.admits_env _ _ _, launch0.least_env, fairChoices_fair.cas, fairChoices_fair.clock, w_frames, w_args, w_heap, w_applies, trivial, trivial, w_case⟩
end start1
theorem witness_1 : WitnessClaimed_1 := ⟨start1.p0, start1.e0, start1.about1, start1.theMethod, start1.args0, start1.below0, start1.atStart⟩
end Jvm.Pilot.@@N@@
