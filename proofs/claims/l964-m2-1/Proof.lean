import JvmDerived
import JvmDerived.Pilot.@@N@@Statement
import JvmDerived.Pilot.@@N@@Code
set_option linter.unusedVariables false
set_option linter.unusedSimpArgs false
namespace Jvm.Pilot.@@N@@
namespace StrChars
open Jvm Sem ClassFile Op Lib Jvm.Stand Jvm.Free.XT Jvm.Free.ALB Jvm.Free.JM Jvm.Free
open Jvm.Lib.Cold (StaticIs)
/-- the byte that i2b leaves of a char -/
def lo8 (x : Int32) : Int32 := x.toInt8.toInt32
theorem fits_lo8 (y : Int32) : fits .byte (.int (lo8 y)) = true := by
  have h1 := y.toInt8.le_toInt
  have h2 := y.toInt8.toInt_lt
  simp only [lo8, fits, Bool.and_eq_true, decide_eq_true_eq, Int32.le_iff_toInt_le, Int8.toInt_toInt32, show (-128 : Int32).toInt = -128 from by decide, show (127 : Int32).toInt = 127 from by decide]
  omega
def U16 : String := "java/lang/StringUTF16"
/-- the byte, read back as charAt reads it, is the char -/
theorem lo8_mask {x : Int32} (h0 : ¬ x < 0) (h1 : ¬ 255 < x) : lo8 x &&& 255 = x := by
  have t : ∀ k : Fin 256, lo8 (Int32.ofNat k.val) &&& 255 = Int32.ofNat k.val := by decide +kernel
  rw [Int32.lt_iff_toInt_lt] at h0 h1
  have e0 : (0 : Int32).toInt = 0 := rfl
  have e1 : (255 : Int32).toInt = 255 := rfl
  obtain ⟨k, hk⟩ : ∃ k : Nat, x.toInt = k := ⟨x.toInt.toNat, by omega⟩
  have hx : x = Int32.ofNat k := Int32.toInt_inj.mp (by rw [hk, Int32.toInt_ofNat_small (by omega)])
  rw [hx]
  exact t ⟨k, by omega⟩
end StrChars
namespace StrChars.Road
open Jvm Sem ClassFile Op Lib Jvm.Stand Jvm.Free Jvm.Free.XT
open Jvm.Lib.Cold (StaticIs)
abbrev ST : String := "java/lang/String"
end StrChars.Road
namespace StrChars
open Jvm Sem ClassFile Op Lib Jvm.Stand Jvm.Free.XT Jvm.Free.ALB Jvm.Free.JM Jvm.Free
open Jvm.Lib.Cold (StaticIs)
def hi8 (x : Int32) : Int32 := lo8 (x >>> ((8 : Int32) &&& 31))
/-- what StringUTF16.getChar makes of two bytes -/
def pairCh (u v : Int32) : Int32 := (((u &&& 255) <<< ((0 : Int32) &&& 31)) ||| ((v &&& 255) <<< ((8 : Int32) &&& 31))).toUInt32.toUInt16.toUInt32.toInt32
theorem shr0 (c : Int32) : c >>> ((0 : Int32) &&& 31) = c := by
  have e : ((0 : Int32) &&& 31) = 0 := by decide
  rw [e]
  apply Int32.toBitVec_inj.mp
  rw [Int32.toBitVec_shiftRight]
  have e1 : ((0 : Int32).toBitVec.smod 32) = 0#32 := by decide
  rw [e1, BitVec.sshiftRight_eq']
  exact BitVec.sshiftRight_zero
theorem lo8_and (x : Int32) : (lo8 x &&& 255).toBitVec.toNat = x.toBitVec.toNat % 256 := by
  have h : (lo8 x).toBitVec = (x.toBitVec.signExtend 8).signExtend 32 := by rw [lo8, Int8.toBitVec_toInt32, Int32.toBitVec_toInt8]
  rw [Int32.toBitVec_and, BitVec.toNat_and, h]
  have e : ((x.toBitVec.signExtend 8).signExtend 32).toNat % 256 = x.toBitVec.toNat % 256 := by
    rw [BitVec.toNat_signExtend]
    have hlt := x.toBitVec.isLt
    simp only [BitVec.toNat_setWidth, BitVec.toNat_signExtend]
    split <;> split <;> omega
  rw [← e]
  exact Nat.and_two_pow_sub_one_eq_mod _ 8
theorem pair_says {c : Int32} (h0 : ¬ c < 0) (h1 : ¬ 65535 < c) : pairCh (lo8 c) (hi8 c) = c := by
  rw [Int32.lt_iff_toInt_lt] at h0 h1
  have e0 : (0 : Int32).toInt = 0 := rfl
  have e1 : (65535 : Int32).toInt = 65535 := rfl
  have hc : c.toInt = c.toBitVec.toNat := by
    have := c.toBitVec.isLt
    have e : c.toInt = c.toBitVec.toInt := rfl
    rw [e] at h0 h1
    rw [e]
    rw [BitVec.toInt_eq_toNat_cond] at h0 h1 ⊢
    split at h0 <;> split <;> omega
  have hn : c.toBitVec.toNat < 65536 := by omega
  have a1 := lo8_and c
  have a2 : (hi8 c &&& 255).toBitVec.toNat = c.toBitVec.toNat / 256 := by
    rw [hi8, lo8_and]
    have e : ((8 : Int32) &&& 31) = 8 := by decide
    rw [e, Int32.toBitVec_shiftRight]
    have e2 : ((8 : Int32).toBitVec.smod 32) = 8#32 := by decide
    rw [e2, BitVec.sshiftRight_eq', BitVec.toNat_sshiftRight_of_msb_false (by rw [BitVec.msb_eq_false_iff_two_mul_lt]; omega)]
    show c.toBitVec.toNat >>> 8 % 256 = _
    rw [Nat.shiftRight_eq_div_pow]
    omega
  unfold pairCh
  apply Int32.toBitVec_inj.mp
  apply BitVec.eq_of_toNat_eq
  have f0 : ((0 : Int32) &&& 31) = 0 := by decide
  have f8 : ((8 : Int32) &&& 31) = 8 := by decide
  rw [f0, f8]
  have g : (((lo8 c &&& 255) <<< (0 : Int32)) ||| ((hi8 c &&& 255) <<< (8 : Int32))).toBitVec.toNat = c.toBitVec.toNat := by
    rw [Int32.toBitVec_or, Int32.toBitVec_shiftLeft, Int32.toBitVec_shiftLeft]
    have s0 : ((0 : Int32).toBitVec.smod 32) = 0#32 := by decide
    have s8 : ((8 : Int32).toBitVec.smod 32) = 8#32 := by decide
    rw [s0, s8, BitVec.toNat_or]
    simp only [BitVec.shiftLeft_eq', BitVec.toNat_shiftLeft, a1, a2]
    show (c.toBitVec.toNat % 256) <<< 0 % 2 ^ 32 ||| (c.toBitVec.toNat / 256) <<< 8 % 2 ^ 32 = _
    rw [Nat.shiftLeft_zero, Nat.mod_eq_of_lt (show c.toBitVec.toNat % 256 < 2 ^ 32 by omega), Nat.mod_eq_of_lt (show (c.toBitVec.toNat / 256) <<< 8 < 2 ^ 32 by rw [Nat.shiftLeft_eq]; omega), Nat.or_comm, ← Nat.shiftLeft_add_eq_or_of_lt (by omega), Nat.shiftLeft_eq]
    omega
  show BitVec.toNat (((((lo8 c &&& 255) <<< (0 : Int32)) ||| ((hi8 c &&& 255) <<< (8 : Int32))).toBitVec.setWidth 16).setWidth 32) = _
  rw [BitVec.toNat_setWidth, BitVec.toNat_setWidth, g]
  omega
end StrChars
namespace StrChars
open Jvm Sem ClassFile Op Lib Jvm.Stand Jvm.Free.XT Jvm.Free.ALB Jvm.Free.JM Jvm.Free
open Jvm.Lib.Cold (StaticIs)
theorem shr1 {n : Nat} (h : 2 * n < 2 ^ 31) : Int32.ofNat (2 * n) >>> ((1 : Int32) &&& 31) = Int32.ofNat n := by
  have e : ((1 : Int32) &&& 31) = 1 := by decide
  rw [e]
  apply Int32.toBitVec_inj.mp
  rw [Int32.toBitVec_shiftRight]
  have e1 : ((1 : Int32).toBitVec.smod 32) = 1#32 := by decide
  have hm : (BitVec.ofNat 32 (2 * n)).toNat = 2 * n := by rw [BitVec.toNat_ofNat, Nat.mod_eq_of_lt (by omega)]
  rw [e1, BitVec.sshiftRight_eq']
  apply BitVec.eq_of_toNat_eq
  show ((BitVec.ofNat 32 (2 * n)).sshiftRight 1).toNat = (BitVec.ofNat 32 n).toNat
  rw [BitVec.toNat_sshiftRight_of_msb_false (by rw [BitVec.msb_eq_false_iff_two_mul_lt, hm]; omega), hm, BitVec.toNat_ofNat, Nat.shiftRight_eq_div_pow]
  omega
/-- charAt's cast of a byte read back -/
def chr8 (u : Int32) : Int32 := (u &&& 255).toUInt32.toUInt16.toUInt32.toInt32
theorem chr8_lo8 {c : Int32} (h0 : ¬ c < 0) (h1 : ¬ 255 < c) : chr8 (lo8 c) = c := by
  have t : ∀ k : Fin 256, (Int32.ofNat k.val).toUInt32.toUInt16.toUInt32.toInt32 = Int32.ofNat k.val := by decide +kernel
  unfold chr8
  rw [lo8_mask h0 h1]
  rw [Int32.lt_iff_toInt_lt] at h0 h1
  have e0 : (0 : Int32).toInt = 0 := rfl
  have e1 : (255 : Int32).toInt = 255 := rfl
  obtain ⟨k, hk⟩ : ∃ k : Nat, c.toInt = k := ⟨c.toInt.toNat, by omega⟩
  have hx : c = Int32.ofNat k := Int32.toInt_inj.mp (by rw [hk, Int32.toInt_ofNat_small (by omega)])
  rw [hx]
  exact t ⟨k, by omega⟩
theorem narrow_ch {c : Int32} (h0 : ¬ c < 0) (h1 : ¬ 65535 < c) : narrow .char (.int c) = .int c := by
  have q : narrow .char (.int (pairCh (lo8 c) (hi8 c))) = .int (pairCh (lo8 c) (hi8 c)) := narrow_c _
  rwa [pair_says h0 h1] at q
/-- the array's cell V codes the n chars f 0 .. f (n - 1) by the coder cd, as the JDK does: coder 1 just where some char is above 255 -/
def Cod (cd : Int32) (n : Nat) (f : Nat → Int32) (V : Cell) : Prop := (cd = 0 ∧ V.slots.size = n ∧ ∀ j, j < n → V.slots[j]? = some (.int (lo8 (f j))) ∧ ¬ 255 < f j) ∨ (cd = 1 ∧ V.slots.size = 2 * n ∧ (∀ j, j < n → V.slots[2 * j]? = some (.int (lo8 (f j))) ∧ V.slots[2 * j + 1]? = some (.int (hi8 (f j)))) ∧ ∃ j, j < n ∧ 255 < f j)
theorem Cod.cd {cd : Int32} {n : Nat} {f : Nat → Int32} {V : Cell} (h : Cod cd n f V) : cd = 0 ∨ cd = 1 := h.imp (fun q => q.1) fun q => q.1
theorem Cod.len {cd : Int32} {n : Nat} {f : Nat → Int32} {V : Cell} (h : Cod cd n f V) (hs : V.slots.size < 2 ^ 31) : Int32.ofNat V.slots.size >>> (cd &&& 31) = Int32.ofNat n := by
  rcases h with ⟨rfl, h, -⟩ | ⟨rfl, h, -⟩
  · rw [shr0, h]
  · rw [h, shr1 (by omega)]
/-- **x is a String of the n chars f 0 .. f (n - 1)**, Latin-1 or UTF-16; its array at t has the cell V -/
def Txt (x t : Addr) (V : Cell) (cd : Int32) (n : Nat) (f : Nat → Int32) (U : State) : Prop := Exact "java/lang/String" x U ∧ Has x "java/lang/String" "value" "[B" (.ref t) U ∧ Has x "java/lang/String" "coder" "B" (.int cd) U ∧ XT.Arr .byte t V U ∧ Cod cd n f V ∧ ∀ j, j < n → ¬ f j < 0 ∧ ¬ 65535 < f j
theorem Txt.mv {x t : Addr} {V : Cell} {cd : Int32} {n : Nat} {f : Nat → Int32} {U U' : State} (h : Txt x t V cd n f U) (hal : U.vm.Alike U'.vm) (hh : U'.heap = U.heap) : Txt x t V cd n f U' := ⟨h.1.mv hal hh, h.2.1.mv hal hh, h.2.2.1.mv hal hh, h.2.2.2.1.mv hal hh, h.2.2.2.2⟩
namespace Cdr
def yN : MethodName := ⟨"java/lang/String", "coder", "()B"⟩
abbrev yB : ByteArray := jdk_42_method_152_code
theorem d0 : decode yB 0 = .ok (.getstatic 38, 3) := by decide +kernel
theorem d3 : decode yB 3 = .ok (.ifCond (.eq) 10, 3) := by decide +kernel
theorem d6 : decode yB 6 = .ok (.aload_n 0, 1) := by decide +kernel
theorem d7 : decode yB 7 = .ok (.getfield 15, 3) := by decide +kernel
theorem d10 : decode yB 10 = .ok (.goto 4, 3) := by decide +kernel
theorem d14 : decode yB 14 = .ok (.ireturn, 1) := by decide +kernel
def site : List Cond := [.fieldLink "java/lang/String" 38 "java/lang/String" "COMPACT_STRINGS" "Z", .fieldLink "java/lang/String" 15 "java/lang/String" "coder" "B"]
def tab : Cond := tabOf yN yB 1 (some .byte) site
def P (x : Addr) (cd z : Int32) (args : Array Value) (s : State) : Prop := args = #[.ref x] ∧ Has x "java/lang/String" "coder" "B" (.int cd) s ∧ (cd = 0 ∨ cd = 1) ∧ StaticIs s "java/lang/String" "COMPACT_STRINGS" "Z" (.int z) ∧ ¬ z = 0
def E (cd : Int32) (r : Option Value) (s u : State) : Prop := XT.PureE (some (.int cd)) r s u
theorem law (l : Launch) (x : Addr) (cd z : Int32) : Law l yN 1 0 0 0 yB 1 (some .byte) site (P x cd z) (E cd) [] 0 0 := by
  refine Law.of_walk (plainFor_of_name (by decide +kernel)) (by decide +kernel) (by decide +kernel) (by decide) (fun _ _ h => by rw [h.1]; rfl) (fun _ U U' hal hh h => ⟨h.1, h.2.1.mv hal hh, h.2.2.1, h.2.2.2.1.there hal hh, h.2.2.2.2⟩) (fun r U U' V V' h1 hal h2 h => XT.PureE.mv r U U' V V' h1 hal h2 h) ?_
  intro p e s m args below meth c s₁ X0 hexec hbytes hml hret hlk hnm hown hh0 W hP
  obtain ⟨rfl, hx, hc, s1, hz⟩ := hP
  have c1 : Steps p.tables e below (s₁.setTop (entryFrame m #[.ref x] 1)) (s₁.setTop (mkF m 0 #[.val (.ref x)] [])) := entry rfl
  obtain ⟨T2, X2, q2, st2⟩ := X0.sget hexec hown (wk W (.fieldLink "java/lang/String" 38 "java/lang/String" "COMPACT_STRINGS" "Z")) s1 (fun _ _ h => by rw [hh0]; exact h) (g := (mkF m 0 #[.val (.ref x)] [])) rfl (hb hbytes d0)
  have hh2 := q2.trans hh0
  have c3 : Steps p.tables e below (s₁.setTop (entryFrame m #[.ref x] 1)) (T2.setTop (mkF m 7 #[.val (.ref x)] [.ref x])) := (c1.trans (st2 _ (Steps.refl _))).trans (by
    refine XS.ifNo X2.here hexec rfl (hb hbytes d3) rfl (i0_eq_f hz) ?_
    refine XS.aloadN X2.here hexec rfl (hb hbytes d6) rfl rfl ?_
    exact Steps.refl _)
  obtain ⟨T4, X4, q4, st4⟩ := X2.hget hexec hown (wk W (.fieldLink "java/lang/String" 15 "java/lang/String" "coder" "B")) (hx.mv X2.warmed.alike hh2) (g := (mkF m 7 #[.val (.ref x)] [.ref x])) rfl (rest := []) rfl (hb hbytes d7)
  have c5 : Steps p.tables e below (s₁.setTop (entryFrame m #[.ref x] 1)) (T4.setTop (mkF m 14 #[.val (.ref x)] [.int cd])) := (c3.trans (st4 _ (Steps.refl _))).trans (by
    refine XS.goto X4.here hexec rfl (pc0 := 10) rfl (hb hbytes d10) (by decide) rfl ?_
    exact Steps.refl _)
  exact ⟨T4, some (.int cd), _, _, _, X4, rfl, rfl, rfl, (fun h => by cases h), ⟨rfl, q4.trans hh2⟩, fun fs hl => c5.trans (X4.ireturnOut hexec hret (by rcases hc with rfl | rfl <;> rfl) (Or.inr (Or.inr (Or.inl rfl))) (hb hbytes d14) hl)⟩
end Cdr
namespace Len
def yN : MethodName := ⟨"java/lang/String", "length", "()I"⟩
abbrev yB : ByteArray := jdk_42_method_54_code
theorem d0 : decode yB 0 = .ok (.aload_n 0, 1) := by decide +kernel
theorem d1 : decode yB 1 = .ok (.getfield 9, 3) := by decide +kernel
theorem d4 : decode yB 4 = .ok (.arraylength, 1) := by decide +kernel
theorem d5 : decode yB 5 = .ok (.aload_n 0, 1) := by decide +kernel
theorem d6 : decode yB 6 = .ok (.invokevirtual 335, 3) := by decide +kernel
theorem d9 : decode yB 9 = .ok (.ishr, 1) := by decide +kernel
theorem d10 : decode yB 10 = .ok (.ireturn, 1) := by decide +kernel
def site : List Cond := [.fieldLink "java/lang/String" 9 "java/lang/String" "value" "[B", Cdr.tab] ++ virtW "java/lang/String" 335 "java/lang/String" Cdr.yN Cdr.yN
def tab : Cond := tabOf yN yB 1 (some .int) site
def P (x t : Addr) (V : Cell) (cd : Int32) (n : Nat) (f : Nat → Int32) (z : Int32) (args : Array Value) (s : State) : Prop := args = #[.ref x] ∧ Txt x t V cd n f s ∧ StaticIs s "java/lang/String" "COMPACT_STRINGS" "Z" (.int z) ∧ ¬ z = 0
def E (n : Nat) (r : Option Value) (s u : State) : Prop := XT.PureE (some (.int (Int32.ofNat n))) r s u
/-- length() of a String of n chars, in either coding -/
theorem law (l : Launch) (x t : Addr) (V : Cell) (cd : Int32) (n : Nat) (f : Nat → Int32) (z : Int32) : Law l yN 1 0 1 13 yB 1 (some .int) site (P x t V cd n f z) (E n) [] 0 0 := by
  refine Law.of_walk (plainFor_of_name (by decide +kernel)) (by decide +kernel) (by decide +kernel) (by decide) (fun _ _ h => by rw [h.1]; rfl) (fun _ U U' hal hh h => ⟨h.1, h.2.1.mv hal hh, h.2.2.1.there hal hh, h.2.2.2⟩) (fun r U U' V V' h1 hal h2 h => XT.PureE.mv r U U' V V' h1 hal h2 h) ?_
  intro p e s m args below meth c s₁ X0 hexec hbytes hml hret hlk hnm hown hh0 W hP
  obtain ⟨rfl, hx, s1, hz⟩ := hP
  have v31 := hx.2.2.2.1.2.2.2
  have c1 : Steps p.tables e below (s₁.setTop (entryFrame m #[.ref x] 1)) (s₁.setTop (mkF m 1 #[.val (.ref x)] [.ref x])) := Steps.trans (entry rfl) (by
    show Steps p.tables e below (s₁.setTop (mkF m 0 #[.val (.ref x)] [])) _
    refine XS.aloadN X0.here hexec rfl (hb hbytes d0) rfl rfl ?_
    exact Steps.refl _)
  obtain ⟨T2, X2, q2, st2⟩ := X0.hget hexec hown (wk W (.fieldLink "java/lang/String" 9 "java/lang/String" "value" "[B")) (hx.mv X0.warmed.alike hh0).2.1 (g := (mkF m 1 #[.val (.ref x)] [.ref x])) rfl (rest := []) rfl (hb hbytes d1)
  have hh2 := q2.trans hh0
  have hx2 := hx.mv X2.warmed.alike hh2
  have c3 : Steps p.tables e below (s₁.setTop (entryFrame m #[.ref x] 1)) (T2.setTop (mkF m 6 #[.val (.ref x)] [.ref x, .int (Int32.ofNat V.slots.size)])) := (c1.trans (st2 _ (Steps.refl _))).trans (by
    refine X2.alen hexec hx2.2.2.2.1 rfl rfl (hb hbytes d4) ?_
    refine XS.aloadN X2.here hexec rfl (hb hbytes d5) rfl rfl ?_
    exact Steps.refl _)
  obtain ⟨v4, T4, X4, E4, g4⟩ := X2.callV hexec (Cdr.law l x cd z) hown (wks W (virtW "java/lang/String" 335 "java/lang/String" Cdr.yN Cdr.yN)) rfl (by decide) (wk W Cdr.tab) (W := 1) (Nat.le_of_ble_eq_true rfl) (Nat.le_of_ble_eq_true rfl) (Nat.le_refl _) (Nat.le_refl _) (hx2.1.fc X2.warmed.alike) hx2.1.is (g := (mkF m 6 #[.val (.ref x)] [.ref x, .int (Int32.ofNat V.slots.size)])) rfl (by rw [hml]; rfl) c3 (argsL := []) (rest := [.int (Int32.ofNat V.slots.size)]) rfl rfl (by show 2 * 0 + (1 + 0) ≤ _; decide) (hb hbytes d6) (⟨rfl, hx2.2.2.1, hx.2.2.2.2.1.cd, s1.there X2.warmed.alike hh2, hz⟩)
  obtain ⟨rfl, q4⟩ := E4
  have c5 : Steps p.tables e below (s₁.setTop (entryFrame m #[.ref x] 1)) (T4.setTop (mkF m 10 #[.val (.ref x)] [.int (Int32.ofNat V.slots.size >>> (cd &&& 31))])) := Steps.trans g4 (by
    refine ishr X4.here hexec rfl (hb hbytes d9) rfl ?_
    exact Steps.refl _)
  rw [hx.2.2.2.2.1.len v31] at c5
  exact ⟨T4, some (.int (Int32.ofNat n)), _, _, _, X4, rfl, rfl, rfl, (fun h => by cases h), ⟨rfl, q4.trans hh2⟩, fun fs hl => c5.trans (X4.ireturnOut hexec hret rfl (Or.inl rfl) (hb hbytes d10) hl)⟩
theorem pays {l : Launch} {R : Room} {p : Program} {e : Env} {below : List Frame} {s : State} {sargs : Array Value} {len W : Nat} (x t : Addr) (V : Cell) (cd : Int32) (n : Nat) (f : Nat → Int32) (z : Int32) (htab : tab.before sargs s = true) (hfr : 2 ≤ R.frames) (hlo : W + 25 ≤ R.locals) :
    Back l R p e below s sargs yN len W (fun A₁ a₁ => A₁.cells + 0 ≤ R.cells ∧ A₁.slots + 0 ≤ R.slots ∧ P x t V cd n f z a₁ A₁.U) (fun A₁ _ v₁ B₁ => E n v₁ A₁.U B₁.U ∧ B₁.locs = A₁.locs ++ [] ∧ B₁.cells = A₁.cells + 0 ∧ B₁.slots = A₁.slots + 0) :=
  (law l x t V cd n f z).pays htab hfr (by omega)
end Len
namespace IsL
def yN : MethodName := ⟨"java/lang/String", "isLatin1", "()Z"⟩
abbrev yB : ByteArray := jdk_42_method_154_code
theorem d0 : decode yB 0 = .ok (.getstatic 38, 3) := by decide +kernel
theorem d3 : decode yB 3 = .ok (.ifCond (.eq) 14, 3) := by decide +kernel
theorem d6 : decode yB 6 = .ok (.aload_n 0, 1) := by decide +kernel
theorem d7 : decode yB 7 = .ok (.getfield 15, 3) := by decide +kernel
theorem d10 : decode yB 10 = .ok (.ifCond (.ne) 7, 3) := by decide +kernel
theorem d13 : decode yB 13 = .ok (.iconst 1, 1) := by decide +kernel
theorem d14 : decode yB 14 = .ok (.goto 4, 3) := by decide +kernel
theorem d17 : decode yB 17 = .ok (.iconst 0, 1) := by decide +kernel
theorem d18 : decode yB 18 = .ok (.ireturn, 1) := by decide +kernel
def site : List Cond := [.fieldLink "java/lang/String" 38 "java/lang/String" "COMPACT_STRINGS" "Z", .fieldLink "java/lang/String" 15 "java/lang/String" "coder" "B"]
def tab : Cond := tabOf yN yB 1 (some .boolean) site
def P (x : Addr) (cd z : Int32) (args : Array Value) (s : State) : Prop := args = #[.ref x] ∧ Has x "java/lang/String" "coder" "B" (.int cd) s ∧ (cd = 0 ∨ cd = 1) ∧ StaticIs s "java/lang/String" "COMPACT_STRINGS" "Z" (.int z) ∧ ¬ z = 0
def E (cd : Int32) (r : Option Value) (s u : State) : Prop := XT.PureE (some (.int (1 - cd))) r s u
theorem law (l : Launch) (x : Addr) (cd z : Int32) : Law l yN 1 0 0 0 yB 1 (some .boolean) site (P x cd z) (E cd) [] 0 0 := by
  refine Law.of_walk (plainFor_of_name (by decide +kernel)) (by decide +kernel) (by decide +kernel) (by decide) (fun _ _ h => by rw [h.1]; rfl) (fun _ U U' hal hh h => ⟨h.1, h.2.1.mv hal hh, h.2.2.1, h.2.2.2.1.there hal hh, h.2.2.2.2⟩) (fun r U U' V V' h1 hal h2 h => XT.PureE.mv r U U' V V' h1 hal h2 h) ?_
  intro p e s m args below meth c s₁ X0 hexec hbytes hml hret hlk hnm hown hh0 W hP
  obtain ⟨rfl, hx, hc, s1, hz⟩ := hP
  have c1 : Steps p.tables e below (s₁.setTop (entryFrame m #[.ref x] 1)) (s₁.setTop (mkF m 0 #[.val (.ref x)] [])) := entry rfl
  obtain ⟨T2, X2, q2, st2⟩ := X0.sget hexec hown (wk W (.fieldLink "java/lang/String" 38 "java/lang/String" "COMPACT_STRINGS" "Z")) s1 (fun _ _ h => by rw [hh0]; exact h) (g := (mkF m 0 #[.val (.ref x)] [])) rfl (hb hbytes d0)
  have hh2 := q2.trans hh0
  have c3 : Steps p.tables e below (s₁.setTop (entryFrame m #[.ref x] 1)) (T2.setTop (mkF m 7 #[.val (.ref x)] [.ref x])) := (c1.trans (st2 _ (Steps.refl _))).trans (by
    refine XS.ifNo X2.here hexec rfl (hb hbytes d3) rfl (i0_eq_f hz) ?_
    refine XS.aloadN X2.here hexec rfl (hb hbytes d6) rfl rfl ?_
    exact Steps.refl _)
  obtain ⟨T4, X4, q4, st4⟩ := X2.hget hexec hown (wk W (.fieldLink "java/lang/String" 15 "java/lang/String" "coder" "B")) (hx.mv X2.warmed.alike hh2) (g := (mkF m 7 #[.val (.ref x)] [.ref x])) rfl (rest := []) rfl (hb hbytes d7)
  have c5 : Steps p.tables e below (s₁.setTop (entryFrame m #[.ref x] 1)) (T4.setTop (mkF m 10 #[.val (.ref x)] [.int cd])) := c3.trans (st4 _ (Steps.refl _))
  have c6 : Steps p.tables e below (s₁.setTop (entryFrame m #[.ref x] 1)) (T4.setTop (mkF m 18 #[.val (.ref x)] [.int (1 - cd)])) := by
    rcases hc with rfl | rfl
    · exact c5.trans (by
        refine XS.ifNo X4.here hexec rfl (hb hbytes d10) rfl (i0_ne_f rfl) ?_
        refine iconstV X4.here hexec rfl 1 (hb hbytes d13) (by decide) ?_
        refine XS.goto X4.here hexec rfl (pc0 := 14) rfl (hb hbytes d14) (by decide) rfl ?_
        exact Steps.refl _)
    · exact c5.trans (by
        refine XS.ifYes X4.here hexec rfl (pc0 := 10) rfl (hb hbytes d10) rfl (i0_ne_t (by decide)) (by decide) rfl ?_
        refine iconstV X4.here hexec rfl 0 (hb hbytes d17) (by decide) ?_
        exact Steps.refl _)
  exact ⟨T4, some (.int (1 - cd)), _, _, _, X4, rfl, rfl, rfl, (fun h => by cases h), ⟨rfl, q4.trans hh2⟩, fun fs hl => c6.trans (X4.ireturnOut hexec hret (by rcases hc with rfl | rfl <;> rfl) (Or.inr (Or.inl rfl)) (hb hbytes d18) hl)⟩
end IsL
namespace LChA
def yN : MethodName := ⟨"java/lang/StringLatin1", "charAt", "([BI)C"⟩
abbrev yB : ByteArray := jdk_43_method_2_code
theorem d0 : decode yB 0 = .ok (.iload_n 1, 1) := by decide +kernel
theorem d1 : decode yB 1 = .ok (.aload_n 0, 1) := by decide +kernel
theorem d2 : decode yB 2 = .ok (.arraylength, 1) := by decide +kernel
theorem d3 : decode yB 3 = .ok (.invokestatic 9, 3) := by decide +kernel
theorem d6 : decode yB 6 = .ok (.aload_n 0, 1) := by decide +kernel
theorem d7 : decode yB 7 = .ok (.iload_n 1, 1) := by decide +kernel
theorem d8 : decode yB 8 = .ok (.baload, 1) := by decide +kernel
theorem d9 : decode yB 9 = .ok (.sipush 255, 3) := by decide +kernel
theorem d12 : decode yB 12 = .ok (.iand, 1) := by decide +kernel
theorem d13 : decode yB 13 = .ok (.i2c, 1) := by decide +kernel
theorem d14 : decode yB 14 = .ok (.ireturn, 1) := by decide +kernel
def site : List Cond := [JO.Str_checkIndex.tab] ++ staticW "java/lang/StringLatin1" 9 JO.Str_checkIndex.yN
def tab : Cond := tabOf yN yB 2 (some .char) site
def P (t : Addr) (V : Cell) (i : Nat) (u : Int32) (fm : Value) (args : Array Value) (s : State) : Prop := args = #[.ref t, .int (Int32.ofNat i)] ∧ XT.Arr .byte t V s ∧ V.slots[i]? = some (.int u) ∧ (StaticIs s "jdk/internal/util/Preconditions" "SIOOBE_FORMATTER" "Ljava/util/function/BiFunction;" fm ∧ fm.isRef = true)
def E (u : Int32) (r : Option Value) (s w : State) : Prop := XT.PureE (some (.int (chr8 u))) r s w
theorem law (l : Launch) (t : Addr) (V : Cell) (i : Nat) (u : Int32) (fm : Value) : Law l yN 2 2 2 27 yB 2 (some .char) site (P t V i u fm) (E u) [] 0 0 := by
  refine Law.of_walk (plainFor_of_name (by decide +kernel)) (by decide +kernel) (by decide +kernel) (by decide) (fun _ _ h => by rw [h.1]; rfl) (fun _ U U' hal hh h => ⟨h.1, h.2.1.mv hal hh, h.2.2.1, h.2.2.2.1.there hal hh, h.2.2.2.2⟩) (fun r U U' V V' h1 hal h2 h => XT.PureE.mv r U U' V V' h1 hal h2 h) ?_
  intro p e s m args below meth c s₁ X0 hexec hbytes hml hret hlk hnm hown hh0 W hP
  obtain ⟨rfl, hV, hu, s1, rf⟩ := hP
  have v31 := hV.2.2.2
  have hi : i < V.slots.size := (Array.getElem?_eq_some_iff.mp hu).1
  have c1 : Steps p.tables e below (s₁.setTop (entryFrame m #[.ref t, .int (Int32.ofNat i)] 2)) (s₁.setTop (mkF m 0 #[.val (.ref t), .val (.int (Int32.ofNat i))] [])) := entry rfl
  have c2 : Steps p.tables e below (s₁.setTop (entryFrame m #[.ref t, .int (Int32.ofNat i)] 2)) (s₁.setTop (mkF m 3 #[.val (.ref t), .val (.int (Int32.ofNat i))] [.int (Int32.ofNat V.slots.size), .int (Int32.ofNat i)])) := c1.trans (by
    refine XS.iloadN X0.here hexec rfl (hb hbytes d0) rfl ?_
    refine XS.aloadN X0.here hexec rfl (hb hbytes d1) rfl rfl ?_
    refine X0.alen hexec (hV.mv X0.warmed.alike hh0) rfl rfl (hb hbytes d2) ?_
    exact Steps.refl _)
  obtain ⟨v3, T3, X3, E3, g3⟩ := X0.callS hexec (JO.Str_checkIndex.law l (Int32.ofNat i) (Int32.ofNat V.slots.size) fm) hown (wks W (staticW "java/lang/StringLatin1" 9 JO.Str_checkIndex.yN)) (wk W JO.Str_checkIndex.tab) (W := 0) (Nat.le_of_ble_eq_true rfl) (Nat.le_of_ble_eq_true rfl) (Nat.le_refl _) (Nat.le_refl _) (g := (mkF m 3 #[.val (.ref t), .val (.int (Int32.ofNat i))] [.int (Int32.ofNat V.slots.size), .int (Int32.ofNat i)])) rfl (by rw [hml]; rfl) c2 (argsL := [.int (Int32.ofNat i), .int (Int32.ofNat V.slots.size)]) (rest := []) rfl rfl (by show 2 * 0 + 0 ≤ _; decide) (hb hbytes d3) (⟨rfl, rf, s1.there X0.warmed.alike hh0, Int32.ofNat_not_neg (by omega), lt32 v31 hi⟩)
  obtain ⟨rfl, q3⟩ := E3
  have hh3 := q3.trans hh0
  have c4 : Steps p.tables e below (s₁.setTop (entryFrame m #[.ref t, .int (Int32.ofNat i)] 2)) (T3.setTop (mkF m 14 #[.val (.ref t), .val (.int (Int32.ofNat i))] [.int (chr8 u)])) := Steps.trans g3 (by
    refine XS.aloadN X3.here hexec rfl (hb hbytes d6) rfl rfl ?_
    refine XS.iloadN X3.here hexec rfl (hb hbytes d7) rfl ?_
    refine X3.aget hexec (hV.mv X3.warmed.alike hh3) rfl hu rfl rfl (hb hbytes d8) ?_
    refine sipushV X3.here hexec rfl 255 (hb hbytes d9) (by decide) ?_
    refine XS.iand X3.here hexec rfl (hb hbytes d12) rfl ?_
    refine i2c X3.here hexec rfl (hb hbytes d13) rfl ?_
    exact Steps.refl _)
  exact ⟨T3, some (.int (chr8 u)), _, _, _, X3, rfl, rfl, rfl, (fun h => by cases h), ⟨rfl, hh3⟩, fun fs hl => c4.trans (X3.ireturnOut hexec hret (narrow_c _) (Or.inr (Or.inr (Or.inr (Or.inl rfl)))) (hb hbytes d14) hl)⟩
end LChA
end StrChars
namespace StrChars.Road
open Jvm Sem ClassFile Op Lib Jvm.Stand Jvm.Free Jvm.Free.XT
open Jvm.Lib.Cold (StaticIs)
theorem consq {a : Array Value} {s : State} {c : Jvm.Cond} {L : List Jvm.Cond} (h0 : c.before a s = true) (h : ∀ w ∈ L, w.before a s = true) : ∀ w ∈ c :: L, w.before a s = true := fun w hw => (List.mem_cons.mp hw).elim (fun e => e ▸ h0) (h w)
/-- the words of String.length(), either coding -/
abbrev wordsLen : List Jvm.Cond := [.code Len.yN Len.yB 1 (some .int), .initialized ST, .fieldLink ST 9 ST "value" "[B", .fieldLink ST 38 ST "COMPACT_STRINGS" "Z", .fieldLink ST 15 ST "coder" "B", .code Cdr.yN Cdr.yB 1 (some .byte), .methodLink ST 335 Cdr.yN, .declares Cdr.yN, .selects ST Cdr.yN Cdr.yN, .instanceMethod Cdr.yN]
theorem tabLen_of {a : Array Value} {s : State} (h : ∀ w ∈ wordsLen, w.before a s = true) : Len.tab.before a s = true := by
  have hc : Cdr.tab.before a s = true := unparts (wk h (.code Cdr.yN Cdr.yB 1 (some .byte))) (wks h (.initialized Cdr.yN.cls :: Cdr.site))
  have q := consq hc h
  exact unparts (wk q (.code Len.yN Len.yB 1 (some .int))) (wks q (.initialized Len.yN.cls :: Len.site))
theorem movedLen {Z s : State} {a0 args : Array Value} (hZ : Z.Warmed39 s.vm) (hw : ∀ d ∈ wordsLen, d.before a0 Z = true) : ∀ d ∈ wordsLen, d.before args s = true := fun d hd => by
  have q := hw d hd
  have t : ∀ d ∈ wordsLen, d = .arrayClass .byte ∨ (d.onTables && d.keepsFace) = true := by decide +kernel
  rcases t d hd with rfl | t
  · exact RoadKit.mvA hZ q
  · exact RoadKit.mv hZ q t
/-- the bytes of the chars cs, low before high -/
def wideBytes : List Int32 → List Value
  | [] => []
  | c :: cs => .int (lo8 c) :: .int (hi8 c) :: wideBytes cs
theorem wide_lo (d : Value) : ∀ (cs : List Int32) (j : Nat), j < cs.length → (wideBytes cs).getD (2 * j) d = .int (lo8 (cs.getD j 0))
  | [], j, h => absurd h (Nat.not_lt_zero j)
  | c :: cs, 0, _ => rfl
  | c :: cs, j + 1, h => by
    have q := wide_lo d cs j (by simpa using h)
    rw [show 2 * (j + 1) = 2 * j + 1 + 1 from by omega]
    simpa [wideBytes] using q
theorem wide_hi (d : Value) : ∀ (cs : List Int32) (j : Nat), j < cs.length → (wideBytes cs).getD (2 * j + 1) d = .int (hi8 (cs.getD j 0))
  | [], j, h => absurd h (Nat.not_lt_zero j)
  | c :: cs, 0, _ => rfl
  | c :: cs, j + 1, h => by
    have q := wide_hi d cs j (by simpa using h)
    rw [show 2 * (j + 1) + 1 = 2 * j + 1 + 1 + 1 from by omega]
    simpa [wideBytes] using q
theorem low_at (d : Value) (cs : List Int32) (j : Nat) (h : j < cs.length) : (cs.map fun c => Value.int (lo8 c)).getD j d = .int (lo8 (cs.getD j 0)) := by
  simp [List.getD_eq_getElem?_getD, h]
/-- an array of N2 bytes vs codes the chars cs by the coder cd -/
def CodA (cs : List Int32) (cd N2 : Int32) (vs : List Value) : Prop := (cd = 0 ∧ N2 = Int32.ofNat cs.length ∧ vs = (cs.map fun c => Value.int (lo8 c)) ∧ ∀ c ∈ cs, ¬ 255 < c) ∨ (cd = 1 ∧ N2 = Int32.ofNat (2 * cs.length) ∧ vs = wideBytes cs ∧ ∃ c ∈ cs, 255 < c)
theorem CodA.cod {cs : List Int32} {cd N2 : Int32} {vs : List Value} {V : Cell} (h : CodA cs cd N2 vs) (hn : 2 * cs.length < 2 ^ 31) (hs : V.slots.size = N2.toNatClampNeg) (hv : RoadKit.Has V vs (.int 0)) : Cod cd cs.length (fun j => cs.getD j 0) V := by
  rcases h with ⟨rfl, rfl, rfl, h⟩ | ⟨rfl, rfl, rfl, c, hc, hw⟩
  · rw [n32 (by omega)] at hs
    exact Or.inl ⟨rfl, hs, fun j hj => ⟨by rw [hv j (by omega), low_at _ _ _ hj], by
      have e : cs.getD j 0 = cs[j] := by simp [List.getD_eq_getElem?_getD, hj]
      show ¬ 255 < cs.getD j 0
      rw [e]; exact h _ (List.getElem_mem _)⟩⟩
  · rw [n32 (by omega)] at hs
    obtain ⟨j, hj, rfl⟩ := List.getElem_of_mem hc
    exact Or.inr ⟨rfl, hs, fun j hj => ⟨by rw [hv _ (by omega), wide_lo _ _ _ hj], by rw [hv _ (by omega), wide_hi _ _ _ hj]⟩, j, hj, by
      have e : cs.getD j 0 = cs[j] := by simp [List.getD_eq_getElem?_getD, hj]
      show 255 < cs.getD j 0
      rw [e]; exact hw⟩
/-- an object of exactly java/lang/String, its two fields found: as the laws ask it -/
theorem strObj {Z U : State} {a0 : Array Value} {kI : Nat} (wi : (Jvm.Cond.instantiable ST kI).before a0 Z = true) (al : Z.vm.Alike U.vm) {x : Addr} {v0 c0 : Value} (E : RoadKit.Exa Z U.heap x ST) (V : RoadKit.Fld Z U.heap x ST "value" "[B" v0) (C : RoadKit.Fld Z U.heap x ST "coder" "B" c0) :
    ∃ (D : Cell) (fV fC : Field), Blank ST x D U ∧ Found ST "value" "[B" fV U ∧ Found ST "coder" "B" fC U ∧ D.slots[fV.slot]? = some v0 ∧ D.slots[fC.slot]? = some c0 ∧ RoadKit.slotOf Z ST "value" "[B" = fV.slot ∧ RoadKit.slotOf Z ST "coder" "B" = fC.slot := by
  obtain ⟨D, cfV, kV, iV, fV, hD, gV, stV, knV, obV, asV, slV⟩ := V
  obtain ⟨D', cfC, kC, iC, fC, hD', gC, stC, -, -, asC, slC⟩ := C
  cases hD.symm.trans hD'
  obtain ⟨D2, kD, e1, e2, e3, e4, e5⟩ := E
  cases hD.symm.trans e1
  obtain ⟨c2, k2, i1, i2, i3, -⟩ := Cond.instantiable_spec wi
  cases e2.symm.trans i1
  cases e3.symm.trans i2
  obtain ⟨kU, u1, u2⟩ := al.2.2 _ _ e3
  exact ⟨D, fV, fC, ⟨hD, ⟨knV, fun q hq => by rw [hq] at obV; cases obV⟩, by rw [al.findClass]; exact e2, kU, u1, by rw [u2]; exact i3, by rw [u2]; exact e5 i3⟩, ⟨SBG.found_only al ⟨cfV, kV, iV, gV⟩, stV⟩, ⟨SBG.found_only al ⟨cfC, kC, iC, gC⟩, stC⟩, slV, slC, by simp [RoadKit.slotOf, gV], by simp [RoadKit.slotOf, gC]⟩
theorem sta_is {Z U : State} (al : Z.vm.Alike U.vm) {C n d : String} {v : Value} (S : RoadKit.Sta Z U.heap C n d v) : StaticIs U C n d v := by
  obtain ⟨cfS, iS, kS, fS, st, cS, t1, t2, t3, t4, t5, t6, t7⟩ := S
  exact StaticIs.there (s := { Z with heap := U.heap }) ⟨cfS, iS, kS, fS, st, cS, t1, t2, t3, t4, t5, (fun q => by rw [q] at t6; cases t6), t7⟩ al rfl
/-- **length() OF SUCH A STRING** -/
theorem lenW {p : Program} {l : Launch} {e : Env} {R : Room} {s : State} {args : Array Value} {below : List Frame} {len W : Nat} {Z : State} {a0 : Array Value} {h : Heap} (hZ : Z.Warmed39 s.vm) (hw : ∀ d ∈ wordsLen, d.before a0 Z = true) {kI : Nat} (wi : (Jvm.Cond.instantiable ST kI).before a0 Z = true)
    {x t : Addr} {kb : ClassId} {cs : List Int32} {cd N2 z : Int32} {vs : List Value} (E : RoadKit.Exa Z h x ST) (V : RoadKit.Fld Z h x ST "value" "[B" (.ref t)) (C : RoadKit.Fld Z h x ST "coder" "B" (.int cd)) (K : RoadKit.Arv Z h t kb .byte N2 vs (.int 0)) (hc : CodA cs cd N2 vs) (hb : ∀ c ∈ cs, ¬ c < 0 ∧ ¬ (65535 : Int32) < c)
    (S : RoadKit.Sta Z h ST "COMPACT_STRINGS" "Z" (.int z)) (hz : ¬ z = 0) (l2 : cs.length ≤ 4000) (hfr : 2 ≤ R.frames) (hlo : W + 25 ≤ R.locals) :
    Back l R p e below s args (⟨"java/lang/String", "length", "()I"⟩ : MethodName) len W (fun P a => a = #[.ref x] ∧ P.U.heap = h ∧ P.cells + 0 ≤ R.cells ∧ P.slots + 0 ≤ R.slots)
      (fun P _ v B => ∃ L, (v = some (.int (Int32.ofNat cs.length)) ∧ L = [] ∧ B.U.heap = h) ∧ B.locs = P.locs ++ L ∧ B.cells = P.cells + 0 ∧ B.slots = P.slots + 0) := by
  obtain ⟨A, K1, K2, K3, K4, K5, K6⟩ := K
  have hcod := hc.cod (by omega) K3 K5
  intro m meth c P g ig mk a X hg hsize hdg hW hn hp'
  obtain ⟨rfl, rfl, r1, r2⟩ := hp'
  have al : Z.vm.Alike P.U.vm := hZ.alike.trans X.warmed.alike
  obtain ⟨D, fV, fC, hB, F1, F2, g1, g2, -, -⟩ := strObj wi al E V C
  have hx : Txt x t A cd cs.length (fun j => cs.getD j 0) P.U := ⟨⟨_, hB.2.2.1, D, hB.1, rfl, by cases q : D.vm <;> first | rfl | exact absurd q (hB.2.1.2 _)⟩, Has.of hB F1 g1, Has.of hB F2 g2, ⟨K1.1, State.isArrayOf_alike al K1.2.1, K1.2.2, by rcases hcod with ⟨-, q, -⟩ | ⟨-, q, -⟩ <;> omega⟩, hcod, fun j hj => by
    have e : cs.getD j 0 = cs[j] := by simp [List.getD_eq_getElem?_getD, hj]
    show ¬ cs.getD j 0 < 0 ∧ ¬ 65535 < cs.getD j 0
    rw [e]; exact hb _ (List.getElem_mem _)⟩
  obtain ⟨v, B, X', ⟨⟨hv, hh⟩, hl, hk, hs⟩, st⟩ := Len.pays x t A cd cs.length (fun j => cs.getD j 0) z (tabLen_of (movedLen hZ hw)) hfr hlo m meth c P g ig mk _ X hg hsize hdg hW hn ⟨r1, r2, rfl, hx, sta_is al S, hz⟩
  exact ⟨v, B, X', ⟨[], ⟨hv, rfl, hh⟩, hl, hk, hs⟩, st⟩
end StrChars.Road
namespace StrChars
open Jvm Sem ClassFile Op Lib Jvm.Stand Jvm.Free.XT Jvm.Free.ALB Jvm.Free.JM Jvm.Free
open Jvm.Lib.Cold (StaticIs)
/-- what place i of a byte[]'s cell holds -/
def yv (A : Cell) (i : Nat) : Int32 := match A.slots[i]? with | some (.int x) => x | _ => 0
theorem yv_get {a : Addr} {A : Cell} {U : State} (h : XT.Arr .byte a A U) (ht : Typed .byte A) {i : Nat} (hi : i < A.slots.size) : A.slots[i]? = some (.int (yv A i)) := by
  have e := Array.getElem?_eq_getElem hi
  have f := ht i _ e
  unfold yv; rw [e]
  generalize A.slots[i] = v at f
  cases v <;> simp [fits] at f ⊢
/-- the two arrays are equal, place for place -/
def EqC (A B : Cell) : Prop := A.slots.size = B.slots.size ∧ ∀ i, i < A.slots.size → yv A i = yv B i
/-- a boolean that says whether p -/
def Says01 (q : Prop) (r : Option Value) (s u : State) : Prop := ∃ v : Int32, r = some (.int v) ∧ u.heap = s.heap ∧ ((v = 1 ∧ q) ∨ (v = 0 ∧ ¬ q))
theorem Says01.mv {q : Prop} : ∀ r (U U' V V' : State), U'.heap = U.heap → V.vm.Alike V'.vm → V'.heap = V.heap → Says01 q r U V → Says01 q r U' V' :=
  fun r U U' V V' h1 _ h2 ⟨v, a, b, c⟩ => ⟨v, a, by rw [h1, h2]; exact b, c⟩
namespace LEq
def yN : MethodName := ⟨"java/lang/StringLatin1", "equals", "([B[B)Z"⟩
abbrev yB : ByteArray := jdk_43_method_13_code
theorem d0 : decode yB 0 = .ok (.aload_n 0, 1) := by decide +kernel
theorem d1 : decode yB 1 = .ok (.arraylength, 1) := by decide +kernel
theorem d2 : decode yB 2 = .ok (.aload_n 1, 1) := by decide +kernel
theorem d3 : decode yB 3 = .ok (.arraylength, 1) := by decide +kernel
theorem d4 : decode yB 4 = .ok (.if_icmp (.ne) 30, 3) := by decide +kernel
theorem d7 : decode yB 7 = .ok (.iconst 0, 1) := by decide +kernel
theorem d8 : decode yB 8 = .ok (.istore_n 2, 1) := by decide +kernel
theorem d9 : decode yB 9 = .ok (.iload_n 2, 1) := by decide +kernel
theorem d10 : decode yB 10 = .ok (.aload_n 0, 1) := by decide +kernel
theorem d11 : decode yB 11 = .ok (.arraylength, 1) := by decide +kernel
theorem d12 : decode yB 12 = .ok (.if_icmp (.ge) 20, 3) := by decide +kernel
theorem d15 : decode yB 15 = .ok (.aload_n 0, 1) := by decide +kernel
theorem d16 : decode yB 16 = .ok (.iload_n 2, 1) := by decide +kernel
theorem d17 : decode yB 17 = .ok (.baload, 1) := by decide +kernel
theorem d18 : decode yB 18 = .ok (.aload_n 1, 1) := by decide +kernel
theorem d19 : decode yB 19 = .ok (.iload_n 2, 1) := by decide +kernel
theorem d20 : decode yB 20 = .ok (.baload, 1) := by decide +kernel
theorem d21 : decode yB 21 = .ok (.if_icmp (.eq) 5, 3) := by decide +kernel
theorem d24 : decode yB 24 = .ok (.iconst 0, 1) := by decide +kernel
theorem d25 : decode yB 25 = .ok (.ireturn, 1) := by decide +kernel
theorem d26 : decode yB 26 = .ok (.iinc 2 1, 3) := by decide +kernel
theorem d29 : decode yB 29 = .ok (.goto (-20), 3) := by decide +kernel
theorem d32 : decode yB 32 = .ok (.iconst 1, 1) := by decide +kernel
theorem d33 : decode yB 33 = .ok (.ireturn, 1) := by decide +kernel
theorem d34 : decode yB 34 = .ok (.iconst 0, 1) := by decide +kernel
theorem d35 : decode yB 35 = .ok (.ireturn, 1) := by decide +kernel
def site : List Cond := []
def tab : Cond := tabOf yN yB 3 (some .boolean) site
def P (a : Addr) (A : Cell) (b : Addr) (B : Cell) (args : Array Value) (s : State) : Prop := args = #[.ref a, .ref b] ∧ XT.Arr .byte a A s ∧ Typed .byte A ∧ XT.Arr .byte b B s ∧ Typed .byte B
/-- whether two byte[] are equal, place for place -/
theorem law (l : Launch) (a : Addr) (A : Cell) (b : Addr) (B : Cell) : Law l yN 2 2 0 0 yB 3 (some .boolean) site (P a A b B) (Says01 (EqC A B)) [] 0 0 := by
  refine Law.of_walk (plainFor_of_name (by decide +kernel)) (by decide +kernel) (by decide +kernel) (by decide) (fun _ _ h => by rw [h.1]; rfl) (fun _ U U' hal hh h => ⟨h.1, h.2.1.mv hal hh, h.2.2.1, h.2.2.2.1.mv hal hh, h.2.2.2.2⟩) (fun r U U' V V' h1 hal h2 h => Says01.mv r U U' V V' h1 hal h2 h) ?_
  intro p e s m args below meth c s₁ X0 hexec hbytes hml hret hlk hnm hown hh0 W hP
  obtain ⟨rfl, hA, tA, hB, tB⟩ := hP
  have a31 := hA.2.2.2
  have b31 := hB.2.2.2
  have hA0 := hA.mv X0.warmed.alike hh0
  have hB0 := hB.mv X0.warmed.alike hh0
  have c1 : Steps p.tables e below (s₁.setTop (entryFrame m #[.ref a, .ref b] 3)) (s₁.setTop (mkF m 0 #[.val (.ref a), .val (.ref b), .unset] [])) := entry rfl
  have c2 : Steps p.tables e below (s₁.setTop (entryFrame m #[.ref a, .ref b] 3)) (s₁.setTop (mkF m 4 #[.val (.ref a), .val (.ref b), .unset] [.int (Int32.ofNat B.slots.size), .int (Int32.ofNat A.slots.size)])) := c1.trans (by
    refine XS.aloadN X0.here hexec rfl (hb hbytes d0) rfl rfl ?_
    refine X0.alen hexec hA0 rfl rfl (hb hbytes d1) ?_
    refine XS.aloadN X0.here hexec rfl (hb hbytes d2) rfl rfl ?_
    refine X0.alen hexec hB0 rfl rfl (hb hbytes d3) ?_
    exact Steps.refl _)
  by_cases hs : A.slots.size = B.slots.size
  · have c3 : Steps p.tables e below (s₁.setTop (entryFrame m #[.ref a, .ref b] 3)) (s₁.setTop (mkF m 9 #[.val (.ref a), .val (.ref b), .val (.int 0)] [])) := c2.trans (by
      refine XS.icmpNo X0.here hexec rfl (hb hbytes d4) rfl (ii_ne_f (by rw [hs])) ?_
      refine iconstV X0.here hexec rfl 0 (hb hbytes d7) (by decide) ?_
      refine XS.istoreN X0.here hexec rfl (hb hbytes d8) rfl rfl ?_
      exact Steps.refl _)
    have loop : ∀ (r i : Nat), i + r = A.slots.size → (∀ j, j < i → yv A j = yv B j) → Steps p.tables e below (s₁.setTop (entryFrame m #[.ref a, .ref b] 3)) (s₁.setTop (mkF m 9 #[.val (.ref a), .val (.ref b), .val (.int (Int32.ofNat i))] [])) → ∃ (pc : Nat) (Ls : Array Slot) (v : Int32), (pc = 25 ∨ pc = 33) ∧ ((v = 1 ∧ EqC A B) ∨ (v = 0 ∧ ¬ EqC A B)) ∧ Steps p.tables e below (s₁.setTop (entryFrame m #[.ref a, .ref b] 3)) (s₁.setTop (mkF m pc Ls [.int v])) := by
      intro r
      induction r with
      | zero =>
        intro i hi he cl
        exact ⟨33, _, 1, Or.inr rfl, Or.inl ⟨rfl, hs, fun j hj => he j (by omega)⟩, cl.trans (by
          refine XS.iloadN X0.here hexec rfl (hb hbytes d9) rfl ?_
          refine XS.aloadN X0.here hexec rfl (hb hbytes d10) rfl rfl ?_
          refine X0.alen hexec hA0 rfl rfl (hb hbytes d11) ?_
          refine XS.icmpYes X0.here hexec rfl (pc0 := 12) rfl (hb hbytes d12) rfl (ii_ge_t (nlt32 (by omega) (by omega))) (by decide) rfl ?_
          refine iconstV X0.here hexec rfl 1 (hb hbytes d32) (by decide) ?_
          exact Steps.refl _)⟩
      | succ r ih =>
        intro i hi he cl
        have c4 : Steps p.tables e below (s₁.setTop (entryFrame m #[.ref a, .ref b] 3)) (s₁.setTop (mkF m 21 #[.val (.ref a), .val (.ref b), .val (.int (Int32.ofNat i))] [.int (yv B i), .int (yv A i)])) := cl.trans (by
          refine XS.iloadN X0.here hexec rfl (hb hbytes d9) rfl ?_
          refine XS.aloadN X0.here hexec rfl (hb hbytes d10) rfl rfl ?_
          refine X0.alen hexec hA0 rfl rfl (hb hbytes d11) ?_
          refine XS.icmpNo X0.here hexec rfl (hb hbytes d12) rfl (ii_ge_f (lt32 (by omega) (by omega))) ?_
          refine XS.aloadN X0.here hexec rfl (hb hbytes d15) rfl rfl ?_
          refine XS.iloadN X0.here hexec rfl (hb hbytes d16) rfl ?_
          refine X0.aget hexec hA0 rfl (yv_get hA tA (i := i) (by omega)) rfl rfl (hb hbytes d17) ?_
          refine XS.aloadN X0.here hexec rfl (hb hbytes d18) rfl rfl ?_
          refine XS.iloadN X0.here hexec rfl (hb hbytes d19) rfl ?_
          refine X0.aget hexec hB0 rfl (yv_get hB tB (i := i) (by omega)) rfl rfl (hb hbytes d20) ?_
          exact Steps.refl _)
        by_cases hv : yv A i = yv B i
        · have c5 : Steps p.tables e below (s₁.setTop (entryFrame m #[.ref a, .ref b] 3)) (s₁.setTop (mkF m 9 #[.val (.ref a), .val (.ref b), .val (.int (Int32.ofNat i + 1))] [])) := c4.trans (by
            refine XS.icmpYes X0.here hexec rfl (pc0 := 21) rfl (hb hbytes d21) rfl (ii_eq_t hv) (by decide) rfl ?_
            refine iincV X0.here hexec rfl 1 (hb hbytes d26) (by decide) rfl rfl ?_
            refine XS.goto X0.here hexec rfl (pc0 := 29) rfl (hb hbytes d29) (by decide) rfl ?_
            exact Steps.refl _)
          rw [succ32] at c5
          exact ih (i + 1) (by omega) (fun j hj => by
            by_cases e : j = i
            · rw [e]; exact hv
            · exact he j (by omega)) c5
        · exact ⟨25, _, 0, Or.inl rfl, Or.inr ⟨rfl, fun q => hv (q.2 i (by omega))⟩, c4.trans (by
            refine XS.icmpNo X0.here hexec rfl (hb hbytes d21) rfl (ii_eq_f hv) ?_
            refine iconstV X0.here hexec rfl 0 (hb hbytes d24) (by decide) ?_
            exact Steps.refl _)⟩
    obtain ⟨pc, Ls, v, hpc, hv, cz⟩ := loop A.slots.size 0 (by omega) (fun j hj => absurd hj (Nat.not_lt_zero j)) c3
    have nv : narrow .boolean (.int v) = .int v := by rcases hv with ⟨rfl, -⟩ | ⟨rfl, -⟩ <;> rfl
    rcases hpc with rfl | rfl
    · exact ⟨s₁, some (.int v), _, _, _, X0, rfl, rfl, rfl, (fun h => by cases h), ⟨v, rfl, hh0, hv⟩, fun fs hl => cz.trans (X0.ireturnOut hexec hret nv (Or.inr (Or.inl rfl)) (hb hbytes d25) hl)⟩
    · exact ⟨s₁, some (.int v), _, _, _, X0, rfl, rfl, rfl, (fun h => by cases h), ⟨v, rfl, hh0, hv⟩, fun fs hl => cz.trans (X0.ireturnOut hexec hret nv (Or.inr (Or.inl rfl)) (hb hbytes d33) hl)⟩
  · have c3 : Steps p.tables e below (s₁.setTop (entryFrame m #[.ref a, .ref b] 3)) (s₁.setTop (mkF m 35 #[.val (.ref a), .val (.ref b), .unset] [.int 0])) := c2.trans (by
      refine XS.icmpYes X0.here hexec rfl (pc0 := 4) rfl (hb hbytes d4) rfl (ii_ne_t (ne32 a31 b31 hs)) (by decide) rfl ?_
      refine iconstV X0.here hexec rfl 0 (hb hbytes d34) (by decide) ?_
      exact Steps.refl _)
    exact ⟨s₁, some (.int 0), _, _, _, X0, rfl, rfl, rfl, (fun h => by cases h), ⟨0, rfl, hh0, Or.inr ⟨rfl, fun q => hs q.1⟩⟩, fun fs hl => c3.trans (X0.ireturnOut hexec hret rfl (Or.inr (Or.inl rfl)) (hb hbytes d35) hl)⟩
end LEq
theorem Cod.ty {cd : Int32} {n : Nat} {f : Nat → Int32} {V : Cell} (h : Cod cd n f V) : Typed .byte V := fun i v hv => by
  have hi : i < V.slots.size := (Array.getElem?_eq_some_iff.mp hv).1
  rcases h with ⟨-, k1, k2⟩ | ⟨-, k1, k2, -⟩
  · rw [(k2 i (by omega)).1] at hv; cases hv; exact fits_lo8 _
  · rcases Nat.mod_two_eq_zero_or_one i with e | e
    · obtain ⟨j, rfl⟩ : ∃ j, i = 2 * j := ⟨i / 2, by omega⟩
      rw [(k2 j (by omega)).1] at hv; cases hv; exact fits_lo8 _
    · obtain ⟨j, rfl⟩ : ∃ j, i = 2 * j + 1 := ⟨i / 2, by omega⟩
      rw [(k2 j (by omega)).2] at hv; cases hv; exact fits_lo8 _
/-- the same text -/
def SameT (n : Nat) (f : Nat → Int32) (k : Nat) (g : Nat → Int32) : Prop := n = k ∧ ∀ j, j < n → f j = g j
theorem lo8_inj {x y : Int32} (h0 : ¬ x < 0) (h1 : ¬ 255 < x) (k0 : ¬ y < 0) (k1 : ¬ 255 < y) (h : lo8 x = lo8 y) : x = y := by
  rw [← lo8_mask h0 h1, ← lo8_mask k0 k1, h]
/-- arrays coded by one coder are equal just where the texts are -/
theorem Cod.eqv {cd : Int32} {n k : Nat} {f g : Nat → Int32} {V V' : Cell} (h : Cod cd n f V) (h' : Cod cd k g V') (hf : ∀ j, j < n → ¬ f j < 0 ∧ ¬ 65535 < f j) (hg : ∀ j, j < k → ¬ g j < 0 ∧ ¬ 65535 < g j) : EqC V V' ↔ SameT n f k g := by
  have yvv : ∀ {W : Cell} {i : Nat} {x : Int32}, W.slots[i]? = some (.int x) → yv W i = x := fun q => by unfold yv; rw [q]
  rcases h with ⟨rfl, k1, k2⟩ | ⟨rfl, k1, k2, -⟩
  · rcases h' with ⟨-, m1, m2⟩ | ⟨e, -⟩
    · constructor
      · rintro ⟨e1, e2⟩
        refine ⟨by omega, fun j hj => ?_⟩
        have q := e2 j (by omega)
        rw [yvv (k2 j hj).1, yvv (m2 j (by omega)).1] at q
        exact lo8_inj (hf j hj).1 (k2 j hj).2 (hg j (by omega)).1 (m2 j (by omega)).2 q
      · rintro ⟨rfl, e2⟩
        refine ⟨by omega, fun j hj => ?_⟩
        rw [yvv (k2 j (by omega)).1, yvv (m2 j (by omega)).1, e2 j (by omega)]
    · exact absurd e (by decide)
  · rcases h' with ⟨e, -⟩ | ⟨-, m1, m2, -⟩
    · exact absurd e (by decide)
    · constructor
      · rintro ⟨e1, e2⟩
        refine ⟨by omega, fun j hj => ?_⟩
        have q1 := e2 (2 * j) (by omega)
        have q2 := e2 (2 * j + 1) (by omega)
        rw [yvv (k2 j hj).1, yvv (m2 j (by omega)).1] at q1
        rw [yvv (k2 j hj).2, yvv (m2 j (by omega)).2] at q2
        rw [← pair_says (hf j hj).1 (hf j hj).2, ← pair_says (hg j (by omega)).1 (hg j (by omega)).2, q1, q2]
      · rintro ⟨rfl, e2⟩
        refine ⟨by omega, fun i hi => ?_⟩
        rcases Nat.mod_two_eq_zero_or_one i with e | e
        · obtain ⟨j, rfl⟩ : ∃ j, i = 2 * j := ⟨i / 2, by omega⟩
          rw [yvv (k2 j (by omega)).1, yvv (m2 j (by omega)).1, e2 j (by omega)]
        · obtain ⟨j, rfl⟩ : ∃ j, i = 2 * j + 1 := ⟨i / 2, by omega⟩
          rw [yvv (k2 j (by omega)).2, yvv (m2 j (by omega)).2, e2 j (by omega)]
/-- two codings differ: so do the texts -/
theorem Cod.dif {cd cd' : Int32} {n k : Nat} {f g : Nat → Int32} {V V' : Cell} (h : Cod cd n f V) (h' : Cod cd' k g V') (hne : ¬ cd = cd') : ¬ SameT n f k g := by
  rintro ⟨rfl, e⟩
  rcases h with ⟨rfl, -, k2⟩ | ⟨rfl, -, -, j, hj, hw⟩
  · rcases h' with ⟨rfl, -⟩ | ⟨-, -, -, j, hj, hw⟩
    · exact hne rfl
    · exact (k2 j hj).2 (by rw [e j hj]; exact hw)
  · rcases h' with ⟨-, -, m2⟩ | ⟨rfl, -⟩
    · exact (m2 j hj).2 (by rw [← e j hj]; exact hw)
    · exact hne rfl
/-- an object of exactly C is an instance of C -/
theorem cinst {p : Program} {l : Launch} {e : Env} {R : Room} {s : State} {m : MethodId} {args : Array Value} {below : List Frame} {meth : Method} {c : Code} {T : State} {locs : List Loc} {cells slots : Nat} (X : Stand p l e R s m args below meth c T locs cells slots) (hexec : p.tables.exec = Jvm.exec) {own C : String} {index : Nat} (hown : s.vm.findClass own = some m.cls) (hlink : (Cond.classLink own index C).before args s = true) {a : Addr} (hE : Exact C a T)
    {g : JFrame} (hg : g.method = m) {rest : List Value} (hstack : g.stack = .ref a :: rest) (hdg : decode c.code g.pc = .ok (.instanceof index, 3)) :
    ∃ T', Stand p l e R s m args below meth c T' locs cells slots ∧ T'.heap = T.heap ∧ ∀ target, Steps p.tables e below (T'.setTop { g with pc := g.pc + 3, stack := .int 1 :: rest }) target → Steps p.tables e below (T.setTop g) target := by
  obtain ⟨cB, h1, D, h2, h3, h4⟩ := hE
  have h1' : s.vm.findClass C = some cB := by rw [← X.warmed.alike.findClass]; exact h1
  obtain ⟨vm', X', st⟩ := X.instanceofYes hexec hown hlink h2 h4 h1' (by rw [h3]; exact Jvm.Free.SB.assignable_self _ _) hg hstack hdg
  exact ⟨_, X', rfl, st⟩
theorem cself {p : Program} {l : Launch} {e : Env} {R : Room} {s : State} {m : MethodId} {args : Array Value} {below : List Frame} {meth : Method} {c : Code} {T : State} {locs : List Loc} {cells slots : Nat} (X : Stand p l e R s m args below meth c T locs cells slots) (hexec : p.tables.exec = Jvm.exec) {own C : String} {index : Nat} (hown : s.vm.findClass own = some m.cls) (hlink : (Cond.classLink own index C).before args s = true) {a : Addr} (hE : Exact C a T)
    {g : JFrame} (hg : g.method = m) {rest : List Value} (hstack : g.stack = .ref a :: rest) (hdg : decode c.code g.pc = .ok (.checkcast index, 3)) :
    ∃ T', Stand p l e R s m args below meth c T' locs cells slots ∧ T'.heap = T.heap ∧ ∀ target, Steps p.tables e below (T'.setTop { g with pc := g.pc + 3, stack := .ref a :: rest }) target → Steps p.tables e below (T.setTop g) target := by
  obtain ⟨cB, h1, D, h2, h3, h4⟩ := hE
  have h1' : s.vm.findClass C = some cB := by rw [← X.warmed.alike.findClass]; exact h1
  obtain ⟨vm', X', st⟩ := X.checkcastYes hexec hown hlink h2 h4 h1' (by rw [h3]; exact Jvm.Free.SB.assignable_self _ _) hg hstack hdg
  exact ⟨_, X', rfl, fun t h => st t (by rw [← hstack] at h; exact h)⟩
namespace SEq
def yN : MethodName := ⟨"java/lang/String", "equals", "(Ljava/lang/Object;)Z"⟩
abbrev yB : ByteArray := jdk_42_method_66_code
theorem d0 : decode yB 0 = .ok (.aload_n 0, 1) := by decide +kernel
theorem d1 : decode yB 1 = .ok (.aload_n 1, 1) := by decide +kernel
theorem d2 : decode yB 2 = .ok (.if_acmp (.ne) 5, 3) := by decide +kernel
theorem d5 : decode yB 5 = .ok (.iconst 1, 1) := by decide +kernel
theorem d6 : decode yB 6 = .ok (.ireturn, 1) := by decide +kernel
theorem d7 : decode yB 7 = .ok (.aload_n 1, 1) := by decide +kernel
theorem d8 : decode yB 8 = .ok (.instanceof 10, 3) := by decide +kernel
theorem d11 : decode yB 11 = .ok (.ifCond (.eq) 43, 3) := by decide +kernel
theorem d14 : decode yB 14 = .ok (.aload_n 1, 1) := by decide +kernel
theorem d15 : decode yB 15 = .ok (.checkcast 10, 3) := by decide +kernel
theorem d18 : decode yB 18 = .ok (.astore_n 2, 1) := by decide +kernel
theorem d19 : decode yB 19 = .ok (.getstatic 38, 3) := by decide +kernel
theorem d22 : decode yB 22 = .ok (.ifCond (.eq) 14, 3) := by decide +kernel
theorem d25 : decode yB 25 = .ok (.aload_n 0, 1) := by decide +kernel
theorem d26 : decode yB 26 = .ok (.getfield 15, 3) := by decide +kernel
theorem d29 : decode yB 29 = .ok (.aload_n 2, 1) := by decide +kernel
theorem d30 : decode yB 30 = .ok (.getfield 15, 3) := by decide +kernel
theorem d33 : decode yB 33 = .ok (.if_icmp (.ne) 21, 3) := by decide +kernel
theorem d36 : decode yB 36 = .ok (.aload_n 0, 1) := by decide +kernel
theorem d37 : decode yB 37 = .ok (.getfield 9, 3) := by decide +kernel
theorem d40 : decode yB 40 = .ok (.aload_n 2, 1) := by decide +kernel
theorem d41 : decode yB 41 = .ok (.getfield 9, 3) := by decide +kernel
theorem d44 : decode yB 44 = .ok (.invokestatic 541, 3) := by decide +kernel
theorem d47 : decode yB 47 = .ok (.ifCond (.eq) 7, 3) := by decide +kernel
theorem d50 : decode yB 50 = .ok (.iconst 1, 1) := by decide +kernel
theorem d51 : decode yB 51 = .ok (.goto 4, 3) := by decide +kernel
theorem d54 : decode yB 54 = .ok (.iconst 0, 1) := by decide +kernel
theorem d55 : decode yB 55 = .ok (.ireturn, 1) := by decide +kernel
def site : List Cond := [.classLink "java/lang/String" 10 "java/lang/String", .fieldLink "java/lang/String" 38 "java/lang/String" "COMPACT_STRINGS" "Z", .fieldLink "java/lang/String" 15 "java/lang/String" "coder" "B", .fieldLink "java/lang/String" 9 "java/lang/String" "value" "[B", LEq.tab] ++ staticW "java/lang/String" 541 LEq.yN
def tab : Cond := tabOf yN yB 3 (some .boolean) site
def P (x t : Addr) (V : Cell) (cd : Int32) (n : Nat) (f : Nat → Int32) (y t' : Addr) (V' : Cell) (cd' : Int32) (k : Nat) (g : Nat → Int32) (z : Int32) (args : Array Value) (s : State) : Prop := args = #[.ref x, .ref y] ∧ Txt x t V cd n f s ∧ Txt y t' V' cd' k g s ∧ StaticIs s "java/lang/String" "COMPACT_STRINGS" "Z" (.int z) ∧ ¬ z = 0
/-- equals(Object) of two Strings: whether the texts are the same -/
theorem law (l : Launch) (x t : Addr) (V : Cell) (cd : Int32) (n : Nat) (f : Nat → Int32) (y t' : Addr) (V' : Cell) (cd' : Int32) (k : Nat) (g : Nat → Int32) (z : Int32) : Law l yN 2 1 1 14 yB 3 (some .boolean) site (P x t V cd n f y t' V' cd' k g z) (Says01 (SameT n f k g)) [] 0 0 := by
  refine Law.of_walk (plainFor_of_name (by decide +kernel)) (by decide +kernel) (by decide +kernel) (by decide) (fun _ _ h => by rw [h.1]; rfl) (fun _ U U' hal hh h => ⟨h.1, h.2.1.mv hal hh, h.2.2.1.mv hal hh, h.2.2.2.1.there hal hh, h.2.2.2.2⟩) (fun r U U' V V' h1 hal h2 h => Says01.mv r U U' V V' h1 hal h2 h) ?_
  intro p e s m args below meth c s₁ X0 hexec hbytes hml hret hlk hnm hown hh0 W hP
  obtain ⟨rfl, hx, hy, s1, hz⟩ := hP
  have c1 : Steps p.tables e below (s₁.setTop (entryFrame m #[.ref x, .ref y] 3)) (s₁.setTop (mkF m 2 #[.val (.ref x), .val (.ref y), .unset] [.ref y, .ref x])) := Steps.trans (entry rfl) (by
    show Steps p.tables e below (s₁.setTop (mkF m 0 #[.val (.ref x), .val (.ref y), .unset] [])) _
    refine XS.aloadN X0.here hexec rfl (hb hbytes d0) rfl rfl ?_
    refine XS.aloadN X0.here hexec rfl (hb hbytes d1) rfl rfl ?_
    exact Steps.refl _)
  by_cases hxy : x = y
  · have c2 : Steps p.tables e below (s₁.setTop (entryFrame m #[.ref x, .ref y] 3)) (s₁.setTop (mkF m 6 #[.val (.ref x), .val (.ref y), .unset] [.int 1])) := c1.trans (by
      refine acmpNo X0.here hexec rfl (hb hbytes d2) rfl rfl rfl (by simp [acmp, hxy]) ?_
      refine iconstV X0.here hexec rfl 1 (hb hbytes d5) (by decide) ?_
      exact Steps.refl _)
    subst hxy
    have ec : cd = cd' := by
      obtain ⟨D, fd, a1, a2, a3⟩ := hx.2.2.1
      obtain ⟨D', fd', b1, b2, b3⟩ := hy.2.2.1
      cases a1.symm.trans b1
      obtain ⟨q1, q2, q3, q4⟩ := a2.1
      obtain ⟨r1, r2, r3, r4⟩ := b2.1
      cases q4.symm.trans r4
      cases a3.symm.trans b3; rfl
    have et : t = t' := by
      obtain ⟨D, fd, a1, a2, a3⟩ := hx.2.1
      obtain ⟨D', fd', b1, b2, b3⟩ := hy.2.1
      cases a1.symm.trans b1
      obtain ⟨q1, q2, q3, q4⟩ := a2.1
      obtain ⟨r1, r2, r3, r4⟩ := b2.1
      cases q4.symm.trans r4
      cases a3.symm.trans b3; rfl
    subst ec et
    have ev : V = V' := by cases hx.2.2.2.1.1.symm.trans hy.2.2.2.1.1; rfl
    subst ev
    have hs : SameT n f k g := (Cod.eqv hx.2.2.2.2.1 hy.2.2.2.2.1 hx.2.2.2.2.2 hy.2.2.2.2.2).mp ⟨rfl, fun _ _ => rfl⟩
    exact ⟨s₁, some (.int 1), _, _, _, X0, rfl, rfl, rfl, (fun h => by cases h), ⟨1, rfl, hh0, Or.inl ⟨rfl, hs⟩⟩, fun fs hl => c2.trans (X0.ireturnOut hexec hret rfl (Or.inr (Or.inl rfl)) (hb hbytes d6) hl)⟩
  · have c2 : Steps p.tables e below (s₁.setTop (entryFrame m #[.ref x, .ref y] 3)) (s₁.setTop (mkF m 8 #[.val (.ref x), .val (.ref y), .unset] [.ref y])) := c1.trans (by
      refine acmpYes X0.here hexec rfl (pc0 := 2) rfl (hb hbytes d2) rfl rfl rfl (by simp [acmp, hxy]) (by decide) rfl ?_
      refine XS.aloadN X0.here hexec rfl (hb hbytes d7) rfl rfl ?_
      exact Steps.refl _)
    obtain ⟨T3, X3, q3, st3⟩ := cinst X0 hexec hown (wk W (.classLink "java/lang/String" 10 "java/lang/String")) (hy.mv X0.warmed.alike hh0).1 (g := (mkF m 8 #[.val (.ref x), .val (.ref y), .unset] [.ref y])) rfl (rest := []) rfl (hb hbytes d8)
    have hh3 := q3.trans hh0
    have c4 : Steps p.tables e below (s₁.setTop (entryFrame m #[.ref x, .ref y] 3)) (T3.setTop (mkF m 15 #[.val (.ref x), .val (.ref y), .unset] [.ref y])) := (c2.trans (st3 _ (Steps.refl _))).trans (by
      refine XS.ifNo X3.here hexec rfl (hb hbytes d11) rfl (i0_eq_f (by decide)) ?_
      refine XS.aloadN X3.here hexec rfl (hb hbytes d14) rfl rfl ?_
      exact Steps.refl _)
    obtain ⟨T5, X5, q5, st5⟩ := cself X3 hexec hown (wk W (.classLink "java/lang/String" 10 "java/lang/String")) (hy.mv X3.warmed.alike hh3).1 (g := (mkF m 15 #[.val (.ref x), .val (.ref y), .unset] [.ref y])) rfl (rest := []) rfl (hb hbytes d15)
    have hh5 := q5.trans hh3
    have c6 : Steps p.tables e below (s₁.setTop (entryFrame m #[.ref x, .ref y] 3)) (T5.setTop (mkF m 19 #[.val (.ref x), .val (.ref y), .val (.ref y)] [])) := (c4.trans (st5 _ (Steps.refl _))).trans (by
      refine XS.astoreN X5.here hexec rfl (hb hbytes d18) rfl rfl rfl ?_
      exact Steps.refl _)
    obtain ⟨T7, X7, q7, st7⟩ := X5.sget hexec hown (wk W (.fieldLink "java/lang/String" 38 "java/lang/String" "COMPACT_STRINGS" "Z")) s1 (fun _ _ h => by rw [hh5]; exact h) (g := (mkF m 19 #[.val (.ref x), .val (.ref y), .val (.ref y)] [])) rfl (hb hbytes d19)
    have hh7 := q7.trans hh5
    have c8 : Steps p.tables e below (s₁.setTop (entryFrame m #[.ref x, .ref y] 3)) (T7.setTop (mkF m 26 #[.val (.ref x), .val (.ref y), .val (.ref y)] [.ref x])) := (c6.trans (st7 _ (Steps.refl _))).trans (by
      refine XS.ifNo X7.here hexec rfl (hb hbytes d22) rfl (i0_eq_f hz) ?_
      refine XS.aloadN X7.here hexec rfl (hb hbytes d25) rfl rfl ?_
      exact Steps.refl _)
    obtain ⟨T9, X9, q9, st9⟩ := X7.hget hexec hown (wk W (.fieldLink "java/lang/String" 15 "java/lang/String" "coder" "B")) (hx.mv X7.warmed.alike hh7).2.2.1 (g := (mkF m 26 #[.val (.ref x), .val (.ref y), .val (.ref y)] [.ref x])) rfl (rest := []) rfl (hb hbytes d26)
    have hh9 := q9.trans hh7
    have c10 : Steps p.tables e below (s₁.setTop (entryFrame m #[.ref x, .ref y] 3)) (T9.setTop (mkF m 30 #[.val (.ref x), .val (.ref y), .val (.ref y)] [.ref y, .int cd])) := (c8.trans (st9 _ (Steps.refl _))).trans (by
      refine XS.aloadN X9.here hexec rfl (hb hbytes d29) rfl rfl ?_
      exact Steps.refl _)
    obtain ⟨T11, X11, q11, st11⟩ := X9.hget hexec hown (wk W (.fieldLink "java/lang/String" 15 "java/lang/String" "coder" "B")) (hy.mv X9.warmed.alike hh9).2.2.1 (g := (mkF m 30 #[.val (.ref x), .val (.ref y), .val (.ref y)] [.ref y, .int cd])) rfl (rest := [.int cd]) rfl (hb hbytes d30)
    have hh11 := q11.trans hh9
    have c12 : Steps p.tables e below (s₁.setTop (entryFrame m #[.ref x, .ref y] 3)) (T11.setTop (mkF m 33 #[.val (.ref x), .val (.ref y), .val (.ref y)] [.int cd', .int cd])) := c10.trans (st11 _ (Steps.refl _))
    by_cases hcd : cd = cd'
    · subst hcd
      have c13 : Steps p.tables e below (s₁.setTop (entryFrame m #[.ref x, .ref y] 3)) (T11.setTop (mkF m 37 #[.val (.ref x), .val (.ref y), .val (.ref y)] [.ref x])) := c12.trans (by
        refine XS.icmpNo X11.here hexec rfl (hb hbytes d33) rfl (ii_ne_f rfl) ?_
        refine XS.aloadN X11.here hexec rfl (hb hbytes d36) rfl rfl ?_
        exact Steps.refl _)
      obtain ⟨T14, X14, q14, st14⟩ := X11.hget hexec hown (wk W (.fieldLink "java/lang/String" 9 "java/lang/String" "value" "[B")) (hx.mv X11.warmed.alike hh11).2.1 (g := (mkF m 37 #[.val (.ref x), .val (.ref y), .val (.ref y)] [.ref x])) rfl (rest := []) rfl (hb hbytes d37)
      have hh14 := q14.trans hh11
      have c15 : Steps p.tables e below (s₁.setTop (entryFrame m #[.ref x, .ref y] 3)) (T14.setTop (mkF m 41 #[.val (.ref x), .val (.ref y), .val (.ref y)] [.ref y, .ref t])) := (c13.trans (st14 _ (Steps.refl _))).trans (by
        refine XS.aloadN X14.here hexec rfl (hb hbytes d40) rfl rfl ?_
        exact Steps.refl _)
      obtain ⟨T16, X16, q16, st16⟩ := X14.hget hexec hown (wk W (.fieldLink "java/lang/String" 9 "java/lang/String" "value" "[B")) (hy.mv X14.warmed.alike hh14).2.1 (g := (mkF m 41 #[.val (.ref x), .val (.ref y), .val (.ref y)] [.ref y, .ref t])) rfl (rest := [.ref t]) rfl (hb hbytes d41)
      have hh16 := q16.trans hh14
      have c17 : Steps p.tables e below (s₁.setTop (entryFrame m #[.ref x, .ref y] 3)) (T16.setTop (mkF m 44 #[.val (.ref x), .val (.ref y), .val (.ref y)] [.ref t', .ref t])) := c15.trans (st16 _ (Steps.refl _))
      obtain ⟨v18, T18, X18, E18, g18⟩ := X16.callS hexec (LEq.law l t V t' V') hown (wks W (staticW "java/lang/String" 541 LEq.yN)) (wk W LEq.tab) (W := 0) (Nat.le_of_ble_eq_true rfl) (Nat.le_of_ble_eq_true rfl) (Nat.le_refl _) (Nat.le_refl _) (g := (mkF m 44 #[.val (.ref x), .val (.ref y), .val (.ref y)] [.ref t', .ref t])) rfl (by rw [hml]; rfl) c17 (argsL := [.ref t, .ref t']) (rest := []) rfl rfl (by show 2 * 0 + 0 ≤ _; decide) (hb hbytes d44) (⟨rfl, hx.2.2.2.1.mv X16.warmed.alike hh16, hx.2.2.2.2.1.ty, hy.2.2.2.1.mv X16.warmed.alike hh16, hy.2.2.2.2.1.ty⟩)
      obtain ⟨v, rfl, q18, hv⟩ := E18
      have iff := Cod.eqv hx.2.2.2.2.1 hy.2.2.2.2.1 hx.2.2.2.2.2 hy.2.2.2.2.2
      rcases hv with ⟨rfl, he⟩ | ⟨rfl, he⟩
      · have c19 : Steps p.tables e below (s₁.setTop (entryFrame m #[.ref x, .ref y] 3)) (T18.setTop (mkF m 55 #[.val (.ref x), .val (.ref y), .val (.ref y)] [.int 1])) := Steps.trans g18 (by
          refine XS.ifNo X18.here hexec rfl (hb hbytes d47) rfl (i0_eq_f (by decide)) ?_
          refine iconstV X18.here hexec rfl 1 (hb hbytes d50) (by decide) ?_
          refine XS.goto X18.here hexec rfl (pc0 := 51) rfl (hb hbytes d51) (by decide) rfl ?_
          exact Steps.refl _)
        exact ⟨T18, some (.int 1), _, _, _, X18, rfl, rfl, rfl, (fun h => by cases h), ⟨1, rfl, q18.trans hh16, Or.inl ⟨rfl, iff.mp he⟩⟩, fun fs hl => c19.trans (X18.ireturnOut hexec hret rfl (Or.inr (Or.inl rfl)) (hb hbytes d55) hl)⟩
      · have c19 : Steps p.tables e below (s₁.setTop (entryFrame m #[.ref x, .ref y] 3)) (T18.setTop (mkF m 55 #[.val (.ref x), .val (.ref y), .val (.ref y)] [.int 0])) := Steps.trans g18 (by
          refine XS.ifYes X18.here hexec rfl (pc0 := 47) rfl (hb hbytes d47) rfl (i0_eq_t rfl) (by decide) rfl ?_
          refine iconstV X18.here hexec rfl 0 (hb hbytes d54) (by decide) ?_
          exact Steps.refl _)
        exact ⟨T18, some (.int 0), _, _, _, X18, rfl, rfl, rfl, (fun h => by cases h), ⟨0, rfl, q18.trans hh16, Or.inr ⟨rfl, fun q => he (iff.mpr q)⟩⟩, fun fs hl => c19.trans (X18.ireturnOut hexec hret rfl (Or.inr (Or.inl rfl)) (hb hbytes d55) hl)⟩
    · have c13 : Steps p.tables e below (s₁.setTop (entryFrame m #[.ref x, .ref y] 3)) (T11.setTop (mkF m 55 #[.val (.ref x), .val (.ref y), .val (.ref y)] [.int 0])) := c12.trans (by
        refine XS.icmpYes X11.here hexec rfl (pc0 := 33) rfl (hb hbytes d33) rfl (ii_ne_t hcd) (by decide) rfl ?_
        refine iconstV X11.here hexec rfl 0 (hb hbytes d54) (by decide) ?_
        exact Steps.refl _)
      exact ⟨T11, some (.int 0), _, _, _, X11, rfl, rfl, rfl, (fun h => by cases h), ⟨0, rfl, hh11, Or.inr ⟨rfl, Cod.dif hx.2.2.2.2.1 hy.2.2.2.2.1 hcd⟩⟩, fun fs hl => c13.trans (X11.ireturnOut hexec hret rfl (Or.inr (Or.inl rfl)) (hb hbytes d55) hl)⟩
theorem pays {l : Launch} {R : Room} {p : Program} {e : Env} {below : List Frame} {s : State} {sargs : Array Value} {len W : Nat} (x t : Addr) (V : Cell) (cd : Int32) (n : Nat) (f : Nat → Int32) (y t' : Addr) (V' : Cell) (cd' : Int32) (k : Nat) (g : Nat → Int32) (z : Int32) (htab : tab.before sargs s = true) (hfr : 2 ≤ R.frames) (hlo : W + 28 ≤ R.locals) :
    Back l R p e below s sargs yN len W (fun A₁ a₁ => A₁.cells + 0 ≤ R.cells ∧ A₁.slots + 0 ≤ R.slots ∧ P x t V cd n f y t' V' cd' k g z a₁ A₁.U) (fun A₁ _ v₁ B₁ => Says01 (SameT n f k g) v₁ A₁.U B₁.U ∧ B₁.locs = A₁.locs ++ [] ∧ B₁.cells = A₁.cells + 0 ∧ B₁.slots = A₁.slots + 0) :=
  (law l x t V cd n f y t' V' cd' k g z).pays htab hfr (by omega)
end SEq
end StrChars
namespace StrChars.Road
open Jvm Sem ClassFile Op Lib Jvm.Stand Jvm.Free Jvm.Free.XT
open Jvm.Lib.Cold (StaticIs)
/-- the words of String.equals(Object) -/
abbrev wordsEq : List Jvm.Cond := [.code SEq.yN SEq.yB 3 (some .boolean), .initialized ST, .classLink ST 10 ST, .fieldLink ST 38 ST "COMPACT_STRINGS" "Z", .fieldLink ST 15 ST "coder" "B", .fieldLink ST 9 ST "value" "[B", .methodLink ST 541 LEq.yN, .static LEq.yN, .code LEq.yN LEq.yB 3 (some .boolean), .initialized "java/lang/StringLatin1"]
theorem tabEq_of {a : Array Value} {s : State} (h : ∀ w ∈ wordsEq, w.before a s = true) : SEq.tab.before a s = true := by
  have hl : LEq.tab.before a s = true := unparts (wk h (.code LEq.yN LEq.yB 3 (some .boolean))) (wks h (.initialized LEq.yN.cls :: LEq.site))
  have q := consq hl h
  exact unparts (wk q (.code SEq.yN SEq.yB 3 (some .boolean))) (wks q (.initialized SEq.yN.cls :: SEq.site))
theorem movedEq {Z s : State} {a0 args : Array Value} (hZ : Z.Warmed39 s.vm) (hw : ∀ d ∈ wordsEq, d.before a0 Z = true) : ∀ d ∈ wordsEq, d.before args s = true := fun d hd => by
  have t : ∀ d ∈ wordsEq, (d.onTables && d.keepsFace) = true := by decide +kernel
  exact RoadKit.mv hZ (hw d hd) (t d hd)
/-- the road's facts of a String, as the laws ask it -/
theorem txt_of {Z U : State} {a0 : Array Value} {kI : Nat} (wi : (Jvm.Cond.instantiable ST kI).before a0 Z = true) (al : Z.vm.Alike U.vm) {x t : Addr} {kb : ClassId} {cs : List Int32} {cd N2 : Int32} {vs : List Value} (E : RoadKit.Exa Z U.heap x ST) (V : RoadKit.Fld Z U.heap x ST "value" "[B" (.ref t)) (C : RoadKit.Fld Z U.heap x ST "coder" "B" (.int cd)) (K : RoadKit.Arv Z U.heap t kb .byte N2 vs (.int 0)) (hc : CodA cs cd N2 vs) (hb : ∀ c ∈ cs, ¬ c < 0 ∧ ¬ (65535 : Int32) < c) (l2 : cs.length ≤ 4000) :
    ∃ A, Txt x t A cd cs.length (fun j => cs.getD j 0) U := by
  obtain ⟨A, K1, K2, K3, K4, K5, K6⟩ := K
  have hcod := hc.cod (by omega) K3 K5
  obtain ⟨D, fV, fC, hB, F1, F2, g1, g2, -, -⟩ := strObj wi al E V C
  exact ⟨A, ⟨_, hB.2.2.1, D, hB.1, rfl, by cases q : D.vm <;> first | rfl | exact absurd q (hB.2.1.2 _)⟩, Has.of hB F1 g1, Has.of hB F2 g2, ⟨K1.1, State.isArrayOf_alike al K1.2.1, K1.2.2, by rcases hcod with ⟨-, q, -⟩ | ⟨-, q, -⟩ <;> omega⟩, hcod, fun j hj => by
    have e : cs.getD j 0 = cs[j] := by simp [List.getD_eq_getElem?_getD, hj]
    show ¬ cs.getD j 0 < 0 ∧ ¬ 65535 < cs.getD j 0
    rw [e]; exact hb _ (List.getElem_mem _)⟩
theorem same_list (cs ds : List Int32) : SameT cs.length (fun j => cs.getD j 0) ds.length (fun j => ds.getD j 0) ↔ cs = ds := by
  constructor
  · rintro ⟨e, q⟩
    refine List.ext_getElem e fun j h1 h2 => ?_
    have := q j h1
    simpa [List.getD_eq_getElem?_getD, h1, h2] using this
  · rintro rfl
    exact ⟨rfl, fun _ _ => rfl⟩
/-- **equals(Object) OF TWO SUCH STRINGS**: 1 just where the chars are the same -/
theorem eqW {p : Program} {l : Launch} {e : Env} {R : Room} {s : State} {args : Array Value} {below : List Frame} {len W : Nat} {Z : State} {a0 : Array Value} {h : Heap} (hZ : Z.Warmed39 s.vm) (hw : ∀ d ∈ wordsEq, d.before a0 Z = true) {kI : Nat} (wi : (Jvm.Cond.instantiable ST kI).before a0 Z = true)
    {x t : Addr} {kb : ClassId} {cs : List Int32} {cd N2 : Int32} {vs : List Value} (E : RoadKit.Exa Z h x ST) (V : RoadKit.Fld Z h x ST "value" "[B" (.ref t)) (C : RoadKit.Fld Z h x ST "coder" "B" (.int cd)) (K : RoadKit.Arv Z h t kb .byte N2 vs (.int 0)) (hc : CodA cs cd N2 vs) (hb : ∀ c ∈ cs, ¬ c < 0 ∧ ¬ (65535 : Int32) < c) (l2 : cs.length ≤ 4000)
    {y t' : Addr} {kb' : ClassId} {ds : List Int32} {cd' N2' : Int32} {vs' : List Value} (E' : RoadKit.Exa Z h y ST) (V' : RoadKit.Fld Z h y ST "value" "[B" (.ref t')) (C' : RoadKit.Fld Z h y ST "coder" "B" (.int cd')) (K' : RoadKit.Arv Z h t' kb' .byte N2' vs' (.int 0)) (hc' : CodA ds cd' N2' vs') (hb' : ∀ c ∈ ds, ¬ c < 0 ∧ ¬ (65535 : Int32) < c) (l2' : ds.length ≤ 4000)
    {z : Int32} (S : RoadKit.Sta Z h ST "COMPACT_STRINGS" "Z" (.int z)) (hz : ¬ z = 0) (hfr : 2 ≤ R.frames) (hlo : W + 28 ≤ R.locals) :
    Back l R p e below s args (⟨"java/lang/String", "equals", "(Ljava/lang/Object;)Z"⟩ : MethodName) len W (fun P a => a = #[.ref x, .ref y] ∧ P.U.heap = h ∧ P.cells + 0 ≤ R.cells ∧ P.slots + 0 ≤ R.slots)
      (fun P _ v B => ∃ L, (((v = some (.int 1) ∧ cs = ds) ∨ (v = some (.int 0) ∧ ¬ cs = ds)) ∧ L = [] ∧ B.U.heap = h) ∧ B.locs = P.locs ++ L ∧ B.cells = P.cells + 0 ∧ B.slots = P.slots + 0) := by
  intro m meth c P g ig mk a X hg hsize hdg hW hn hp'
  obtain ⟨rfl, rfl, r1, r2⟩ := hp'
  have al : Z.vm.Alike P.U.vm := hZ.alike.trans X.warmed.alike
  obtain ⟨A, hx⟩ := txt_of wi al E V C K hc hb l2
  obtain ⟨A', hy⟩ := txt_of wi al E' V' C' K' hc' hb' l2'
  obtain ⟨v, B, X', ⟨⟨w, hv, hh, hq⟩, hl, hk, hs⟩, st⟩ := SEq.pays x t A cd cs.length (fun j => cs.getD j 0) y t' A' cd' ds.length (fun j => ds.getD j 0) z (tabEq_of (movedEq hZ hw)) hfr hlo m meth c P g ig mk _ X hg hsize hdg hW hn ⟨r1, r2, rfl, hx, hy, sta_is al S, hz⟩
  refine ⟨v, B, X', ⟨[], ⟨?_, rfl, hh⟩, hl, hk, hs⟩, st⟩
  rcases hq with ⟨rfl, q⟩ | ⟨rfl, q⟩
  · exact Or.inl ⟨hv, (same_list cs ds).mp q⟩
  · exact Or.inr ⟨hv, fun e => q ((same_list cs ds).mpr e)⟩
end StrChars.Road
namespace StrChars
open Jvm Sem ClassFile Op Lib Jvm.Stand Jvm.Free.XT Jvm.Free.ALB Jvm.Free.JM Jvm.Free
open Jvm.Lib.Cold (StaticIs)
namespace ChN
def yN : MethodName := ⟨"java/lang/String", "charAt", "(I)C"⟩
abbrev yB : ByteArray := jdk_42_method_56_code
theorem d0 : decode yB 0 = .ok (.aload_n 0, 1) := by decide +kernel
theorem d1 : decode yB 1 = .ok (.invokevirtual 492, 3) := by decide +kernel
theorem d4 : decode yB 4 = .ok (.ifCond (.eq) 12, 3) := by decide +kernel
theorem d7 : decode yB 7 = .ok (.aload_n 0, 1) := by decide +kernel
theorem d8 : decode yB 8 = .ok (.getfield 9, 3) := by decide +kernel
theorem d11 : decode yB 11 = .ok (.iload_n 1, 1) := by decide +kernel
theorem d12 : decode yB 12 = .ok (.invokestatic 495, 3) := by decide +kernel
theorem d15 : decode yB 15 = .ok (.ireturn, 1) := by decide +kernel
def site : List Cond := [.fieldLink "java/lang/String" 9 "java/lang/String" "value" "[B", IsL.tab, LChA.tab] ++ virtW "java/lang/String" 492 "java/lang/String" IsL.yN IsL.yN ++ staticW "java/lang/String" 495 LChA.yN
def tab : Cond := tabOf yN yB 2 (some .char) site
def P (x t : Addr) (V : Cell) (n : Nat) (f : Nat → Int32) (z : Int32) (fm : Value) (i : Nat) (args : Array Value) (s : State) : Prop := args = #[.ref x, .int (Int32.ofNat i)] ∧ Txt x t V 0 n f s ∧ i < n ∧ StaticIs s "java/lang/String" "COMPACT_STRINGS" "Z" (.int z) ∧ ¬ z = 0 ∧ StaticIs s "jdk/internal/util/Preconditions" "SIOOBE_FORMATTER" "Ljava/util/function/BiFunction;" fm ∧ fm.isRef = true
def E (f : Nat → Int32) (i : Nat) (r : Option Value) (s u : State) : Prop := XT.PureE (some (.int (f i))) r s u
/-- charAt(i) of a Latin-1 String of n chars, i < n: f i -/
theorem law (l : Launch) (x t : Addr) (V : Cell) (n : Nat) (f : Nat → Int32) (z : Int32) (fm : Value) (i : Nat) : Law l yN 2 1 3 40 yB 2 (some .char) site (P x t V n f z fm i) (E f i) [] 0 0 := by
  refine Law.of_walk (plainFor_of_name (by decide +kernel)) (by decide +kernel) (by decide +kernel) (by decide) (fun _ _ h => by rw [h.1]; rfl) (fun _ U U' hal hh h => ⟨h.1, h.2.1.mv hal hh, h.2.2.1, h.2.2.2.1.there hal hh, h.2.2.2.2.1, h.2.2.2.2.2.1.there hal hh, h.2.2.2.2.2.2⟩) (fun r U U' V V' h1 hal h2 h => XT.PureE.mv r U U' V V' h1 hal h2 h) ?_
  intro p e s m args below meth c s₁ X0 hexec hbytes hml hret hlk hnm hown hh0 W hP
  obtain ⟨rfl, hx, hi, s1, hz, s3, rf⟩ := hP
  have v31 := hx.2.2.2.1.2.2.2
  have hr := hx.2.2.2.2.2 i hi
  have hx0 := hx.mv X0.warmed.alike hh0
  have c1 : Steps p.tables e below (s₁.setTop (entryFrame m #[.ref x, .int (Int32.ofNat i)] 2)) (s₁.setTop (mkF m 1 #[.val (.ref x), .val (.int (Int32.ofNat i))] [.ref x])) := Steps.trans (entry rfl) (by
    show Steps p.tables e below (s₁.setTop (mkF m 0 #[.val (.ref x), .val (.int (Int32.ofNat i))] [])) _
    refine XS.aloadN X0.here hexec rfl (hb hbytes d0) rfl rfl ?_
    exact Steps.refl _)
  obtain ⟨v2, T2, X2, E2, g2⟩ := X0.callV hexec (IsL.law l x 0 z) hown (wks W (virtW "java/lang/String" 492 "java/lang/String" IsL.yN IsL.yN)) rfl (by decide) (wk W IsL.tab) (W := 0) (Nat.le_of_ble_eq_true rfl) (Nat.le_of_ble_eq_true rfl) (Nat.le_refl _) (Nat.le_refl _) (hx0.1.fc X0.warmed.alike) hx0.1.is (g := (mkF m 1 #[.val (.ref x), .val (.int (Int32.ofNat i))] [.ref x])) rfl (by rw [hml]; rfl) c1 (argsL := []) (rest := []) rfl rfl (by show 2 * 0 + 0 ≤ _; decide) (hb hbytes d1) (⟨rfl, hx0.2.2.1, hx.2.2.2.2.1.cd, s1.there X0.warmed.alike hh0, hz⟩)
  obtain ⟨rfl, q2⟩ := E2
  have hh2 := q2.trans hh0
  have hx2 := hx.mv X2.warmed.alike hh2
  obtain ⟨-, k1, k2⟩ | ⟨k0, -⟩ := hx.2.2.2.2.1
  · have c3 : Steps p.tables e below (s₁.setTop (entryFrame m #[.ref x, .int (Int32.ofNat i)] 2)) (T2.setTop (mkF m 8 #[.val (.ref x), .val (.int (Int32.ofNat i))] [.ref x])) := Steps.trans g2 (by
      refine XS.ifNo X2.here hexec rfl (hb hbytes d4) rfl (i0_eq_f (by decide)) ?_
      refine XS.aloadN X2.here hexec rfl (hb hbytes d7) rfl rfl ?_
      exact Steps.refl _)
    obtain ⟨T4, X4, q4, st4⟩ := X2.hget hexec hown (wk W (.fieldLink "java/lang/String" 9 "java/lang/String" "value" "[B")) hx2.2.1 (g := (mkF m 8 #[.val (.ref x), .val (.int (Int32.ofNat i))] [.ref x])) rfl (rest := []) rfl (hb hbytes d8)
    have hh4 := q4.trans hh2
    have c5 : Steps p.tables e below (s₁.setTop (entryFrame m #[.ref x, .int (Int32.ofNat i)] 2)) (T4.setTop (mkF m 12 #[.val (.ref x), .val (.int (Int32.ofNat i))] [.int (Int32.ofNat i), .ref t])) := (c3.trans (st4 _ (Steps.refl _))).trans (by
      refine XS.iloadN X4.here hexec rfl (hb hbytes d11) rfl ?_
      exact Steps.refl _)
    obtain ⟨v6, T6, X6, E6, g6⟩ := X4.callS hexec (LChA.law l t V i (lo8 (f i)) fm) hown (wks W (staticW "java/lang/String" 495 LChA.yN)) (wk W LChA.tab) (W := 0) (Nat.le_of_ble_eq_true rfl) (Nat.le_of_ble_eq_true rfl) (Nat.le_refl _) (Nat.le_refl _) (g := (mkF m 12 #[.val (.ref x), .val (.int (Int32.ofNat i))] [.int (Int32.ofNat i), .ref t])) rfl (by rw [hml]; rfl) c5 (argsL := [.ref t, .int (Int32.ofNat i)]) (rest := []) rfl rfl (by show 2 * 0 + 0 ≤ _; decide) (hb hbytes d12) (⟨rfl, hx.2.2.2.1.mv X4.warmed.alike hh4, (k2 i hi).1, s3.there X4.warmed.alike hh4, rf⟩)
    obtain ⟨rfl, q6⟩ := E6
    rw [chr8_lo8 hr.1 (k2 i hi).2] at g6
    exact ⟨T6, some (.int (f i)), _, _, _, X6, rfl, rfl, rfl, (fun h => by cases h), ⟨rfl, q6.trans hh4⟩, fun fs hl => Steps.trans g6 (X6.ireturnOut hexec hret (narrow_ch hr.1 hr.2) (Or.inr (Or.inr (Or.inr (Or.inl rfl)))) (hb hbytes d15) hl)⟩
  · exact absurd k0 (by decide)
theorem pays {l : Launch} {R : Room} {p : Program} {e : Env} {below : List Frame} {s : State} {sargs : Array Value} {len W : Nat} (x t : Addr) (V : Cell) (n : Nat) (f : Nat → Int32) (z : Int32) (fm : Value) (i : Nat) (htab : tab.before sargs s = true) (hfr : 4 ≤ R.frames) (hlo : W + 53 ≤ R.locals) :
    Back l R p e below s sargs yN len W (fun A₁ a₁ => A₁.cells + 0 ≤ R.cells ∧ A₁.slots + 0 ≤ R.slots ∧ P x t V n f z fm i a₁ A₁.U) (fun A₁ _ v₁ B₁ => E f i v₁ A₁.U B₁.U ∧ B₁.locs = A₁.locs ++ [] ∧ B₁.cells = A₁.cells + 0 ∧ B₁.slots = A₁.slots + 0) :=
  (law l x t V n f z fm i).pays htab hfr (by omega)
end ChN
end StrChars
namespace StrChars.Road
open Jvm Sem ClassFile Op Lib Jvm.Stand Jvm.Free Jvm.Free.XT
open Jvm.Lib.Cold (StaticIs)
/-- the words of String.charAt(int), the Latin-1 road alone -/
abbrev wordsChN : List Jvm.Cond := [.code ChN.yN ChN.yB 2 (some .char), .initialized ST, .fieldLink ST 9 ST "value" "[B", .fieldLink ST 38 ST "COMPACT_STRINGS" "Z", .fieldLink ST 15 ST "coder" "B", .code IsL.yN IsL.yB 1 (some .boolean), .methodLink ST 492 IsL.yN, .declares IsL.yN, .selects ST IsL.yN IsL.yN, .instanceMethod IsL.yN,
  .methodLink ST 495 LChA.yN, .static LChA.yN, .code LChA.yN LChA.yB 2 (some .char), .initialized "java/lang/StringLatin1", .methodLink "java/lang/StringLatin1" 9 JO.Str_checkIndex.yN, .static JO.Str_checkIndex.yN, .code JO.Str_checkIndex.yN JO.Str_checkIndex.yB 2 none,
  .fieldLink ST 1053 "jdk/internal/util/Preconditions" "SIOOBE_FORMATTER" "Ljava/util/function/BiFunction;", .methodLink ST 1059 JC.PreCheck.yN, .static JC.PreCheck.yN, .code JC.PreCheck.yN JC.PreCheck.yB 3 (some .int), .initialized "jdk/internal/util/Preconditions"]
theorem tabChN_of {a : Array Value} {s : State} (h : ∀ w ∈ wordsChN, w.before a s = true) : ChN.tab.before a s = true := by
  have hp : JC.PreCheck.tab.before a s = true := unparts (wk h (.code JC.PreCheck.yN JC.PreCheck.yB 3 (some .int))) (wks h (.initialized JC.PreCheck.yN.cls :: JC.PreCheck.site))
  have qk := consq hp h
  have hk : JO.Str_checkIndex.tab.before a s = true := unparts (wk qk (.code JO.Str_checkIndex.yN JO.Str_checkIndex.yB 2 none)) (wks qk (.initialized JO.Str_checkIndex.yN.cls :: JO.Str_checkIndex.site))
  have ql := consq hk h
  have hl : LChA.tab.before a s = true := unparts (wk ql (.code LChA.yN LChA.yB 2 (some .char))) (wks ql (.initialized LChA.yN.cls :: LChA.site))
  have hi : IsL.tab.before a s = true := unparts (wk h (.code IsL.yN IsL.yB 1 (some .boolean))) (wks h (.initialized IsL.yN.cls :: IsL.site))
  have q := consq hi (consq hl h)
  exact unparts (wk q (.code ChN.yN ChN.yB 2 (some .char))) (wks q (.initialized ChN.yN.cls :: ChN.site))
theorem movedChN {Z s : State} {a0 args : Array Value} (hZ : Z.Warmed39 s.vm) (hw : ∀ d ∈ wordsChN, d.before a0 Z = true) : ∀ d ∈ wordsChN, d.before args s = true := fun d hd => by
  have t : ∀ d ∈ wordsChN, (d.onTables && d.keepsFace) = true := by decide +kernel
  exact RoadKit.mv hZ (hw d hd) (t d hd)
/-- **charAt(i) OF A LATIN-1 STRING**, i < n: the char -/
theorem chN {p : Program} {l : Launch} {e : Env} {R : Room} {s : State} {args : Array Value} {below : List Frame} {len W : Nat} {Z : State} {a0 : Array Value} {h : Heap} (hZ : Z.Warmed39 s.vm) (hw : ∀ d ∈ wordsChN, d.before a0 Z = true) {kI : Nat} (wi : (Jvm.Cond.instantiable ST kI).before a0 Z = true)
    {x t : Addr} {kb : ClassId} {cs : List Int32} {N2 z : Int32} {vs : List Value} {fm : Value} {i : Nat} {j : Int32} (E : RoadKit.Exa Z h x ST) (V : RoadKit.Fld Z h x ST "value" "[B" (.ref t)) (C : RoadKit.Fld Z h x ST "coder" "B" (.int 0)) (K : RoadKit.Arv Z h t kb .byte N2 vs (.int 0)) (hc : CodA cs 0 N2 vs) (hb : ∀ c ∈ cs, ¬ c < 0 ∧ ¬ (65535 : Int32) < c)
    (S : RoadKit.Sta Z h ST "COMPACT_STRINGS" "Z" (.int z)) (hz : ¬ z = 0) (F : RoadKit.Sta Z h "jdk/internal/util/Preconditions" "SIOOBE_FORMATTER" "Ljava/util/function/BiFunction;" fm) (rf : fm.isRef = true) (l2 : cs.length ≤ 4000) (hi : i < cs.length) (hj : j = Int32.ofNat i) (hfr : 4 ≤ R.frames) (hlo : W + 53 ≤ R.locals) :
    Back l R p e below s args (⟨"java/lang/String", "charAt", "(I)C"⟩ : MethodName) len W (fun P a => a = #[.ref x, .int j] ∧ P.U.heap = h ∧ P.cells + 0 ≤ R.cells ∧ P.slots + 0 ≤ R.slots)
      (fun P _ v B => ∃ L, (v = some (.int (cs.getD i 0)) ∧ L = [] ∧ B.U.heap = h) ∧ B.locs = P.locs ++ L ∧ B.cells = P.cells + 0 ∧ B.slots = P.slots + 0) := by
  subst hj
  intro m meth c P g ig mk a X hg hsize hdg hW hn hp'
  obtain ⟨rfl, rfl, r1, r2⟩ := hp'
  have al : Z.vm.Alike P.U.vm := hZ.alike.trans X.warmed.alike
  obtain ⟨A, hx⟩ := txt_of wi al E V C K hc hb l2
  obtain ⟨v, B, X', ⟨⟨hv, hh⟩, hl, hk, hs⟩, st⟩ := ChN.pays x t A cs.length (fun j => cs.getD j 0) z fm i (tabChN_of (movedChN hZ hw)) hfr hlo m meth c P g ig mk _ X hg hsize hdg hW hn ⟨r1, r2, rfl, hx, hi, sta_is al S, hz, sta_is al F, rf⟩
  exact ⟨v, B, X', ⟨[], ⟨hv, rfl, hh⟩, hl, hk, hs⟩, st⟩
end StrChars.Road
end Jvm.Pilot.@@N@@
namespace Jvm.RoadKit
open Sem ClassFile Op Lib Jvm.Stand Jvm.Free Jvm.LawKit
section New
variable {p : Program} {l : Launch} {e : Env} {R : Room} {s : State} {m : MethodId} {args : Array Value} {below : List Frame} {meth : Method} {c : Code} {T : State} {locs : List Loc} {cells slots : Nat}
theorem retI (X : Stand p l e R s m args below meth c T locs cells slots) (hx : p.tables.exec = Jvm.exec) {pc : Nat} {Ls : Array Slot} {z : Int32} {rest : List Value} (hret : meth.sig.returnType = some .int) (hd : decode c.code pc = .ok (.ireturn, 1)) {fs : List Frame}
    (hl : ∀ (f : JFrame) (acts : List Action), f.method = m → f.locked = none → f.entered = [] → (doReturn e (T.setTop f) acts (some (.int z))).1 = T.setFrames fs) : Steps p.tables e below (T.setTop (mkF m pc Ls (.int z :: rest))) (T.setFrames fs) := by
  have hm' : T.vm.method? m = some meth := X.method'
  have hn : narrow .int (.int z) = .int z := rfl
  show Steps p.tables e below (T.setTop { method := m, pc := pc, locals := Ls, stack := _ :: rest, locked := none }) _
  jvm_step X.here [X.here.top, hx, hd, hm', hret, hn]
  first | (intro acts; rw [hl _ acts rfl rfl rfl]) | rw [hl _ _ rfl rfl rfl]
  exact Steps.refl _
theorem own_retZ (X : Stand p l e R s m args below meth c T locs cells slots) (hx : p.tables.exec = Jvm.exec) {pc : Nat} {Ls : Array Slot} {z : Int32} {rest : List Value} (hret : meth.sig.returnType = some .boolean) (hz : z &&& 1 = z) (hd : decode c.code pc = .ok (.ireturn, 1)) {fs : List Frame}
    (hl : ∀ (f : JFrame) (acts : List Action), f.method = m → f.locked = none → f.entered = [] → (doReturn e (T.setTop f) acts (some (.int z))).1 = T.setFrames fs) : Steps p.tables e below (T.setTop (mkF m pc Ls (.int z :: rest))) (T.setFrames fs) :=
  retN X hx (t := .boolean) hret (Or.inl rfl) hd (by have q : nar .boolean z = z := hz; rw [q]; exact hl)
theorem own_lrem {g : JFrame} {target : State} (X : Stand p l e R s m args below meth c T locs cells slots) (hx : p.tables.exec = Jvm.exec) (hg : g.method = m) {x y : Int64} {rest : List Value} (hd : decode c.code g.pc = .ok (.lrem, 1)) (hs : g.stack = .long y :: .long x :: rest) (hy : y ≠ 0)
    (hr : Steps p.tables e below (T.setTop { g with pc := g.pc + 1, stack := .long (x % y) :: rest }) target) : Steps p.tables e below (T.setTop g) target :=
  XS.lrem X.here hx hg hd hs hy (by rw [lrem_mod x y]; exact hr)
end New
end Jvm.RoadKit
namespace Jvm.Pilot.@@N@@
open Jvm Jvm.ClassFile Sem Op Lib Jvm.Free Jvm.Stand Jvm.LawKit Jvm.RoadKit Bundle Jvm.Pilot.@@N@@.Jvm.D
section Own
variable {p : Program} {l : Launch} {e : Env} {R : Room} {s : State} {m : MethodId} {args : Array Value} {below : List Frame} {meth : Method} {c : Code} {T : State} {locs : List Loc} {cells slots : Nat} {Z : State} {h h' : Heap} {a b : Addr} {ty : FieldType} {vs : List Value}
/-- the array at a, of elements of kind ty, holds just vs -/
def LA (Z : State) (h : Heap) (a : Addr) (ty : FieldType) (vs : List Value) : Prop := ∃ c : Cell, Arr Z h a c ty ∧ c.slots.toList = vs
theorem LA.lt (F : LA Z h a ty vs) : a < h.size := by obtain ⟨c, A, -⟩ := F; exact A.lt
theorem LA.ext (F : LA Z h a ty vs) (E : Ext h h') : LA Z h' a ty vs := by obtain ⟨c, A, r⟩ := F; exact ⟨c, A.ext E, r⟩
theorem LA.other {sl : Nat} {v : Value} (F : LA Z h b ty vs) (W : Wr h h' a sl v) (q : b ≠ a) : LA Z h' b ty vs := by obtain ⟨c, A, r⟩ := F; exact ⟨c, A.other W q, r⟩
theorem LA.keep {ws : List Addr} (F : LA Z h a ty vs) (K : Keep h h' ws) (q : a ∉ ws) : LA Z h' a ty vs := by obtain ⟨c, A, r⟩ := F; exact ⟨c, ⟨K.2.1 a c A.1 q, A.2⟩, r⟩
theorem LA.new {k : ClassId} {z : Int32} (A : Arr Z h a (newA k ty z) ty) (n : Nat) (q : z.toNatClampNeg = n) : LA Z h a ty (List.replicate n (defaultValue ty)) := ⟨_, A, by subst q; simp [newA]⟩
theorem own_stI (X : Stand p l e R s m args below meth c T locs cells slots) (hx : p.tables.exec = Jvm.exec) (hZ : Z.Warmed39 s.vm) (eT : T.heap = h) (A : LA Z h a .int vs) {j x : Int32} {i : Nat} (hj : j.toNatClampNeg = i) (hi : ¬ j < 0 ∧ i < vs.length) {g : JFrame} (hg : g.method = m) {rest : List Value} (hs : g.stack = .int x :: .int j :: .ref a :: rest) (hd : decode c.code g.pc = .ok (.iastore, 1)) :
    ∃ T' h', Stand p l e R s m args below meth c T' (locs ++ [⟨a, j.toNatClampNeg⟩]) cells slots ∧ T'.heap = h' ∧ Wr h h' a j.toNatClampNeg (.int x) ∧ LA Z h' a .int (vs.set i (.int x)) ∧ ∀ target, Steps p.tables e below (T'.setTop { g with pc := g.pc + 1, stack := rest }) target → Steps p.tables e below (T.setTop g) target := by
  obtain ⟨cl, A, rfl⟩ := A
  subst hj
  have hb : ¬ (j < 0 ∨ cl.slots.size ≤ j.toNatClampNeg) := fun q => q.elim hi.1 fun r => by have := hi.2; rw [Array.length_toList] at this; omega
  obtain ⟨T', h', X', e', W, st⟩ := stI X hx hZ eT A hb hg hs hd
  exact ⟨T', h', X', e', W, ⟨_, A.same W, by simp [Cell.setSlot]⟩, st⟩
theorem own_stJ (X : Stand p l e R s m args below meth c T locs cells slots) (hx : p.tables.exec = Jvm.exec) (hZ : Z.Warmed39 s.vm) (eT : T.heap = h) (A : LA Z h a .long vs) {j : Int32} {x : Int64} {i : Nat} (hj : j.toNatClampNeg = i) (hi : ¬ j < 0 ∧ i < vs.length) {g : JFrame} (hg : g.method = m) {rest : List Value} (hs : g.stack = .long x :: .int j :: .ref a :: rest) (hd : decode c.code g.pc = .ok (.lastore, 1)) :
    ∃ T' h', Stand p l e R s m args below meth c T' (locs ++ [⟨a, j.toNatClampNeg⟩]) cells slots ∧ T'.heap = h' ∧ Wr h h' a j.toNatClampNeg (.long x) ∧ LA Z h' a .long (vs.set i (.long x)) ∧ ∀ target, Steps p.tables e below (T'.setTop { g with pc := g.pc + 1, stack := rest }) target → Steps p.tables e below (T.setTop g) target := by
  obtain ⟨cl, A, rfl⟩ := A
  subst hj
  have hb : ¬ (j < 0 ∨ cl.slots.size ≤ j.toNatClampNeg) := fun q => q.elim hi.1 fun r => by have := hi.2; rw [Array.length_toList] at this; omega
  obtain ⟨T', h', X', e', W, st⟩ := stJ X hx hZ eT A hb hg hs hd
  exact ⟨T', h', X', e', W, ⟨_, A.same W, by simp [Cell.setSlot]⟩, st⟩
theorem own_at {cl : Cell} {j : Int32} {v : Value} (hn : ¬ j < 0) (hat : cl.slots.toList[j.toNatClampNeg]? = some v) : ¬ (j < 0 ∨ cl.slots.size ≤ j.toNatClampNeg) ∧ cl.slots[j.toNatClampNeg]? = some v := by
  have q : cl.slots[j.toNatClampNeg]? = some v := by rw [← Array.getElem?_toList]; exact hat
  exact ⟨fun r => r.elim hn fun z => absurd (Array.getElem?_eq_some_iff.mp q).1 (Nat.not_lt.mpr z), q⟩
theorem own_ldI (X : Stand p l e R s m args below meth c T locs cells slots) (hx : p.tables.exec = Jvm.exec) (hZ : Z.Warmed39 s.vm) (eT : T.heap = h) (A : LA Z h a .int vs) {j x : Int32} (hn : ¬ j < 0) (hat : vs[j.toNatClampNeg]? = some (.int x)) {g : JFrame} (hg : g.method = m) {rest : List Value} (hs : g.stack = .int j :: .ref a :: rest) (hd : decode c.code g.pc = .ok (.iaload, 1)) (target : State)
    (hr : Steps p.tables e below (T.setTop { g with pc := g.pc + 1, stack := .int x :: rest }) target) : Steps p.tables e below (T.setTop g) target := by
  obtain ⟨cl, A, rfl⟩ := A
  exact X.iaload hx (by rw [eT]; exact A.1) (State.isArrayOf_alike hZ.alike A.2.1) A.2.2 (own_at hn hat).1 (own_at hn hat).2 hg hs hd target hr
theorem own_ldJ (X : Stand p l e R s m args below meth c T locs cells slots) (hx : p.tables.exec = Jvm.exec) (hZ : Z.Warmed39 s.vm) (eT : T.heap = h) (A : LA Z h a .long vs) {j : Int32} {x : Int64} (hn : ¬ j < 0) (hat : vs[j.toNatClampNeg]? = some (.long x)) {g : JFrame} (hg : g.method = m) {rest : List Value} (hs : g.stack = .int j :: .ref a :: rest) (hd : decode c.code g.pc = .ok (.laload, 1)) (target : State)
    (hr : Steps p.tables e below (T.setTop { g with pc := g.pc + 1, stack := .long x :: rest }) target) : Steps p.tables e below (T.setTop g) target := by
  obtain ⟨cl, A, rfl⟩ := A
  exact X.laload hx (by rw [eT]; exact A.1) (State.isArrayOf_alike hZ.alike A.2.1) A.2.2 (own_at hn hat).1 (own_at hn hat).2 hg hs hd target hr
theorem own_len (X : Stand p l e R s m args below meth c T locs cells slots) (hx : p.tables.exec = Jvm.exec) (hZ : Z.Warmed39 s.vm) (eT : T.heap = h) (A : LA Z h a ty vs) {n : Int32} (hn : vs.length.toInt32 = n) {g : JFrame} (hg : g.method = m) {rest : List Value} (hs : g.stack = .ref a :: rest) (hd : decode c.code g.pc = .ok (.arraylength, 1)) (target : State)
    (hr : Steps p.tables e below (T.setTop { g with pc := g.pc + 1, stack := .int n :: rest }) target) : Steps p.tables e below (T.setTop g) target := by
  obtain ⟨cl, A, rfl⟩ := A
  refine X.arraylength hx (by rw [eT]; exact A.1) (State.isArrayOf_alike hZ.alike A.2.1) hg hs hd target ?_
  have q : cl.slots.size.toInt32 = n := by rw [← hn, Array.length_toList]
  rw [q]; exact hr
theorem own_clone {a0 : Array Value} (X : Stand p l e R s m args below meth c T locs cells slots) (hx : p.tables.exec = Jvm.exec) (hZ : Z.Warmed39 s.vm) {own ad : String} {index : Nat} (hown : s.vm.findClass own = some m.cls)
    (w1 : (Cond.methodLink own index ⟨ad, "clone", "()Ljava/lang/Object;"⟩).before a0 Z = true) (w2 : (Cond.sameMethod ad "java/lang/Object" "clone" "()Ljava/lang/Object;").before a0 Z = true) (w3 : (Cond.native ⟨"java/lang/Object", "clone", "()Ljava/lang/Object;"⟩).before a0 Z = true)
    (w4 : (Cond.instanceMethod ⟨"java/lang/Object", "clone", "()Ljava/lang/Object;"⟩).before a0 Z = true) (w5 : (Cond.selects ad ⟨ad, "clone", "()Ljava/lang/Object;"⟩ ⟨"java/lang/Object", "clone", "()Ljava/lang/Object;"⟩).before a0 Z = true) (w6 : (Cond.castable ad "java/lang/Cloneable").before a0 Z = true)
    (eT : T.heap = h) (A : LA Z h a ty vs) (E : Exa Z h a ad) (F : ∀ v ∈ vs, fits ty v = true) {g : JFrame} (hg : g.method = m) (hsize : g.locals.size = c.maxLocals) {rest : List Value} (hs : g.stack = .ref a :: rest) (hd : decode c.code g.pc = .ok (.invokevirtual index, 3))
    (hf : 1 ≤ R.frames) {W cap : Nat} (hW : 2 * g.monitorRoom + (rest.map fun v => v.category).sum ≤ W) (hl : W + 14 ≤ R.locals) (hcap : vs.length ≤ cap) (hc : cells + 1 ≤ R.cells) (hsl : slots + cap ≤ R.slots) :
    ∃ T' h', Stand p l e R s m args below meth c T' locs (cells + 1) (slots + cap) ∧ T'.heap = h' ∧ Ext h h' ∧ LA Z h' h.size ty vs ∧ Exa Z h' h.size ad ∧
      ∀ target, Steps p.tables e below (T'.setTop { g with pc := g.pc + 3, stack := .ref h.size :: rest }) target → Steps p.tables e below (T.setTop g) target := by
  obtain ⟨cl, A, rfl⟩ := A
  have FC : FitC Z cl := fitC_of A fun i hi v hv => F v (Array.mem_toList_iff.mpr (Array.mem_of_getElem? hv))
  obtain ⟨T', h', X', e', ex, A', E', st⟩ := cloneA X hx hZ hown w1 w2 w3 w4 w5 w6 eT A E FC hg hsize hs hd hf hW hl (by rw [Array.length_toList] at hcap; exact hcap) hc hsl
  exact ⟨T', h', X', e', ex, ⟨cloneOf cl, A', rfl⟩, E', st⟩
theorem own_fitsJ (xs : List Int64) : ∀ v ∈ xs.map Value.long, fits .long v = true := fun v hv => by
  obtain ⟨x, -, rfl⟩ := List.mem_map.mp hv
  rfl
theorem own_readJ {xs pr rest : List Int64} {x : Int64} {k : Nat} (e : xs = pr ++ x :: rest) (hk : k = pr.length) : (xs.map Value.long)[k]? = some (.long x) := by
  subst e hk
  simp
end Own
section OwnCalls
variable {p : Program} {l : Launch} {e : Env} {R : Room} {s : State} {m : MethodId} {args : Array Value} {below : List Frame} {meth : Method} {c : Code} {T : State} {locs : List Loc} {cells slots : Nat}
abbrev OPre (R : Room) (as' : Array Value) (h : Heap) (rm : Room) : Pt → Array Value → Prop := fun A a => a = as' ∧ A.U.heap = h ∧ A.cells + rm.cells ≤ R.cells ∧ A.slots + rm.slots ≤ R.slots
abbrev OPost (Q : Option Value → Heap → List Loc → Prop) (rm : Room) : Pt → Array Value → Option Value → Pt → Prop := fun A _ v B => ∃ L, Q v B.U.heap L ∧ B.locs = A.locs ++ L ∧ B.cells = A.cells + rm.cells ∧ B.slots = A.slots + rm.slots
theorem own_callS (X : Stand p l e R s m args below meth c T locs cells slots) (hx : p.tables.exec = Jvm.exec) {own : String} {index : Nat} {y : MethodName} {bytes : ByteArray} {maxL : Nat} {ret : Option FieldType}
    (hown : s.vm.findClass own = some m.cls) (hlink : (Cond.methodLink own index y).before args s = true) (hstat : (Cond.static y).before args s = true) (hinit : (Cond.initialized y.cls).before args s = true)
    (hcode : (Cond.code y bytes maxL ret).before args s = true) (hy : y.cls ≠ "java/lang/invoke/MethodHandle" ∧ y.cls ≠ "java/lang/invoke/VarHandle")
    {W : Nat} {as' : Array Value} {h : Heap} {rm : Room} {Q : Option Value → Heap → List Loc → Prop} (hK : Back l R p e below s args y 3 W (OPre R as' h rm) (OPost Q rm))
    {g : JFrame} (hg : g.method = m) (hsize : g.locals.size = c.maxLocals) {argsL rest : List Value} (hlen : ∀ sig, parseMethodDescriptor y.desc = some sig → argsL.length = sig.parameters.length)
    (hstack : g.stack = argsL.reverse ++ rest) (hW : 2 * g.monitorRoom + (rest.map fun v => v.category).sum ≤ W) (hdg : decode c.code g.pc = .ok (.invokestatic index, 3))
    (hpre : argsL.toArray = as' ∧ T.heap = h ∧ cells + rm.cells ≤ R.cells ∧ slots + rm.slots ≤ R.slots) :
    ∃ (v : Option Value) (T' : State) (L : List Loc), Stand p l e R s m args below meth c T' (locs ++ L) (cells + rm.cells) (slots + rm.slots) ∧ Q v T'.heap L ∧ Steps p.tables e below (T.setTop g) (T'.setTop { g with pc := g.pc + 3, stack := v.toList ++ rest }) := by
  obtain ⟨v, vm, ⟨T', L', k', n'⟩, -, X', ⟨Lc, hQ, e1, e2, e3⟩, st⟩ := Jvm.LawKit.callS X hx hown hlink hstat hinit hcode hy hK hg hsize hlen hstack hW hdg (fun _ _ => hpre)
  dsimp only [Pt.U, Pt.locs, Pt.cells, Pt.slots] at X' e1 e2 e3 st hQ
  subst e1 e2 e3
  exact ⟨v, T', Lc, X', hQ, st _ (Steps.refl _)⟩
theorem own_callN (X : Stand p l e R s m args below meth c T locs cells slots) (hx : p.tables.exec = Jvm.exec) {own : String} {index : Nat} {y : MethodName} (hy1 : y.name = "<init>")
    (hown : s.vm.findClass own = some m.cls) (hlink : (Cond.methodLink own index y).before args s = true) (hinst : (Cond.instanceMethod y).before args s = true) {bytes : ByteArray} {maxL : Nat} (hcode : (Cond.code y bytes maxL none).before args s = true)
    (hy : y.cls ≠ "java/lang/invoke/MethodHandle" ∧ y.cls ≠ "java/lang/invoke/VarHandle")
    {W : Nat} {as' : Array Value} {h : Heap} {rm : Room} {Q : Option Value → Heap → List Loc → Prop} (hK : Back l R p e below s args y 3 W (OPre R as' h rm) (OPost Q rm))
    {g : JFrame} (hg : g.method = m) (hsize : g.locals.size = c.maxLocals) {a : Addr} {argsL rest : List Value} (hlen : ∀ sig, parseMethodDescriptor y.desc = some sig → argsL.length = sig.parameters.length)
    (hstack : g.stack = argsL.reverse ++ .ref a :: rest) (hW : 2 * g.monitorRoom + (rest.map fun v => v.category).sum ≤ W) (hdg : decode c.code g.pc = .ok (.invokespecial index, 3))
    (hpre : (Value.ref a :: argsL).toArray = as' ∧ T.heap = h ∧ cells + rm.cells ≤ R.cells ∧ slots + rm.slots ≤ R.slots) :
    ∃ (v : Option Value) (T' : State) (L : List Loc), Stand p l e R s m args below meth c T' (locs ++ L) (cells + rm.cells) (slots + rm.slots) ∧ Q v T'.heap L ∧ Steps p.tables e below (T.setTop g) (T'.setTop { g with pc := g.pc + 3, stack := v.toList ++ rest }) := by
  obtain ⟨v, vm, ⟨T', L', k', n'⟩, -, X', ⟨Lc, hQ, e1, e2, e3⟩, st⟩ := X.specialBack hx hy1 hown hlink hinst hcode hy hK hg hsize (Steps.refl _) hlen hstack hW hdg (fun _ _ => hpre)
  dsimp only [Pt.U, Pt.locs, Pt.cells, Pt.slots] at X' e1 e2 e3 st hQ
  subst e1 e2 e3
  exact ⟨v, T', Lc, X', hQ, st⟩
theorem own_callV (X : Stand p l e R s m args below meth c T locs cells slots) (hx : p.tables.exec = Jvm.exec) {own C : String} {index : Nat} {y : MethodName}
    (hown : s.vm.findClass own = some m.cls) (hlink : (Cond.methodLink own index y).before args s = true) (hdecl : (Cond.declares y).before args s = true) (hsel : (Cond.selects C y y).before args s = true) (hinst : (Cond.instanceMethod y).before args s = true)
    (hy : y.cls ≠ "java/lang/invoke/MethodHandle" ∧ y.cls ≠ "java/lang/invoke/VarHandle")
    {W : Nat} {as' : Array Value} {h : Heap} {rm : Room} {Q : Option Value → Heap → List Loc → Prop} (hK : Back l R p e below s args y 3 W (OPre R as' h rm) (OPost Q rm))
    {b : Addr} {cB : ClassId} (hcB : s.vm.findClass C = some cB) (hrecv : IsOf cB T b)
    {g : JFrame} (hg : g.method = m) (hsize : g.locals.size = c.maxLocals) {argsL rest : List Value} (hlen : ∀ sig, parseMethodDescriptor y.desc = some sig → argsL.length = sig.parameters.length)
    (hstack : g.stack = argsL.reverse ++ .ref b :: rest) (hW : 2 * g.monitorRoom + (rest.map fun v => v.category).sum ≤ W) (hdg : decode c.code g.pc = .ok (.invokevirtual index, 3))
    (hpre : (Value.ref b :: argsL).toArray = as' ∧ T.heap = h ∧ cells + rm.cells ≤ R.cells ∧ slots + rm.slots ≤ R.slots) :
    ∃ (v : Option Value) (T' : State) (L : List Loc), Stand p l e R s m args below meth c T' (locs ++ L) (cells + rm.cells) (slots + rm.slots) ∧ Q v T'.heap L ∧ Steps p.tables e below (T.setTop g) (T'.setTop { g with pc := g.pc + 3, stack := v.toList ++ rest }) := by
  obtain ⟨v, vm, ⟨T', L', k', n'⟩, -, X', ⟨Lc, hQ, e1, e2, e3⟩, st⟩ := X.virtualBack hx hown hlink hdecl (notFace_of_selects (args := args) hsel) hsel hinst hy hK hcB hrecv hg hsize (Steps.refl _) hlen hstack hW hdg (fun _ _ => hpre)
  dsimp only [Pt.U, Pt.locs, Pt.cells, Pt.slots] at X' e1 e2 e3 st hQ
  subst e1 e2 e3
  exact ⟨v, T', Lc, X', hQ, st⟩
end OwnCalls
section OwnLits
variable {p : Program} {l : Launch} {e : Env} {R : Room} {s : State} {m : MethodId} {args : Array Value} {below : List Frame} {meth : Method} {c : Code} {T : State} {locs : List Loc} {cells slots : Nat} {Z : State} {a0 : Array Value} {h h' : Heap} {a : Addr} {cs : List Int32} {own text : String} {index : Nat} {vm0 : Vm}
/-- the String at a is compact and spells cs -/
def LS (Z : State) (h : Heap) (a : Addr) (cs : List Int32) : Prop := ∃ (t : Addr) (kb : ClassId), Exa Z h a "java/lang/String" ∧ Fld Z h a "java/lang/String" "value" "[B" (.ref t) ∧ Fld Z h a "java/lang/String" "coder" "B" (.int 0) ∧
  Arv Z h t kb .byte (Int32.ofNat cs.length) (cs.map fun c => Value.int (StrChars.lo8 c)) (.int 0)
theorem LS.ext (F : LS Z h a cs) (E : Ext h h') : LS Z h' a cs := by
  obtain ⟨t, kb, f1, f2, f3, f4⟩ := F
  exact ⟨t, kb, f1.ext E, f2.ext E, f3.ext E, f4.ext E⟩
/-- the text is Latin-1 and its chars are cs -/
def TX (text : String) (cs : List Int32) : Prop := (∀ c ∈ text.toList, c.toNat < 256) ∧ text.toList.map (fun c => Value.int (Jvm.Lit.byteI c.toNat.toUInt16)) = cs.map (fun c => Value.int (StrChars.lo8 c)) ∧ cs.length ≤ 4000
theorem own_ofNat {n : Nat} (hn : n ≤ 4000) : (Int32.ofNat n).toNatClampNeg = n ∧ ¬ Int32.ofNat n < 0 := by
  have q : (Int32.ofNat n).toInt = n := Int32.toInt_ofNat_small (by omega)
  refine ⟨?_, fun r => ?_⟩
  · show (Int32.ofNat n).toInt.toNat = n
    rw [q]; rfl
  · have r' := Int32.lt_iff_toInt_lt.mp r
    rw [q] at r'
    have z : (0 : Int32).toInt = 0 := rfl
    omega
/-- ldcCH, its String told as LS -/
theorem own_ldcC {EL : List (String × Nat)} (X : Stand p l e R (s.setVm vm0) m args below meth c T locs cells slots) (hx : p.tables.exec = Jvm.exec) (hZ : Z.Warmed39 vm0) (hown : vm0.findClass own = some m.cls) (w : (Cond.stringLink own index text).before a0 Z = true) (tx : TX text cs) (wS : ∀ a ∈ Bundle.stringAtoms, a.before a0 Z = true)
    (eT : T.heap = h) {k0 : Nat} (hS : s.Since vm0 k0) (hk : k0 ≤ h.size) (lk : EW Z a0 EL) (hmem : (own, index) ∈ EL) (H : CHv Z EL vm0 h) {g : JFrame} (hg : g.method = m) (hd : decode c.code g.pc = .ok (.ldc index, 2)) {n : Nat} (hn : 4 * text.toList.length ≤ n) (hbig : n ≤ 536870912) (hc : cells + 2 ≤ R.cells) (hl' : slots + (n + 4) ≤ R.slots) :
    ∃ (a : Addr) (T' : State) (h' : Heap) (k1 : Nat), Stand p l e R (s.setVm T'.vm) m args below meth c T' locs (cells + 2) (slots + (n + 4)) ∧ T'.heap = h' ∧ Ext h h' ∧ s.Since T'.vm k1 ∧ k1 ≤ h'.size ∧ Z.Warmed39 (s.setVm T'.vm).vm ∧ (s.setVm T'.vm).vm.findClass own = some m.cls ∧
      LS Z h' a cs ∧ CHr Z EL vm0 h T'.vm h' ∧ ∀ target, Steps p.tables e below (T'.setTop { g with pc := g.pc + 2, stack := .ref a :: g.stack }) target → Steps p.tables e below (T.setTop g) target := by
  obtain ⟨n1, n2⟩ := own_ofNat tx.2.2
  obtain ⟨a, T', h', k1, b, k, r1, r2, r3, r4, r5, r6, r7, f1, f2, f3, f4, -, -, hC, -, -, st⟩ := ldcCH X hx hZ hown w wS eT hS hk lk hmem H (z := Int32.ofNat cs.length) ⟨tx.1, tx.2.1⟩ n2 (by rw [n1, List.length_map]) hg hd hn hbig hc hl'
  exact ⟨a, T', h', k1, r1, r2, r3, r4, r5, r6, r7, ⟨b, k, f1, f3, f2, f4⟩, hC, st⟩
end OwnLits
section OwnStr
variable {p : Program} {l : Launch} {e : Env} {R : Room} {s : State} {m : MethodId} {args : Array Value} {below : List Frame} {meth : Method} {c : Code} {T : State} {locs : List Loc} {cells slots : Nat} {Z : State} {a0 : Array Value} {h : Heap}
abbrev NPre (R : Room) (as' : Array Value) (h : Heap) : Pt → Array Value → Prop := fun P a => a = as' ∧ P.U.heap = h ∧ P.cells + 0 ≤ R.cells ∧ P.slots + 0 ≤ R.slots
abbrev NPost (h : Heap) (Qv : Option Value → Prop) : Pt → Array Value → Option Value → Pt → Prop := fun P _ v B => ∃ L, (Qv v ∧ L = [] ∧ B.U.heap = h) ∧ B.locs = P.locs ++ L ∧ B.cells = P.cells + 0 ∧ B.slots = P.slots + 0
/-- an invokevirtual that moves nothing -/
theorem own_callP (X : Stand p l e R s m args below meth c T locs cells slots) (hx : p.tables.exec = Jvm.exec) {own C : String} {index : Nat} {y : MethodName}
    (hown : s.vm.findClass own = some m.cls) (hlink : (Cond.methodLink own index y).before args s = true) (hdecl : (Cond.declares y).before args s = true) (hsel : (Cond.selects C y y).before args s = true) (hinst : (Cond.instanceMethod y).before args s = true)
    (hy : y.cls ≠ "java/lang/invoke/MethodHandle" ∧ y.cls ≠ "java/lang/invoke/VarHandle")
    {W : Nat} {as' : Array Value} {h : Heap} {Qv : Option Value → Prop} (hK : Back l R p e below s args y 3 W (NPre R as' h) (NPost h Qv))
    {b : Addr} {cB : ClassId} (hcB : s.vm.findClass C = some cB) (hrecv : IsOf cB T b)
    {g : JFrame} (hg : g.method = m) (hsize : g.locals.size = c.maxLocals) {argsL rest : List Value} (hlen : ∀ sig, parseMethodDescriptor y.desc = some sig → argsL.length = sig.parameters.length)
    (hstack : g.stack = argsL.reverse ++ .ref b :: rest) (hW : 2 * g.monitorRoom + (rest.map fun v => v.category).sum ≤ W) (hdg : decode c.code g.pc = .ok (.invokevirtual index, 3))
    (hpre : (Value.ref b :: argsL).toArray = as' ∧ T.heap = h ∧ cells + 0 ≤ R.cells ∧ slots + 0 ≤ R.slots) :
    ∃ (v : Option Value) (T' : State), Stand p l e R s m args below meth c T' locs cells slots ∧ T'.heap = h ∧ Qv v ∧ Steps p.tables e below (T.setTop g) (T'.setTop { g with pc := g.pc + 3, stack := v.toList ++ rest }) := by
  obtain ⟨v, vm, ⟨T', L', k', n'⟩, -, X', ⟨Lc, ⟨hQ, hL, hh⟩, e1, e2, e3⟩, st⟩ := X.virtualBack hx hown hlink hdecl (notFace_of_selects (args := args) hsel) hsel hinst hy hK hcB hrecv hg hsize (Steps.refl _) hlen hstack hW hdg (fun _ _ => hpre)
  dsimp only [Pt.U, Pt.locs, Pt.cells, Pt.slots] at X' e1 e2 e3 st hh
  subst e1 e2 e3 hL
  rw [List.append_nil] at X'
  exact ⟨v, T', X', hh, hQ, st⟩
/-- an invokestatic that moves nothing -/
theorem own_callQ (X : Stand p l e R s m args below meth c T locs cells slots) (hx : p.tables.exec = Jvm.exec) {own : String} {index : Nat} {y : MethodName} {bytes : ByteArray} {maxL : Nat} {ret : Option FieldType}
    (hown : s.vm.findClass own = some m.cls) (hlink : (Cond.methodLink own index y).before args s = true) (hstat : (Cond.static y).before args s = true) (hinit : (Cond.initialized y.cls).before args s = true)
    (hcode : (Cond.code y bytes maxL ret).before args s = true) (hy : y.cls ≠ "java/lang/invoke/MethodHandle" ∧ y.cls ≠ "java/lang/invoke/VarHandle")
    {W : Nat} {as' : Array Value} {h : Heap} {Qv : Option Value → Prop} (hK : Back l R p e below s args y 3 W (NPre R as' h) (NPost h Qv))
    {g : JFrame} (hg : g.method = m) (hsize : g.locals.size = c.maxLocals) {argsL rest : List Value} (hlen : ∀ sig, parseMethodDescriptor y.desc = some sig → argsL.length = sig.parameters.length)
    (hstack : g.stack = argsL.reverse ++ rest) (hW : 2 * g.monitorRoom + (rest.map fun v => v.category).sum ≤ W) (hdg : decode c.code g.pc = .ok (.invokestatic index, 3))
    (hpre : argsL.toArray = as' ∧ T.heap = h ∧ cells + 0 ≤ R.cells ∧ slots + 0 ≤ R.slots) :
    ∃ (v : Option Value) (T' : State), Stand p l e R s m args below meth c T' locs cells slots ∧ T'.heap = h ∧ Qv v ∧ Steps p.tables e below (T.setTop g) (T'.setTop { g with pc := g.pc + 3, stack := v.toList ++ rest }) := by
  obtain ⟨v, vm, ⟨T', L', k', n'⟩, -, X', ⟨Lc, ⟨hQ, hL, hh⟩, e1, e2, e3⟩, st⟩ := Jvm.LawKit.callS X hx hown hlink hstat hinit hcode hy hK hg hsize hlen hstack hW hdg (fun _ _ => hpre)
  dsimp only [Pt.U, Pt.locs, Pt.cells, Pt.slots] at X' e1 e2 e3 st hh
  subst e1 e2 e3 hL
  rw [List.append_nil] at X'
  exact ⟨v, T', X', hh, hQ, st _ (Steps.refl _)⟩
/-- an invokestatic of a callee that may intern and keeps RW14's invariant -/
theorem own_callH {vm0 : Vm} {k0 : Nat} {EL : List (String × Nat)} (X : Stand p l e R (s.setVm vm0) m args below meth c T locs cells slots) (hx : p.tables.exec = Jvm.exec) {own : String} {index : Nat} {y : MethodName} {bytes : ByteArray} {maxL : Nat} {ret : Option FieldType}
    (hS : s.Since vm0 k0) (hk : k0 ≤ T.heap.size) (hZ : Z.Warmed39 vm0)
    (hown : (s.setVm vm0).vm.findClass own = some m.cls) (hlink : (Cond.methodLink own index y).before args (s.setVm vm0) = true) (hstat : (Cond.static y).before args (s.setVm vm0) = true) (hinit : (Cond.initialized y.cls).before args (s.setVm vm0) = true)
    (hcode : (Cond.code y bytes maxL ret).before args (s.setVm vm0) = true) (hy : y.cls ≠ "java/lang/invoke/MethodHandle" ∧ y.cls ≠ "java/lang/invoke/VarHandle")
    {W : Nat} {as' : Array Value} {h : Heap} {rm : Room} {Q : Option Value → Heap → List Loc → Prop} (hK : BackS l R p e below (s.setVm vm0) args y 3 W (fun A a => a = as' ∧ A.U.heap = h ∧ A.cells + rm.cells ≤ R.cells ∧ A.slots + rm.slots ≤ R.slots) (fun A _ v B => ∃ L, Q v B.U.heap L ∧ B.locs = A.locs ++ L ∧ B.cells = A.cells + rm.cells ∧ B.slots = A.slots + rm.slots ∧ CHr Z EL vm0 h B.U.vm B.U.heap))
    {g : JFrame} (hg : g.method = m) (hsize : g.locals.size = c.maxLocals) {argsL rest : List Value} (hlen : ∀ sig, parseMethodDescriptor y.desc = some sig → argsL.length = sig.parameters.length)
    (hstack : g.stack = argsL.reverse ++ rest) (hW : 2 * g.monitorRoom + (rest.map fun v => v.category).sum ≤ W) (hdg : decode c.code g.pc = .ok (.invokestatic index, 3))
    (hpre : argsL.toArray = as' ∧ T.heap = h ∧ cells + rm.cells ≤ R.cells ∧ slots + rm.slots ≤ R.slots) :
    ∃ (v : Option Value) (T' : State) (L : List Loc), Stand p l e R (s.setVm T'.vm) m args below meth c T' (locs ++ L) (cells + rm.cells) (slots + rm.slots) ∧ s.Since T'.vm T'.heap.size ∧ Z.Warmed39 (s.setVm T'.vm).vm ∧ (s.setVm T'.vm).vm.findClass own = some m.cls ∧ T.heap.size ≤ T'.heap.size ∧ Q v T'.heap L ∧ CHr Z EL vm0 h T'.vm T'.heap ∧
      Steps p.tables e below (T.setTop g) (T'.setTop { g with pc := g.pc + 3, stack := v.toList ++ rest }) := by
  obtain ⟨v, vm, ⟨T', L', k', n'⟩, -, X', hSn, hgr, ⟨Lc, hQ, e1, e2, e3, hC⟩, st⟩ := callSS X hx hown hlink hstat hinit hcode hy hK hg hsize hlen hstack hW hdg (fun _ _ => hpre)
  dsimp only [Pt.U, Pt.locs, Pt.cells, Pt.slots] at X' e1 e2 e3 st hQ hC hSn hgr
  subst e1 e2 e3
  exact ⟨v, T', Lc, X', hS.trans hSn (Nat.le_trans hk hgr), State.Warmed39.trans (t := s.setVm vm0) hZ hSn.1, by rw [show (s.setVm T'.vm).vm = T'.vm from rfl, hSn.1.alike.findClass]; exact hown, hgr, hQ, hC, st⟩
/-- length, charAt, equals of Strings that spell known chars -/
theorem own_len0 {len W : Nat} {cs : List Int32} {z : Int32} {x : Addr} (hZ : Z.Warmed39 s.vm) (hw : ∀ d ∈ tables_1, d.before a0 Z = true) {kI : Nat} (wi : (Jvm.Cond.instantiable "java/lang/String" kI).before a0 Z = true) (E : LS Z h x cs) (hb : ∀ c ∈ cs, ¬ c < 0 ∧ ¬ (255 : Int32) < c) (l2 : cs.length ≤ 4000) (S : Sta Z h "java/lang/String" "COMPACT_STRINGS" "Z" (.int z)) (hz : ¬ z = 0) (hfr : 2 ≤ R.frames) (hlo : W + 25 ≤ R.locals) :
    Back l R p e below s args (⟨"java/lang/String", "length", "()I"⟩ : MethodName) len W (NPre R #[.ref x] h) (NPost h fun v => v = some (.int (Int32.ofNat cs.length))) := by
  obtain ⟨t, kb, f1, f2, f3, f4⟩ := E
  exact StrChars.Road.lenW hZ (fun d hd => hw d ((by decide +kernel : ∀ d ∈ StrChars.Road.wordsLen, d ∈ tables_1) d hd)) wi f1 f2 f3 f4 (Or.inl ⟨rfl, rfl, rfl, fun c hc => (hb c hc).2⟩) (fun c hc => ⟨(hb c hc).1, fun q => (hb c hc).2 (Int32.lt_trans (by decide) q)⟩) S hz l2 hfr hlo
theorem own_ch0 {len W : Nat} {cs : List Int32} {z j : Int32} {fm : Value} {i : Nat} {x : Addr} (hZ : Z.Warmed39 s.vm) (hw : ∀ d ∈ tables_1, d.before a0 Z = true) {kI : Nat} (wi : (Jvm.Cond.instantiable "java/lang/String" kI).before a0 Z = true) (E : LS Z h x cs) (hb : ∀ c ∈ cs, ¬ c < 0 ∧ ¬ (255 : Int32) < c) (l2 : cs.length ≤ 4000) (S : Sta Z h "java/lang/String" "COMPACT_STRINGS" "Z" (.int z)) (hz : ¬ z = 0)
    (F : Sta Z h "jdk/internal/util/Preconditions" "SIOOBE_FORMATTER" "Ljava/util/function/BiFunction;" fm) (rf : fm.isRef = true) (hi : i < cs.length) (hj : j = Int32.ofNat i) {d : Int32} (hd : cs.getD i 0 = d) (hfr : 4 ≤ R.frames) (hlo : W + 53 ≤ R.locals) :
    Back l R p e below s args (⟨"java/lang/String", "charAt", "(I)C"⟩ : MethodName) len W (NPre R #[.ref x, .int j] h) (NPost h fun v => v = some (.int d)) := by
  obtain ⟨t, kb, f1, f2, f3, f4⟩ := E
  subst hd
  exact StrChars.Road.chN hZ (fun d hd => hw d ((by decide +kernel : ∀ d ∈ StrChars.Road.wordsChN, d ∈ tables_1) d hd)) wi f1 f2 f3 f4 (Or.inl ⟨rfl, rfl, rfl, fun c hc => (hb c hc).2⟩) (fun c hc => ⟨(hb c hc).1, fun q => (hb c hc).2 (Int32.lt_trans (by decide) q)⟩) S hz F rf l2 hi hj hfr hlo
theorem own_eq0 {len W : Nat} {cs ds : List Int32} {z : Int32} {x y : Addr} (hZ : Z.Warmed39 s.vm) (hw : ∀ d ∈ tables_1, d.before a0 Z = true) {kI : Nat} (wi : (Jvm.Cond.instantiable "java/lang/String" kI).before a0 Z = true) (E : LS Z h x cs) (hb : ∀ c ∈ cs, ¬ c < 0 ∧ ¬ (255 : Int32) < c) (l2 : cs.length ≤ 4000) (E' : LS Z h y ds) (hb' : ∀ c ∈ ds, ¬ c < 0 ∧ ¬ (255 : Int32) < c) (l2' : ds.length ≤ 4000)
    (S : Sta Z h "java/lang/String" "COMPACT_STRINGS" "Z" (.int z)) (hz : ¬ z = 0) (hfr : 2 ≤ R.frames) (hlo : W + 28 ≤ R.locals) :
    Back l R p e below s args (⟨"java/lang/String", "equals", "(Ljava/lang/Object;)Z"⟩ : MethodName) len W (NPre R #[.ref x, .ref y] h) (NPost h fun v => (v = some (.int 1) ∧ cs = ds) ∨ (v = some (.int 0) ∧ ¬ cs = ds)) := by
  obtain ⟨t, kb, f1, f2, f3, f4⟩ := E
  obtain ⟨t', kb', g1, g2, g3, g4⟩ := E'
  exact StrChars.Road.eqW hZ (fun d hd => hw d ((by decide +kernel : ∀ d ∈ StrChars.Road.wordsEq, d ∈ tables_1) d hd)) wi f1 f2 f3 f4 (Or.inl ⟨rfl, rfl, rfl, fun c hc => (hb c hc).2⟩) (fun c hc => ⟨(hb c hc).1, fun q => (hb c hc).2 (Int32.lt_trans (by decide) q)⟩) l2
    g1 g2 g3 g4 (Or.inl ⟨rfl, rfl, rfl, fun c hc => (hb' c hc).2⟩) (fun c hc => ⟨(hb' c hc).1, fun q => (hb' c hc).2 (Int32.lt_trans (by decide) q)⟩) l2' S hz hfr hlo
end OwnStr
theorem own_exa {Z : State} {h : Heap} {a : Addr} {cs : List Int32} (F : LS Z h a cs) : Exa Z h a "java/lang/String" := by
  obtain ⟨_, _, f, -⟩ := F
  exact f
theorem own_wS {Z : State} {a0 : Array Value} (hw : ∀ d ∈ tables_1, d.before a0 Z = true) : ∀ a ∈ Bundle.stringAtoms, a.before a0 Z = true := fun a ha => hw a ((by decide +kernel : ∀ a ∈ Bundle.stringAtoms, a ∈ tables_1) a ha)
theorem own_tx_amp : TX "&amp;" ([38, 97, 109, 112, 59] : List Int32) := ⟨by decide, rfl, by decide⟩
theorem own_hb_amp : ∀ c ∈ ([38, 97, 109, 112, 59] : List Int32), ¬ c < 0 ∧ ¬ (255 : Int32) < c := by decide
theorem own_tx_lt : TX "&lt;" ([38, 108, 116, 59] : List Int32) := ⟨by decide, rfl, by decide⟩
theorem own_hb_lt : ∀ c ∈ ([38, 108, 116, 59] : List Int32), ¬ c < 0 ∧ ¬ (255 : Int32) < c := by decide
theorem own_tx_gt : TX "&gt;" ([38, 103, 116, 59] : List Int32) := ⟨by decide, rfl, by decide⟩
theorem own_hb_gt : ∀ c ∈ ([38, 103, 116, 59] : List Int32), ¬ c < 0 ∧ ¬ (255 : Int32) < c := by decide
theorem own_tx_quot : TX "&quot;" ([38, 113, 117, 111, 116, 59] : List Int32) := ⟨by decide, rfl, by decide⟩
theorem own_hb_quot : ∀ c ∈ ([38, 113, 117, 111, 116, 59] : List Int32), ¬ c < 0 ∧ ¬ (255 : Int32) < c := by decide
theorem own_tx_tab : TX "&#9;" ([38, 35, 57, 59] : List Int32) := ⟨by decide, rfl, by decide⟩
theorem own_hb_tab : ∀ c ∈ ([38, 35, 57, 59] : List Int32), ¬ c < 0 ∧ ¬ (255 : Int32) < c := by decide
theorem own_tx_lf : TX "&#10;" ([38, 35, 49, 48, 59] : List Int32) := ⟨by decide, rfl, by decide⟩
theorem own_hb_lf : ∀ c ∈ ([38, 35, 49, 48, 59] : List Int32), ¬ c < 0 ∧ ¬ (255 : Int32) < c := by decide
theorem own_tx_cr : TX "&#13;" ([38, 35, 49, 51, 59] : List Int32) := ⟨by decide, rfl, by decide⟩
theorem own_hb_cr : ∀ c ∈ ([38, 35, 49, 51, 59] : List Int32), ¬ c < 0 ∧ ¬ (255 : Int32) < c := by decide
theorem own_tx_apos : TX "&apos;" ([38, 97, 112, 111, 115, 59] : List Int32) := ⟨by decide, rfl, by decide⟩
theorem own_hb_apos : ∀ c ∈ ([38, 97, 112, 111, 115, 59] : List Int32), ¬ c < 0 ∧ ¬ (255 : Int32) < c := by decide
theorem own_lk {Z : State} {a0 : Array Value} (hw : ∀ d ∈ tables_1, d.before a0 Z = true) : EW Z a0 consts_1 := fun q hq => by
  simp only [consts_1, List.mem_cons, List.not_mem_nil, or_false] at hq
  rcases hq with rfl | rfl | rfl | rfl | rfl | rfl | rfl | rfl | rfl | rfl | rfl | rfl
  · exact ⟨_, (hw _ (List.mem_of_getElem? (i := 64) rfl)), by decide⟩
  · exact ⟨_, (hw _ (List.mem_of_getElem? (i := 5) rfl)), by decide⟩
  · exact ⟨_, (hw _ (List.mem_of_getElem? (i := 73) rfl)), by decide⟩
  · exact ⟨_, (hw _ (List.mem_of_getElem? (i := 72) rfl)), by decide⟩
  · exact ⟨_, (hw _ (List.mem_of_getElem? (i := 74) rfl)), by decide⟩
  · exact ⟨_, (hw _ (List.mem_of_getElem? (i := 75) rfl)), by decide⟩
  · exact ⟨_, (hw _ (List.mem_of_getElem? (i := 65) rfl)), by decide⟩
  · exact ⟨_, (hw _ (List.mem_of_getElem? (i := 52) rfl)), by decide⟩
  · exact ⟨_, (hw _ (List.mem_of_getElem? (i := 63) rfl)), by decide⟩
  · exact ⟨_, (hw _ (List.mem_of_getElem? (i := 66) rfl)), by decide⟩
  · exact ⟨_, (hw _ (List.mem_of_getElem? (i := 67) rfl)), by decide⟩
  · exact ⟨_, (hw _ (List.mem_of_getElem? (i := 68) rfl)), by decide⟩
theorem own_miss {c : Int32} (h9 : ¬ c = 9) (h10 : ¬ c = 10) (h13 : ¬ c = 13) (h34 : ¬ c = 34) (h38 : ¬ c = 38) (h60 : ¬ c = 60) (h62 : ¬ c = 62) : (#[(9, 103), (10, 116), (13, 129), (34, 90), (38, 67), (60, 72), (62, 77)] : Array (Int × Int)).find? (·.1 == c.toInt) = none := by
  rw [Array.find?_eq_none]
  intro x hx
  simp only [List.mem_toArray, List.mem_cons, List.not_mem_nil, or_false] at hx
  rcases hx with rfl | rfl | rfl | rfl | rfl | rfl | rfl
  · exact fun q => h9 (Int32.toInt_inj.mp ((of_decide_eq_true q : (9 : Int) = c.toInt).symm))
  · exact fun q => h10 (Int32.toInt_inj.mp ((of_decide_eq_true q : (10 : Int) = c.toInt).symm))
  · exact fun q => h13 (Int32.toInt_inj.mp ((of_decide_eq_true q : (13 : Int) = c.toInt).symm))
  · exact fun q => h34 (Int32.toInt_inj.mp ((of_decide_eq_true q : (34 : Int) = c.toInt).symm))
  · exact fun q => h38 (Int32.toInt_inj.mp ((of_decide_eq_true q : (38 : Int) = c.toInt).symm))
  · exact fun q => h60 (Int32.toInt_inj.mp ((of_decide_eq_true q : (60 : Int) = c.toInt).symm))
  · exact fun q => h62 (Int32.toInt_inj.mp ((of_decide_eq_true q : (62 : Int) = c.toInt).symm))
theorem own_and15 (x : Int32) : ¬ (x &&& 15) < 0 := by
  intro q
  have q' := Int32.lt_iff_toInt_lt.mp q
  have z : (0 : Int32).toInt = 0 := rfl
  have r : (x &&& 15).toInt = ((x &&& 15).toBitVec.toNat : Int) := by
    have b : (x &&& 15).toBitVec.toNat < 2 ^ 31 := by
      rw [Int32.toBitVec_and, BitVec.toNat_and]
      exact Nat.lt_of_le_of_lt Nat.and_le_right (by decide)
    show (x &&& 15).toBitVec.toInt = _
    rw [BitVec.toInt_eq_toNat_of_lt (by omega)]
  omega
theorem own_tab {x : Int32} (h0 : ¬ x < 0) (h8 : x < 8) (vs : List Int32) (hl : vs.length = 8) : ∃ y : Int32, (vs.map Value.int)[x.toNatClampNeg]? = some (.int y) := by
  have a := Int32.lt_iff_toInt_lt.mp h8
  have e8 : (8 : Int32).toInt = 8 := rfl
  have q : x.toNatClampNeg < vs.length := by
    show x.toInt.toNat < _
    rw [hl]; omega
  exact ⟨vs[x.toNatClampNeg], by simp [q]⟩
theorem d12_0 : decode method_3_code 0 = .ok (.aload_n 0, 1) := by decide +kernel
theorem d12_1 : decode method_3_code 1 = .ok (.iload_n 1, 1) := by decide +kernel
theorem pd_0 : parseMethodDescriptor "(I)C" = some ⟨[.int], some .char⟩ := by decide +kernel
theorem d12_2 : decode method_3_code 2 = .ok (.invokevirtual 19, 3) := by decide +kernel
theorem d12_5 : decode method_3_code 5 = .ok (.istore_n 2, 1) := by decide +kernel
theorem d12_6 : decode method_3_code 6 = .ok (.iload_n 2, 1) := by decide +kernel
theorem d12_7 : decode method_3_code 7 = .ok (.bipush 48, 2) := by decide +kernel
theorem d12_9 : decode method_3_code 9 = .ok (.if_icmp .lt 14, 3) := by decide +kernel
theorem d12_12 : decode method_3_code 12 = .ok (.iload_n 2, 1) := by decide +kernel
theorem d12_13 : decode method_3_code 13 = .ok (.bipush 57, 2) := by decide +kernel
theorem d12_15 : decode method_3_code 15 = .ok (.if_icmp .gt 8, 3) := by decide +kernel
theorem d12_18 : decode method_3_code 18 = .ok (.iload_n 2, 1) := by decide +kernel
theorem d12_19 : decode method_3_code 19 = .ok (.bipush 48, 2) := by decide +kernel
theorem d12_21 : decode method_3_code 21 = .ok (.isub, 1) := by decide +kernel
theorem d12_22 : decode method_3_code 22 = .ok (.ireturn, 1) := by decide +kernel
theorem pn_0 : plainName "com/example/distill_trees/distilltrees/io/XmlWriterReferencePinLaw" = true := by first | (simp [plainName, overriddenIn]; done) | decide +kernel
theorem ef_rm12 (m : MethodId) (x0 : Addr) (x1 : Int32) : entryFrame m #[(.ref x0), (.int x1)] 3 = mkF m 0 #[.val (.ref x0), .val (.int x1), .unset] [] := by first | (simp [entryFrame, mkF, argsToLocals, Value.category]; done) | rfl
def Q12 (Z : State) (ad : Addr) (ix : Int32) (cs : List Int32) (k : Nat) (d : Int32) (z : Int32) (fm : Value) (h0 : Heap) (n0 : Nat) (v : Option Value) (h : Heap) (L : List Loc) : Prop := v = some (.int (d - 48)) ∧ L = [] ∧ h = h0
set_option maxRecDepth 65536 in
set_option maxHeartbeats 40000000 in
theorem rm12 (l : Launch) (Z : State) (a0 : Array Value) (hw : ∀ d ∈ tables_1, d.before a0 Z = true) (ws : List Jvm.Cond) (ad : Addr) (ix : Int32) (cs : List Int32) (k : Nat) (d : Int32) (z : Int32) (fm : Value) (h0 : Heap) (n0 : Nat) (Z0 : n0 ≤ h0.size) (E0 : LS Z h0 ad cs) (hcb : ∀ c ∈ cs, ¬ c < 0 ∧ ¬ (255 : Int32) < c) (l2 : cs.length ≤ 4000) (O2 : Sta Z h0 "java/lang/String" "COMPACT_STRINGS" "Z" (.int z)) (hz : ¬ z = 0) (O4 : Sta Z h0 "jdk/internal/util/Preconditions" "SIOOBE_FORMATTER" "Ljava/util/function/BiFunction;" fm) (rf : fm.isRef = true) (hki : k < cs.length) (hj : ix = Int32.ofNat k) (hd : cs.getD k 0 = d) (h48 : ¬ d < 48) (h57 : ¬ (57 : Int32) < d) :
    MetFree l (⟨"com/example/distill_trees/distilltrees/io/XmlWriterReferencePinLaw", "digit", "(Ljava/lang/String;I)I"⟩ : MethodName) (head1 (Jvm.Cond.code (⟨"com/example/distill_trees/distilltrees/io/XmlWriterReferencePinLaw", "digit", "(Ljava/lang/String;I)I"⟩ : MethodName) method_3_code 3 (some .int) :: ws) ({ frames := 4, cells := 0, slots := 0, locals := 53 } : Room)) (fun aa U => aa = #[(.ref ad), (.int ix)] ∧ Z.Warmed39 U.vm ∧ U.heap = h0) (fun _ _ _ _ _ => True) (fun _ U o U' => ∃ v L, o = .returned v ∧ Q12 Z ad ix cs k d z fm h0 n0 v U'.heap L ∧ FrameEnd U o U' L ({ frames := 4, cells := 0, slots := 0, locals := 53 } : Room).cells ({ frames := 4, cells := 0, slots := 0, locals := 53 } : Room).slots) := by
  refine MetFree.of_bodySF (plainFor_of_name pn_0) hisR ?_
  intro p e s m args below meth c s₁ Bd hml0 hP hK
  obtain ⟨rfl, hZ, hh⟩ := hP
  have hZs := hZ
  have hx := Bd.exec
  have hby := Bd.bytes
  have hml : c.maxLocals = 3 := hml0
  have hown : s.vm.findClass "com/example/distill_trees/distilltrees/io/XmlWriterReferencePinLaw" = some m.cls := findClass_of_methodNamed Bd.named
  have hnm := (name_of_methodNamed Bd.named Bd.method).1
  have X0 : Stand p l e ({ frames := 4, cells := 0, slots := 0, locals := 53 } : Room) s m #[(.ref ad), (.int ix)] below meth c s₁ [] 0 0 := Stand.of_body Bd
  have e0 : s₁.heap = h0 := by rw [← hh, Bd.state]; rfl
  have N0 := Fr.nil n0
  obtain ⟨Ω, hΩ⟩ : ∃ z, z = s₁.setTop (entryFrame m #[(.ref ad), (.int ix)] 3) := ⟨_, rfl⟩
  have S0 : Steps p.tables e below Ω (s₁.setTop (mkF m 0 #[.val (.ref ad), .val (.int ix), .unset] [])) := by rw [hΩ]; exact castTop (ef_rm12 m ad ix) (Steps.refl _)
  have S1 : Steps p.tables e below Ω (s₁.setTop (mkF m 2 #[.val (.ref ad), .val (.int ix), .unset] [(.int ix), (.ref ad)])) := by
    refine S0.trans ?_
    refine XS.aloadN X0.here hx rfl (hb hby d12_0) rfl rfl ?_
    show Steps p.tables e below (s₁.setTop (mkF m 1 #[.val (.ref ad), .val (.int ix), .unset] [(.ref ad)])) _
    refine XS.iloadN X0.here hx rfl (hb hby d12_1) rfl ?_
    exact Steps.refl _
  obtain ⟨cq2, kq2, q2a, q2b, q2c⟩ := isOf hZ e0 (own_exa E0)
  obtain ⟨v2, T2, X2, e2, hv2, st2⟩ := own_callP X0 hx (y := (⟨"java/lang/String", "charAt", "(I)C"⟩ : MethodName)) hown (mvT hZ (hw _ (List.mem_of_getElem? (i := 30) rfl))) (mvT hZ (hw _ (List.mem_of_getElem? (i := 31) rfl))) (mvT hZ (hw _ (List.mem_of_getElem? (i := 33) rfl))) (mvT hZ (hw _ (List.mem_of_getElem? (i := 32) rfl))) (by decide) (Qv := fun v => v = some (.int d)) (own_ch0 (W := 0) hZ hw (hw _ (List.mem_of_getElem? (i := 7) rfl)) E0 hcb l2 O2 hz O4 rf hki hj hd (by decide) (by decide)) q2a q2c (g := (mkF m 2 #[.val (.ref ad), .val (.int ix), .unset] [(.int ix), (.ref ad)])) rfl (by rw [hml]; rfl) (argsL := [(.int ix)]) (rest := []) (lenOf pd_0 rfl) rfl (by show 2 * 0 + _ ≤ _; exact Nat.le_of_eq rfl) (hb hby d12_2) ⟨rfl, e0, (by decide), (by decide)⟩
  rw [hv2] at st2
  have S3 : Steps p.tables e below Ω (T2.setTop (mkF m 5 #[.val (.ref ad), .val (.int ix), .unset] [(.int d)])) := S1.trans st2
  have S4 : Steps p.tables e below Ω (T2.setTop (mkF m 9 #[.val (.ref ad), .val (.int ix), .val (.int d)] [(.int (48 : Int32)), (.int d)])) := by
    refine S3.trans ?_
    refine XS.istoreN X2.here hx rfl (hb hby d12_5) rfl (l' := #[.val (.ref ad), .val (.int ix), .val (.int d)]) rfl ?_
    show Steps p.tables e below (T2.setTop (mkF m 6 #[.val (.ref ad), .val (.int ix), .val (.int d)] [])) _
    refine XS.iloadN X2.here hx rfl (hb hby d12_6) rfl ?_
    show Steps p.tables e below (T2.setTop (mkF m 7 #[.val (.ref ad), .val (.int ix), .val (.int d)] [(.int d)])) _
    refine XS.bipush X2.here hx rfl (hb hby d12_7) ?_
    exact Steps.refl _
  have S5 : Steps p.tables e below Ω (T2.setTop (mkF m 15 #[.val (.ref ad), .val (.int ix), .val (.int d)] [(.int (57 : Int32)), (.int d)])) := by
    refine S4.trans ?_
    refine XS.icmpNo X2.here hx rfl (hb hby d12_9) rfl (XT.ii_lt_f h48) ?_
    show Steps p.tables e below (T2.setTop (mkF m 12 #[.val (.ref ad), .val (.int ix), .val (.int d)] [])) _
    refine XS.iloadN X2.here hx rfl (hb hby d12_12) rfl ?_
    show Steps p.tables e below (T2.setTop (mkF m 13 #[.val (.ref ad), .val (.int ix), .val (.int d)] [(.int d)])) _
    refine XS.bipush X2.here hx rfl (hb hby d12_13) ?_
    exact Steps.refl _
  have S6 : Steps p.tables e below Ω (T2.setTop (mkF m 22 #[.val (.ref ad), .val (.int ix), .val (.int d)] [(.int (d - (48 : Int32)))])) := by
    refine S5.trans ?_
    refine XS.icmpNo X2.here hx rfl (hb hby d12_15) rfl (XT.ii_gt_f h57) ?_
    show Steps p.tables e below (T2.setTop (mkF m 18 #[.val (.ref ad), .val (.int ix), .val (.int d)] [])) _
    refine XS.iloadN X2.here hx rfl (hb hby d12_18) rfl ?_
    show Steps p.tables e below (T2.setTop (mkF m 19 #[.val (.ref ad), .val (.int ix), .val (.int d)] [(.int d)])) _
    refine XS.bipush X2.here hx rfl (hb hby d12_19) ?_
    show Steps p.tables e below (T2.setTop (mkF m 21 #[.val (.ref ad), .val (.int ix), .val (.int d)] [(.int (48 : Int32)), (.int d)])) _
    refine XS.isub X2.here hx rfl (hb hby d12_21) rfl ?_
    exact Steps.refl _
  obtain ⟨fs, hr, hrun, hended, hW, hsame⟩ := X2.leave (v := some (.int (d - (48 : Int32)))) (fun h => by rw [Bd.returns] at h; cases h)
  have hfin : Steps p.tables e below Ω (T2.setFrames fs) := by
    refine S6.trans ?_
    exact retI X2 hx Bd.returns (hb hby d12_22) hr
  rw [hΩ] at hfin
  refine ⟨_, _, hfin, hrun, hended, _, _, rfl, ?_, ⟨_, rfl⟩, hW, hsame.mono (by decide) (by decide)⟩
  show Q12 Z ad ix cs k d z fm h0 n0 _ T2.heap _
  rw [e2]
  exact ⟨rfl, rfl, rfl⟩
theorem d2_0 : decode method_4_code 0 = .ok (.aload_n 0, 1) := by decide +kernel
theorem pd_1 : parseMethodDescriptor "()I" = some ⟨[], some .int⟩ := by decide +kernel
theorem d2_1 : decode method_4_code 1 = .ok (.invokevirtual 25, 3) := by decide +kernel
theorem d2_4 : decode method_4_code 4 = .ok (.istore_n 1, 1) := by decide +kernel
theorem d2_5 : decode method_4_code 5 = .ok (.iload_n 1, 1) := by decide +kernel
theorem d2_6 : decode method_4_code 6 = .ok (.iconst 4, 1) := by decide +kernel
theorem d2_7 : decode method_4_code 7 = .ok (.if_icmp .lt 25, 3) := by decide +kernel
theorem d2_10 : decode method_4_code 10 = .ok (.aload_n 0, 1) := by decide +kernel
theorem d2_11 : decode method_4_code 11 = .ok (.iconst 0, 1) := by decide +kernel
theorem d2_12 : decode method_4_code 12 = .ok (.invokevirtual 19, 3) := by decide +kernel
theorem d2_15 : decode method_4_code 15 = .ok (.bipush 38, 2) := by decide +kernel
theorem d2_17 : decode method_4_code 17 = .ok (.if_icmp .ne 15, 3) := by decide +kernel
theorem d2_20 : decode method_4_code 20 = .ok (.aload_n 0, 1) := by decide +kernel
theorem d2_21 : decode method_4_code 21 = .ok (.iload_n 1, 1) := by decide +kernel
theorem d2_22 : decode method_4_code 22 = .ok (.iconst 1, 1) := by decide +kernel
theorem d2_23 : decode method_4_code 23 = .ok (.isub, 1) := by decide +kernel
theorem d2_24 : decode method_4_code 24 = .ok (.invokevirtual 19, 3) := by decide +kernel
theorem d2_27 : decode method_4_code 27 = .ok (.bipush 59, 2) := by decide +kernel
theorem d2_29 : decode method_4_code 29 = .ok (.if_icmp .eq 5, 3) := by decide +kernel
theorem d2_34 : decode method_4_code 34 = .ok (.aload_n 0, 1) := by decide +kernel
theorem d2_35 : decode method_4_code 35 = .ok (.ldc 29, 2) := by decide +kernel
theorem pd_2 : parseMethodDescriptor "(Ljava/lang/Object;)Z" = some ⟨[(.object "java/lang/Object")], some .boolean⟩ := by decide +kernel
theorem d2_37 : decode method_4_code 37 = .ok (.invokevirtual 31, 3) := by decide +kernel
theorem d2_40 : decode method_4_code 40 = .ok (.ifCond .eq 6, 3) := by decide +kernel
theorem d2_43 : decode method_4_code 43 = .ok (.bipush 38, 2) := by decide +kernel
theorem d2_45 : decode method_4_code 45 = .ok (.ireturn, 1) := by decide +kernel
theorem ef_rm2amp (m : MethodId) (x0 : Addr) : entryFrame m #[(.ref x0)] 5 = mkF m 0 #[.val (.ref x0), .unset, .unset, .unset, .unset] [] := by first | (simp [entryFrame, mkF, argsToLocals, Value.category]; done) | rfl
def Q2amp (Z : State) (ad : Addr) (z : Int32) (fm : Value) (h0 : Heap) (n0 : Nat) (v : Option Value) (h : Heap) (L : List Loc) : Prop := v = some (.int (38 : Int32)) ∧ Fr n0 L
set_option maxRecDepth 65536 in
set_option maxHeartbeats 40000000 in
theorem rm2amp (l : Launch) (Z : State) (a0 : Array Value) (hw : ∀ d ∈ tables_1, d.before a0 Z = true) (ws : List Jvm.Cond) (ad : Addr) (z : Int32) (fm : Value) (h0 : Heap) (n0 : Nat) (Z0 : n0 ≤ h0.size) (E0 : LS Z h0 ad ([38, 97, 109, 112, 59] : List Int32)) (O2 : Sta Z h0 "java/lang/String" "COMPACT_STRINGS" "Z" (.int z)) (hz : ¬ z = 0) (O4 : Sta Z h0 "jdk/internal/util/Preconditions" "SIOOBE_FORMATTER" "Ljava/util/function/BiFunction;" fm) (rf : fm.isRef = true) :
    MetFree l (⟨"com/example/distill_trees/distilltrees/io/XmlWriterReferencePinLaw", "decode", "(Ljava/lang/String;)I"⟩ : MethodName) (head1 (Jvm.Cond.code (⟨"com/example/distill_trees/distilltrees/io/XmlWriterReferencePinLaw", "decode", "(Ljava/lang/String;)I"⟩ : MethodName) method_4_code 5 (some .int) :: ws) ({ frames := 4, cells := 2, slots := 24, locals := 53 } : Room)) (fun aa U => aa = #[(.ref ad)] ∧ Z.Warmed39 U.vm ∧ U.heap = h0 ∧ CHv Z consts_1 U.vm h0) (fun _ _ _ _ _ => True) (fun _ U o U' => ∃ v L, o = .returned v ∧ Q2amp Z ad z fm h0 n0 v U'.heap L ∧ CHr Z consts_1 U.vm U.heap U'.vm U'.heap ∧ ReturnedEndW U o U' L ({ frames := 4, cells := 2, slots := 24, locals := 53 } : Room).cells ({ frames := 4, cells := 2, slots := 24, locals := 53 } : Room).slots) := by
  refine MetFree.of_bodySF (plainFor_of_name pn_0) hisR ?_
  intro p e s m args below meth c s₁ Bd hml0 hP hK
  obtain ⟨rfl, hZ, hh, HS⟩ := hP
  have hZs := hZ
  have hx := Bd.exec
  have hby := Bd.bytes
  have hml : c.maxLocals = 5 := hml0
  have hown : s.vm.findClass "com/example/distill_trees/distilltrees/io/XmlWriterReferencePinLaw" = some m.cls := findClass_of_methodNamed Bd.named
  have hnm := (name_of_methodNamed Bd.named Bd.method).1
  have X0 : Stand p l e ({ frames := 4, cells := 2, slots := 24, locals := 53 } : Room) s m #[(.ref ad)] below meth c s₁ [] 0 0 := Stand.of_body Bd
  have e0 : s₁.heap = h0 := by rw [← hh, Bd.state]; rfl
  have N0 := Fr.nil n0
  obtain ⟨Ω, hΩ⟩ : ∃ z, z = s₁.setTop (entryFrame m #[(.ref ad)] 5) := ⟨_, rfl⟩
  have S0 : Steps p.tables e below Ω (s₁.setTop (mkF m 0 #[.val (.ref ad), .unset, .unset, .unset, .unset] [])) := by rw [hΩ]; exact castTop (ef_rm2amp m ad) (Steps.refl _)
  have hS0 : s.Since s.vm h0.size := (State.WarmedH.refl s).since _
  have CH0 : CHr Z consts_1 s.vm h0 s.vm h0 := CHr.refl HS
  have S1 : Steps p.tables e below Ω (s₁.setTop (mkF m 1 #[.val (.ref ad), .unset, .unset, .unset, .unset] [(.ref ad)])) := by
    refine S0.trans ?_
    refine XS.aloadN X0.here hx rfl (hb hby d2_0) rfl rfl ?_
    exact Steps.refl _
  obtain ⟨cq2, kq2, q2a, q2b, q2c⟩ := isOf hZ e0 (own_exa E0)
  obtain ⟨v2, T2, X2, e2, hv2, st2⟩ := own_callP X0 hx (y := (⟨"java/lang/String", "length", "()I"⟩ : MethodName)) hown (mvT hZ (hw _ (List.mem_of_getElem? (i := 17) rfl))) (mvT hZ (hw _ (List.mem_of_getElem? (i := 18) rfl))) (mvT hZ (hw _ (List.mem_of_getElem? (i := 20) rfl))) (mvT hZ (hw _ (List.mem_of_getElem? (i := 19) rfl))) (by decide) (Qv := fun v => v = some (.int (Int32.ofNat (([38, 97, 109, 112, 59] : List Int32)).length))) (own_len0 (W := 0) hZ hw (hw _ (List.mem_of_getElem? (i := 7) rfl)) E0 own_hb_amp (by decide) O2 hz (by decide) (by decide)) q2a q2c (g := (mkF m 1 #[.val (.ref ad), .unset, .unset, .unset, .unset] [(.ref ad)])) rfl (by rw [hml]; rfl) (argsL := []) (rest := []) (lenOf pd_1 rfl) rfl (by show 2 * 0 + _ ≤ _; exact Nat.le_of_eq rfl) (hb hby d2_1) ⟨rfl, e0, (by decide), (by decide)⟩
  rw [hv2] at st2
  have S3 : Steps p.tables e below Ω (T2.setTop (mkF m 4 #[.val (.ref ad), .unset, .unset, .unset, .unset] [(.int (5 : Int32))])) := S1.trans st2
  have S4 : Steps p.tables e below Ω (T2.setTop (mkF m 12 #[.val (.ref ad), .val (.int (5 : Int32)), .unset, .unset, .unset] [(.int (0 : Int32)), (.ref ad)])) := by
    refine S3.trans ?_
    refine XS.istoreN X2.here hx rfl (hb hby d2_4) rfl (l' := #[.val (.ref ad), .val (.int (5 : Int32)), .unset, .unset, .unset]) rfl ?_
    show Steps p.tables e below (T2.setTop (mkF m 5 #[.val (.ref ad), .val (.int (5 : Int32)), .unset, .unset, .unset] [])) _
    refine XS.iloadN X2.here hx rfl (hb hby d2_5) rfl ?_
    show Steps p.tables e below (T2.setTop (mkF m 6 #[.val (.ref ad), .val (.int (5 : Int32)), .unset, .unset, .unset] [(.int (5 : Int32))])) _
    refine XS.iconst X2.here hx rfl (hb hby d2_6) ?_
    show Steps p.tables e below (T2.setTop (mkF m 7 #[.val (.ref ad), .val (.int (5 : Int32)), .unset, .unset, .unset] [(.int (4 : Int32)), (.int (5 : Int32))])) _
    refine XS.icmpNo X2.here hx rfl (hb hby d2_7) rfl (XT.ii_lt_f (by decide)) ?_
    show Steps p.tables e below (T2.setTop (mkF m 10 #[.val (.ref ad), .val (.int (5 : Int32)), .unset, .unset, .unset] [])) _
    refine XS.aloadN X2.here hx rfl (hb hby d2_10) rfl rfl ?_
    show Steps p.tables e below (T2.setTop (mkF m 11 #[.val (.ref ad), .val (.int (5 : Int32)), .unset, .unset, .unset] [(.ref ad)])) _
    refine XS.iconst X2.here hx rfl (hb hby d2_11) ?_
    exact Steps.refl _
  obtain ⟨cq5, kq5, q5a, q5b, q5c⟩ := isOf hZ e2 (own_exa E0)
  obtain ⟨v5, T5, X5, e5, hv5, st5⟩ := own_callP X2 hx (y := (⟨"java/lang/String", "charAt", "(I)C"⟩ : MethodName)) hown (mvT hZ (hw _ (List.mem_of_getElem? (i := 30) rfl))) (mvT hZ (hw _ (List.mem_of_getElem? (i := 31) rfl))) (mvT hZ (hw _ (List.mem_of_getElem? (i := 33) rfl))) (mvT hZ (hw _ (List.mem_of_getElem? (i := 32) rfl))) (by decide) (Qv := fun v => v = some (.int (38 : Int32))) (own_ch0 (W := 0) (i := 0) hZ hw (hw _ (List.mem_of_getElem? (i := 7) rfl)) E0 own_hb_amp (by decide) O2 hz O4 rf (by decide) rfl (d := (38 : Int32)) rfl (by decide) (by decide)) q5a q5c (g := (mkF m 12 #[.val (.ref ad), .val (.int (5 : Int32)), .unset, .unset, .unset] [(.int (0 : Int32)), (.ref ad)])) rfl (by rw [hml]; rfl) (argsL := [(.int (0 : Int32))]) (rest := []) (lenOf pd_0 rfl) rfl (by show 2 * 0 + _ ≤ _; exact Nat.le_of_eq rfl) (hb hby d2_12) ⟨rfl, e2, (by decide), (by decide)⟩
  rw [hv5] at st5
  have S6 : Steps p.tables e below Ω (T5.setTop (mkF m 15 #[.val (.ref ad), .val (.int (5 : Int32)), .unset, .unset, .unset] [(.int (38 : Int32))])) := S4.trans st5
  have S7 : Steps p.tables e below Ω (T5.setTop (mkF m 24 #[.val (.ref ad), .val (.int (5 : Int32)), .unset, .unset, .unset] [(.int (4 : Int32)), (.ref ad)])) := by
    refine S6.trans ?_
    refine XS.bipush X5.here hx rfl (hb hby d2_15) ?_
    show Steps p.tables e below (T5.setTop (mkF m 17 #[.val (.ref ad), .val (.int (5 : Int32)), .unset, .unset, .unset] [(.int (38 : Int32)), (.int (38 : Int32))])) _
    refine XS.icmpNo X5.here hx rfl (hb hby d2_17) rfl (XT.ii_ne_f (by decide)) ?_
    show Steps p.tables e below (T5.setTop (mkF m 20 #[.val (.ref ad), .val (.int (5 : Int32)), .unset, .unset, .unset] [])) _
    refine XS.aloadN X5.here hx rfl (hb hby d2_20) rfl rfl ?_
    show Steps p.tables e below (T5.setTop (mkF m 21 #[.val (.ref ad), .val (.int (5 : Int32)), .unset, .unset, .unset] [(.ref ad)])) _
    refine XS.iloadN X5.here hx rfl (hb hby d2_21) rfl ?_
    show Steps p.tables e below (T5.setTop (mkF m 22 #[.val (.ref ad), .val (.int (5 : Int32)), .unset, .unset, .unset] [(.int (5 : Int32)), (.ref ad)])) _
    refine XS.iconst X5.here hx rfl (hb hby d2_22) ?_
    show Steps p.tables e below (T5.setTop (mkF m 23 #[.val (.ref ad), .val (.int (5 : Int32)), .unset, .unset, .unset] [(.int (1 : Int32)), (.int (5 : Int32)), (.ref ad)])) _
    refine XS.isub X5.here hx rfl (hb hby d2_23) rfl ?_
    exact Steps.refl _
  obtain ⟨cq8, kq8, q8a, q8b, q8c⟩ := isOf hZ e5 (own_exa E0)
  obtain ⟨v8, T8, X8, e8, hv8, st8⟩ := own_callP X5 hx (y := (⟨"java/lang/String", "charAt", "(I)C"⟩ : MethodName)) hown (mvT hZ (hw _ (List.mem_of_getElem? (i := 30) rfl))) (mvT hZ (hw _ (List.mem_of_getElem? (i := 31) rfl))) (mvT hZ (hw _ (List.mem_of_getElem? (i := 33) rfl))) (mvT hZ (hw _ (List.mem_of_getElem? (i := 32) rfl))) (by decide) (Qv := fun v => v = some (.int (59 : Int32))) (own_ch0 (W := 0) (i := 4) hZ hw (hw _ (List.mem_of_getElem? (i := 7) rfl)) E0 own_hb_amp (by decide) O2 hz O4 rf (by decide) rfl (d := (59 : Int32)) rfl (by decide) (by decide)) q8a q8c (g := (mkF m 24 #[.val (.ref ad), .val (.int (5 : Int32)), .unset, .unset, .unset] [(.int (4 : Int32)), (.ref ad)])) rfl (by rw [hml]; rfl) (argsL := [(.int (4 : Int32))]) (rest := []) (lenOf pd_0 rfl) rfl (by show 2 * 0 + _ ≤ _; exact Nat.le_of_eq rfl) (hb hby d2_24) ⟨rfl, e5, (by decide), (by decide)⟩
  rw [hv8] at st8
  have S9 : Steps p.tables e below Ω (T8.setTop (mkF m 27 #[.val (.ref ad), .val (.int (5 : Int32)), .unset, .unset, .unset] [(.int (59 : Int32))])) := S7.trans st8
  have S10 : Steps p.tables e below Ω (T8.setTop (mkF m 35 #[.val (.ref ad), .val (.int (5 : Int32)), .unset, .unset, .unset] [(.ref ad)])) := by
    refine S9.trans ?_
    refine XS.bipush X8.here hx rfl (hb hby d2_27) ?_
    show Steps p.tables e below (T8.setTop (mkF m 29 #[.val (.ref ad), .val (.int (5 : Int32)), .unset, .unset, .unset] [(.int (59 : Int32)), (.int (59 : Int32))])) _
    refine XS.icmpYes X8.here hx rfl (pc0 := 29) (pc' := 34) rfl (hb hby d2_29) rfl (XT.ii_eq_t (by decide)) (by decide) (by decide) ?_
    show Steps p.tables e below (T8.setTop (mkF m 34 #[.val (.ref ad), .val (.int (5 : Int32)), .unset, .unset, .unset] [])) _
    refine XS.aloadN X8.here hx rfl (hb hby d2_34) rfl rfl ?_
    exact Steps.refl _
  obtain ⟨a11, T11, h11, kb11, X11, e11, E11, hS11, hk11, hZ, hown, L11, C11, st11⟩ := own_ldcC (s := s) (vm0 := s.vm) X8 hx hZ hown (hw _ (List.mem_of_getElem? (i := 52) rfl)) own_tx_amp (own_wS hw) e8 hS0 (Nat.le_refl h0.size) (own_lk hw) (List.mem_of_getElem? (i := 7) rfl) CH0.1 (g := (mkF m 35 #[.val (.ref ad), .val (.int (5 : Int32)), .unset, .unset, .unset] [(.ref ad)])) rfl (hb hby d2_35) (n := 20) (by decide) (by decide) (by decide) (by decide)
  have CH11 := CHr.trans CH0 C11
  have S12 : Steps p.tables e below Ω (T11.setTop (mkF m 37 #[.val (.ref ad), .val (.int (5 : Int32)), .unset, .unset, .unset] [(.ref a11), (.ref ad)])) := S10.trans (st11 _ (Steps.refl _))
  have LS_11 := E0.ext E11
  have O2_11 := O2.ext E11
  have O4_11 := O4.ext E11
  obtain ⟨cq13, kq13, q13a, q13b, q13c⟩ := isOf hZ e11 (own_exa LS_11)
  obtain ⟨v13, T13, X13, e13, hv13, st13⟩ := own_callP X11 hx (y := (⟨"java/lang/String", "equals", "(Ljava/lang/Object;)Z"⟩ : MethodName)) hown (mvT hZ (hw _ (List.mem_of_getElem? (i := 53) rfl))) (mvT hZ (hw _ (List.mem_of_getElem? (i := 54) rfl))) (mvT hZ (hw _ (List.mem_of_getElem? (i := 56) rfl))) (mvT hZ (hw _ (List.mem_of_getElem? (i := 55) rfl))) (by decide) (Qv := fun v => (v = some (.int 1) ∧ ([38, 97, 109, 112, 59] : List Int32) = ([38, 97, 109, 112, 59] : List Int32)) ∨ (v = some (.int 0) ∧ ¬ ([38, 97, 109, 112, 59] : List Int32) = ([38, 97, 109, 112, 59] : List Int32))) (own_eq0 (W := 0) hZ hw (hw _ (List.mem_of_getElem? (i := 7) rfl)) LS_11 own_hb_amp (by decide) L11 own_hb_amp (by decide) O2_11 hz (by decide) (by decide)) q13a q13c (g := (mkF m 37 #[.val (.ref ad), .val (.int (5 : Int32)), .unset, .unset, .unset] [(.ref a11), (.ref ad)])) rfl (by rw [hml]; rfl) (argsL := [(.ref a11)]) (rest := []) (lenOf pd_2 rfl) rfl (by show 2 * 0 + _ ≤ _; exact Nat.le_of_eq rfl) (hb hby d2_37) ⟨rfl, e11, (by decide), (by decide)⟩
  have hv13 : v13 = some (.int (1 : Int32)) := hv13.elim (fun q => q.1) (fun q => absurd rfl q.2)
  rw [hv13] at st13
  have S14 : Steps p.tables e below Ω (T13.setTop (mkF m 40 #[.val (.ref ad), .val (.int (5 : Int32)), .unset, .unset, .unset] [(.int (1 : Int32))])) := S12.trans st13
  have S15 : Steps p.tables e below Ω (T13.setTop (mkF m 45 #[.val (.ref ad), .val (.int (5 : Int32)), .unset, .unset, .unset] [(.int (38 : Int32))])) := by
    refine S14.trans ?_
    refine XS.ifNo X13.here hx rfl (hb hby d2_40) rfl (XT.i0_eq_f (by decide)) ?_
    show Steps p.tables e below (T13.setTop (mkF m 43 #[.val (.ref ad), .val (.int (5 : Int32)), .unset, .unset, .unset] [])) _
    refine XS.bipush X13.here hx rfl (hb hby d2_43) ?_
    exact Steps.refl _
  obtain ⟨fs, hr, hrun, hended, hend⟩ := Stand.leaveW (s := s) (vm₁ := T11.vm) X13 hS11 (by rw [e13]; exact hk11) (v := some (.int (38 : Int32))) (fun h => by rw [Bd.returns] at h; cases h)
  have hfin : Steps p.tables e below Ω (T13.setFrames fs) := by
    refine S15.trans ?_
    exact retI X13 hx Bd.returns (hb hby d2_45) hr
  rw [hΩ] at hfin
  have CHe : CHr Z consts_1 s.vm s.heap T13.vm T13.heap := by
    rw [hh, e13]
    exact CHr.trans CH11 (CHv.at (s := s) (vm0 := T11.vm) X13 hZ (own_lk hw) CH11.1)
  refine ⟨_, _, hfin, hrun, hended, _, _, rfl, ?_, CHe, hend.1, hend.2.1, hend.2.2.1, hend.2.2.2.mono (by decide) (by decide)⟩
  show Q2amp Z ad z fm h0 n0 _ T13.heap _
  rw [e13]
  exact ⟨rfl, N0⟩
theorem d2_46 : decode method_4_code 46 = .ok (.aload_n 0, 1) := by decide +kernel
theorem d2_47 : decode method_4_code 47 = .ok (.ldc 35, 2) := by decide +kernel
theorem d2_49 : decode method_4_code 49 = .ok (.invokevirtual 31, 3) := by decide +kernel
theorem d2_52 : decode method_4_code 52 = .ok (.ifCond .eq 6, 3) := by decide +kernel
theorem d2_55 : decode method_4_code 55 = .ok (.bipush 60, 2) := by decide +kernel
theorem d2_57 : decode method_4_code 57 = .ok (.ireturn, 1) := by decide +kernel
theorem ef_rm2lt (m : MethodId) (x0 : Addr) : entryFrame m #[(.ref x0)] 5 = mkF m 0 #[.val (.ref x0), .unset, .unset, .unset, .unset] [] := by first | (simp [entryFrame, mkF, argsToLocals, Value.category]; done) | rfl
def Q2lt (Z : State) (ad : Addr) (z : Int32) (fm : Value) (h0 : Heap) (n0 : Nat) (v : Option Value) (h : Heap) (L : List Loc) : Prop := v = some (.int (60 : Int32)) ∧ Fr n0 L
set_option maxRecDepth 65536 in
set_option maxHeartbeats 40000000 in
theorem rm2lt (l : Launch) (Z : State) (a0 : Array Value) (hw : ∀ d ∈ tables_1, d.before a0 Z = true) (ws : List Jvm.Cond) (ad : Addr) (z : Int32) (fm : Value) (h0 : Heap) (n0 : Nat) (Z0 : n0 ≤ h0.size) (E0 : LS Z h0 ad ([38, 108, 116, 59] : List Int32)) (O2 : Sta Z h0 "java/lang/String" "COMPACT_STRINGS" "Z" (.int z)) (hz : ¬ z = 0) (O4 : Sta Z h0 "jdk/internal/util/Preconditions" "SIOOBE_FORMATTER" "Ljava/util/function/BiFunction;" fm) (rf : fm.isRef = true) :
    MetFree l (⟨"com/example/distill_trees/distilltrees/io/XmlWriterReferencePinLaw", "decode", "(Ljava/lang/String;)I"⟩ : MethodName) (head1 (Jvm.Cond.code (⟨"com/example/distill_trees/distilltrees/io/XmlWriterReferencePinLaw", "decode", "(Ljava/lang/String;)I"⟩ : MethodName) method_4_code 5 (some .int) :: ws) ({ frames := 4, cells := 4, slots := 44, locals := 53 } : Room)) (fun aa U => aa = #[(.ref ad)] ∧ Z.Warmed39 U.vm ∧ U.heap = h0 ∧ CHv Z consts_1 U.vm h0) (fun _ _ _ _ _ => True) (fun _ U o U' => ∃ v L, o = .returned v ∧ Q2lt Z ad z fm h0 n0 v U'.heap L ∧ CHr Z consts_1 U.vm U.heap U'.vm U'.heap ∧ ReturnedEndW U o U' L ({ frames := 4, cells := 4, slots := 44, locals := 53 } : Room).cells ({ frames := 4, cells := 4, slots := 44, locals := 53 } : Room).slots) := by
  refine MetFree.of_bodySF (plainFor_of_name pn_0) hisR ?_
  intro p e s m args below meth c s₁ Bd hml0 hP hK
  obtain ⟨rfl, hZ, hh, HS⟩ := hP
  have hZs := hZ
  have hx := Bd.exec
  have hby := Bd.bytes
  have hml : c.maxLocals = 5 := hml0
  have hown : s.vm.findClass "com/example/distill_trees/distilltrees/io/XmlWriterReferencePinLaw" = some m.cls := findClass_of_methodNamed Bd.named
  have hnm := (name_of_methodNamed Bd.named Bd.method).1
  have X0 : Stand p l e ({ frames := 4, cells := 4, slots := 44, locals := 53 } : Room) s m #[(.ref ad)] below meth c s₁ [] 0 0 := Stand.of_body Bd
  have e0 : s₁.heap = h0 := by rw [← hh, Bd.state]; rfl
  have N0 := Fr.nil n0
  obtain ⟨Ω, hΩ⟩ : ∃ z, z = s₁.setTop (entryFrame m #[(.ref ad)] 5) := ⟨_, rfl⟩
  have S0 : Steps p.tables e below Ω (s₁.setTop (mkF m 0 #[.val (.ref ad), .unset, .unset, .unset, .unset] [])) := by rw [hΩ]; exact castTop (ef_rm2lt m ad) (Steps.refl _)
  have hS0 : s.Since s.vm h0.size := (State.WarmedH.refl s).since _
  have CH0 : CHr Z consts_1 s.vm h0 s.vm h0 := CHr.refl HS
  have S1 : Steps p.tables e below Ω (s₁.setTop (mkF m 1 #[.val (.ref ad), .unset, .unset, .unset, .unset] [(.ref ad)])) := by
    refine S0.trans ?_
    refine XS.aloadN X0.here hx rfl (hb hby d2_0) rfl rfl ?_
    exact Steps.refl _
  obtain ⟨cq2, kq2, q2a, q2b, q2c⟩ := isOf hZ e0 (own_exa E0)
  obtain ⟨v2, T2, X2, e2, hv2, st2⟩ := own_callP X0 hx (y := (⟨"java/lang/String", "length", "()I"⟩ : MethodName)) hown (mvT hZ (hw _ (List.mem_of_getElem? (i := 17) rfl))) (mvT hZ (hw _ (List.mem_of_getElem? (i := 18) rfl))) (mvT hZ (hw _ (List.mem_of_getElem? (i := 20) rfl))) (mvT hZ (hw _ (List.mem_of_getElem? (i := 19) rfl))) (by decide) (Qv := fun v => v = some (.int (Int32.ofNat (([38, 108, 116, 59] : List Int32)).length))) (own_len0 (W := 0) hZ hw (hw _ (List.mem_of_getElem? (i := 7) rfl)) E0 own_hb_lt (by decide) O2 hz (by decide) (by decide)) q2a q2c (g := (mkF m 1 #[.val (.ref ad), .unset, .unset, .unset, .unset] [(.ref ad)])) rfl (by rw [hml]; rfl) (argsL := []) (rest := []) (lenOf pd_1 rfl) rfl (by show 2 * 0 + _ ≤ _; exact Nat.le_of_eq rfl) (hb hby d2_1) ⟨rfl, e0, (by decide), (by decide)⟩
  rw [hv2] at st2
  have S3 : Steps p.tables e below Ω (T2.setTop (mkF m 4 #[.val (.ref ad), .unset, .unset, .unset, .unset] [(.int (4 : Int32))])) := S1.trans st2
  have S4 : Steps p.tables e below Ω (T2.setTop (mkF m 12 #[.val (.ref ad), .val (.int (4 : Int32)), .unset, .unset, .unset] [(.int (0 : Int32)), (.ref ad)])) := by
    refine S3.trans ?_
    refine XS.istoreN X2.here hx rfl (hb hby d2_4) rfl (l' := #[.val (.ref ad), .val (.int (4 : Int32)), .unset, .unset, .unset]) rfl ?_
    show Steps p.tables e below (T2.setTop (mkF m 5 #[.val (.ref ad), .val (.int (4 : Int32)), .unset, .unset, .unset] [])) _
    refine XS.iloadN X2.here hx rfl (hb hby d2_5) rfl ?_
    show Steps p.tables e below (T2.setTop (mkF m 6 #[.val (.ref ad), .val (.int (4 : Int32)), .unset, .unset, .unset] [(.int (4 : Int32))])) _
    refine XS.iconst X2.here hx rfl (hb hby d2_6) ?_
    show Steps p.tables e below (T2.setTop (mkF m 7 #[.val (.ref ad), .val (.int (4 : Int32)), .unset, .unset, .unset] [(.int (4 : Int32)), (.int (4 : Int32))])) _
    refine XS.icmpNo X2.here hx rfl (hb hby d2_7) rfl (XT.ii_lt_f (by decide)) ?_
    show Steps p.tables e below (T2.setTop (mkF m 10 #[.val (.ref ad), .val (.int (4 : Int32)), .unset, .unset, .unset] [])) _
    refine XS.aloadN X2.here hx rfl (hb hby d2_10) rfl rfl ?_
    show Steps p.tables e below (T2.setTop (mkF m 11 #[.val (.ref ad), .val (.int (4 : Int32)), .unset, .unset, .unset] [(.ref ad)])) _
    refine XS.iconst X2.here hx rfl (hb hby d2_11) ?_
    exact Steps.refl _
  obtain ⟨cq5, kq5, q5a, q5b, q5c⟩ := isOf hZ e2 (own_exa E0)
  obtain ⟨v5, T5, X5, e5, hv5, st5⟩ := own_callP X2 hx (y := (⟨"java/lang/String", "charAt", "(I)C"⟩ : MethodName)) hown (mvT hZ (hw _ (List.mem_of_getElem? (i := 30) rfl))) (mvT hZ (hw _ (List.mem_of_getElem? (i := 31) rfl))) (mvT hZ (hw _ (List.mem_of_getElem? (i := 33) rfl))) (mvT hZ (hw _ (List.mem_of_getElem? (i := 32) rfl))) (by decide) (Qv := fun v => v = some (.int (38 : Int32))) (own_ch0 (W := 0) (i := 0) hZ hw (hw _ (List.mem_of_getElem? (i := 7) rfl)) E0 own_hb_lt (by decide) O2 hz O4 rf (by decide) rfl (d := (38 : Int32)) rfl (by decide) (by decide)) q5a q5c (g := (mkF m 12 #[.val (.ref ad), .val (.int (4 : Int32)), .unset, .unset, .unset] [(.int (0 : Int32)), (.ref ad)])) rfl (by rw [hml]; rfl) (argsL := [(.int (0 : Int32))]) (rest := []) (lenOf pd_0 rfl) rfl (by show 2 * 0 + _ ≤ _; exact Nat.le_of_eq rfl) (hb hby d2_12) ⟨rfl, e2, (by decide), (by decide)⟩
  rw [hv5] at st5
  have S6 : Steps p.tables e below Ω (T5.setTop (mkF m 15 #[.val (.ref ad), .val (.int (4 : Int32)), .unset, .unset, .unset] [(.int (38 : Int32))])) := S4.trans st5
  have S7 : Steps p.tables e below Ω (T5.setTop (mkF m 24 #[.val (.ref ad), .val (.int (4 : Int32)), .unset, .unset, .unset] [(.int (3 : Int32)), (.ref ad)])) := by
    refine S6.trans ?_
    refine XS.bipush X5.here hx rfl (hb hby d2_15) ?_
    show Steps p.tables e below (T5.setTop (mkF m 17 #[.val (.ref ad), .val (.int (4 : Int32)), .unset, .unset, .unset] [(.int (38 : Int32)), (.int (38 : Int32))])) _
    refine XS.icmpNo X5.here hx rfl (hb hby d2_17) rfl (XT.ii_ne_f (by decide)) ?_
    show Steps p.tables e below (T5.setTop (mkF m 20 #[.val (.ref ad), .val (.int (4 : Int32)), .unset, .unset, .unset] [])) _
    refine XS.aloadN X5.here hx rfl (hb hby d2_20) rfl rfl ?_
    show Steps p.tables e below (T5.setTop (mkF m 21 #[.val (.ref ad), .val (.int (4 : Int32)), .unset, .unset, .unset] [(.ref ad)])) _
    refine XS.iloadN X5.here hx rfl (hb hby d2_21) rfl ?_
    show Steps p.tables e below (T5.setTop (mkF m 22 #[.val (.ref ad), .val (.int (4 : Int32)), .unset, .unset, .unset] [(.int (4 : Int32)), (.ref ad)])) _
    refine XS.iconst X5.here hx rfl (hb hby d2_22) ?_
    show Steps p.tables e below (T5.setTop (mkF m 23 #[.val (.ref ad), .val (.int (4 : Int32)), .unset, .unset, .unset] [(.int (1 : Int32)), (.int (4 : Int32)), (.ref ad)])) _
    refine XS.isub X5.here hx rfl (hb hby d2_23) rfl ?_
    exact Steps.refl _
  obtain ⟨cq8, kq8, q8a, q8b, q8c⟩ := isOf hZ e5 (own_exa E0)
  obtain ⟨v8, T8, X8, e8, hv8, st8⟩ := own_callP X5 hx (y := (⟨"java/lang/String", "charAt", "(I)C"⟩ : MethodName)) hown (mvT hZ (hw _ (List.mem_of_getElem? (i := 30) rfl))) (mvT hZ (hw _ (List.mem_of_getElem? (i := 31) rfl))) (mvT hZ (hw _ (List.mem_of_getElem? (i := 33) rfl))) (mvT hZ (hw _ (List.mem_of_getElem? (i := 32) rfl))) (by decide) (Qv := fun v => v = some (.int (59 : Int32))) (own_ch0 (W := 0) (i := 3) hZ hw (hw _ (List.mem_of_getElem? (i := 7) rfl)) E0 own_hb_lt (by decide) O2 hz O4 rf (by decide) rfl (d := (59 : Int32)) rfl (by decide) (by decide)) q8a q8c (g := (mkF m 24 #[.val (.ref ad), .val (.int (4 : Int32)), .unset, .unset, .unset] [(.int (3 : Int32)), (.ref ad)])) rfl (by rw [hml]; rfl) (argsL := [(.int (3 : Int32))]) (rest := []) (lenOf pd_0 rfl) rfl (by show 2 * 0 + _ ≤ _; exact Nat.le_of_eq rfl) (hb hby d2_24) ⟨rfl, e5, (by decide), (by decide)⟩
  rw [hv8] at st8
  have S9 : Steps p.tables e below Ω (T8.setTop (mkF m 27 #[.val (.ref ad), .val (.int (4 : Int32)), .unset, .unset, .unset] [(.int (59 : Int32))])) := S7.trans st8
  have S10 : Steps p.tables e below Ω (T8.setTop (mkF m 35 #[.val (.ref ad), .val (.int (4 : Int32)), .unset, .unset, .unset] [(.ref ad)])) := by
    refine S9.trans ?_
    refine XS.bipush X8.here hx rfl (hb hby d2_27) ?_
    show Steps p.tables e below (T8.setTop (mkF m 29 #[.val (.ref ad), .val (.int (4 : Int32)), .unset, .unset, .unset] [(.int (59 : Int32)), (.int (59 : Int32))])) _
    refine XS.icmpYes X8.here hx rfl (pc0 := 29) (pc' := 34) rfl (hb hby d2_29) rfl (XT.ii_eq_t (by decide)) (by decide) (by decide) ?_
    show Steps p.tables e below (T8.setTop (mkF m 34 #[.val (.ref ad), .val (.int (4 : Int32)), .unset, .unset, .unset] [])) _
    refine XS.aloadN X8.here hx rfl (hb hby d2_34) rfl rfl ?_
    exact Steps.refl _
  obtain ⟨a11, T11, h11, kb11, X11, e11, E11, hS11, hk11, hZ, hown, L11, C11, st11⟩ := own_ldcC (s := s) (vm0 := s.vm) X8 hx hZ hown (hw _ (List.mem_of_getElem? (i := 52) rfl)) own_tx_amp (own_wS hw) e8 hS0 (Nat.le_refl h0.size) (own_lk hw) (List.mem_of_getElem? (i := 7) rfl) CH0.1 (g := (mkF m 35 #[.val (.ref ad), .val (.int (4 : Int32)), .unset, .unset, .unset] [(.ref ad)])) rfl (hb hby d2_35) (n := 20) (by decide) (by decide) (by decide) (by decide)
  have CH11 := CHr.trans CH0 C11
  have S12 : Steps p.tables e below Ω (T11.setTop (mkF m 37 #[.val (.ref ad), .val (.int (4 : Int32)), .unset, .unset, .unset] [(.ref a11), (.ref ad)])) := S10.trans (st11 _ (Steps.refl _))
  have LS_11 := E0.ext E11
  have O2_11 := O2.ext E11
  have O4_11 := O4.ext E11
  obtain ⟨cq13, kq13, q13a, q13b, q13c⟩ := isOf hZ e11 (own_exa LS_11)
  obtain ⟨v13, T13, X13, e13, hv13, st13⟩ := own_callP X11 hx (y := (⟨"java/lang/String", "equals", "(Ljava/lang/Object;)Z"⟩ : MethodName)) hown (mvT hZ (hw _ (List.mem_of_getElem? (i := 53) rfl))) (mvT hZ (hw _ (List.mem_of_getElem? (i := 54) rfl))) (mvT hZ (hw _ (List.mem_of_getElem? (i := 56) rfl))) (mvT hZ (hw _ (List.mem_of_getElem? (i := 55) rfl))) (by decide) (Qv := fun v => (v = some (.int 1) ∧ ([38, 108, 116, 59] : List Int32) = ([38, 97, 109, 112, 59] : List Int32)) ∨ (v = some (.int 0) ∧ ¬ ([38, 108, 116, 59] : List Int32) = ([38, 97, 109, 112, 59] : List Int32))) (own_eq0 (W := 0) hZ hw (hw _ (List.mem_of_getElem? (i := 7) rfl)) LS_11 own_hb_lt (by decide) L11 own_hb_amp (by decide) O2_11 hz (by decide) (by decide)) q13a q13c (g := (mkF m 37 #[.val (.ref ad), .val (.int (4 : Int32)), .unset, .unset, .unset] [(.ref a11), (.ref ad)])) rfl (by rw [hml]; rfl) (argsL := [(.ref a11)]) (rest := []) (lenOf pd_2 rfl) rfl (by show 2 * 0 + _ ≤ _; exact Nat.le_of_eq rfl) (hb hby d2_37) ⟨rfl, e11, (by decide), (by decide)⟩
  have hv13 : v13 = some (.int (0 : Int32)) := hv13.elim (fun q => absurd q.2 (by decide)) (fun q => q.1)
  rw [hv13] at st13
  have S14 : Steps p.tables e below Ω (T13.setTop (mkF m 40 #[.val (.ref ad), .val (.int (4 : Int32)), .unset, .unset, .unset] [(.int (0 : Int32))])) := S12.trans st13
  have S15 : Steps p.tables e below Ω (T13.setTop (mkF m 47 #[.val (.ref ad), .val (.int (4 : Int32)), .unset, .unset, .unset] [(.ref ad)])) := by
    refine S14.trans ?_
    refine XS.ifYes X13.here hx rfl (pc0 := 40) (pc' := 46) rfl (hb hby d2_40) rfl (XT.i0_eq_t (by decide)) (by decide) (by decide) ?_
    show Steps p.tables e below (T13.setTop (mkF m 46 #[.val (.ref ad), .val (.int (4 : Int32)), .unset, .unset, .unset] [])) _
    refine XS.aloadN X13.here hx rfl (hb hby d2_46) rfl rfl ?_
    exact Steps.refl _
  obtain ⟨a16, T16, h16, kb16, X16, e16, E16, hS16, hk16, hZ, hown, L16, C16, st16⟩ := own_ldcC (s := s) (vm0 := T11.vm) X13 hx hZ hown (hw _ (List.mem_of_getElem? (i := 63) rfl)) own_tx_lt (own_wS hw) e13 hS11 hk11 (own_lk hw) (List.mem_of_getElem? (i := 8) rfl) CH11.1 (g := (mkF m 47 #[.val (.ref ad), .val (.int (4 : Int32)), .unset, .unset, .unset] [(.ref ad)])) rfl (hb hby d2_47) (n := 16) (by decide) (by decide) (by decide) (by decide)
  have CH16 := CHr.trans CH11 C16
  have S17 : Steps p.tables e below Ω (T16.setTop (mkF m 49 #[.val (.ref ad), .val (.int (4 : Int32)), .unset, .unset, .unset] [(.ref a16), (.ref ad)])) := S15.trans (st16 _ (Steps.refl _))
  have LS_16 := LS_11.ext E16
  have O2_16 := O2_11.ext E16
  have O4_16 := O4_11.ext E16
  obtain ⟨cq18, kq18, q18a, q18b, q18c⟩ := isOf hZ e16 (own_exa LS_16)
  obtain ⟨v18, T18, X18, e18, hv18, st18⟩ := own_callP X16 hx (y := (⟨"java/lang/String", "equals", "(Ljava/lang/Object;)Z"⟩ : MethodName)) hown (mvT hZ (hw _ (List.mem_of_getElem? (i := 53) rfl))) (mvT hZ (hw _ (List.mem_of_getElem? (i := 54) rfl))) (mvT hZ (hw _ (List.mem_of_getElem? (i := 56) rfl))) (mvT hZ (hw _ (List.mem_of_getElem? (i := 55) rfl))) (by decide) (Qv := fun v => (v = some (.int 1) ∧ ([38, 108, 116, 59] : List Int32) = ([38, 108, 116, 59] : List Int32)) ∨ (v = some (.int 0) ∧ ¬ ([38, 108, 116, 59] : List Int32) = ([38, 108, 116, 59] : List Int32))) (own_eq0 (W := 0) hZ hw (hw _ (List.mem_of_getElem? (i := 7) rfl)) LS_16 own_hb_lt (by decide) L16 own_hb_lt (by decide) O2_16 hz (by decide) (by decide)) q18a q18c (g := (mkF m 49 #[.val (.ref ad), .val (.int (4 : Int32)), .unset, .unset, .unset] [(.ref a16), (.ref ad)])) rfl (by rw [hml]; rfl) (argsL := [(.ref a16)]) (rest := []) (lenOf pd_2 rfl) rfl (by show 2 * 0 + _ ≤ _; exact Nat.le_of_eq rfl) (hb hby d2_49) ⟨rfl, e16, (by decide), (by decide)⟩
  have hv18 : v18 = some (.int (1 : Int32)) := hv18.elim (fun q => q.1) (fun q => absurd rfl q.2)
  rw [hv18] at st18
  have S19 : Steps p.tables e below Ω (T18.setTop (mkF m 52 #[.val (.ref ad), .val (.int (4 : Int32)), .unset, .unset, .unset] [(.int (1 : Int32))])) := S17.trans st18
  have S20 : Steps p.tables e below Ω (T18.setTop (mkF m 57 #[.val (.ref ad), .val (.int (4 : Int32)), .unset, .unset, .unset] [(.int (60 : Int32))])) := by
    refine S19.trans ?_
    refine XS.ifNo X18.here hx rfl (hb hby d2_52) rfl (XT.i0_eq_f (by decide)) ?_
    show Steps p.tables e below (T18.setTop (mkF m 55 #[.val (.ref ad), .val (.int (4 : Int32)), .unset, .unset, .unset] [])) _
    refine XS.bipush X18.here hx rfl (hb hby d2_55) ?_
    exact Steps.refl _
  obtain ⟨fs, hr, hrun, hended, hend⟩ := Stand.leaveW (s := s) (vm₁ := T16.vm) X18 hS16 (by rw [e18]; exact hk16) (v := some (.int (60 : Int32))) (fun h => by rw [Bd.returns] at h; cases h)
  have hfin : Steps p.tables e below Ω (T18.setFrames fs) := by
    refine S20.trans ?_
    exact retI X18 hx Bd.returns (hb hby d2_57) hr
  rw [hΩ] at hfin
  have CHe : CHr Z consts_1 s.vm s.heap T18.vm T18.heap := by
    rw [hh, e18]
    exact CHr.trans CH16 (CHv.at (s := s) (vm0 := T16.vm) X18 hZ (own_lk hw) CH16.1)
  refine ⟨_, _, hfin, hrun, hended, _, _, rfl, ?_, CHe, hend.1, hend.2.1, hend.2.2.1, hend.2.2.2.mono (by decide) (by decide)⟩
  show Q2lt Z ad z fm h0 n0 _ T18.heap _
  rw [e18]
  exact ⟨rfl, N0⟩
theorem d2_58 : decode method_4_code 58 = .ok (.aload_n 0, 1) := by decide +kernel
theorem d2_59 : decode method_4_code 59 = .ok (.ldc 37, 2) := by decide +kernel
theorem d2_61 : decode method_4_code 61 = .ok (.invokevirtual 31, 3) := by decide +kernel
theorem d2_64 : decode method_4_code 64 = .ok (.ifCond .eq 6, 3) := by decide +kernel
theorem d2_67 : decode method_4_code 67 = .ok (.bipush 62, 2) := by decide +kernel
theorem d2_69 : decode method_4_code 69 = .ok (.ireturn, 1) := by decide +kernel
theorem ef_rm2gt (m : MethodId) (x0 : Addr) : entryFrame m #[(.ref x0)] 5 = mkF m 0 #[.val (.ref x0), .unset, .unset, .unset, .unset] [] := by first | (simp [entryFrame, mkF, argsToLocals, Value.category]; done) | rfl
def Q2gt (Z : State) (ad : Addr) (z : Int32) (fm : Value) (h0 : Heap) (n0 : Nat) (v : Option Value) (h : Heap) (L : List Loc) : Prop := v = some (.int (62 : Int32)) ∧ Fr n0 L
set_option maxRecDepth 65536 in
set_option maxHeartbeats 40000000 in
theorem rm2gt (l : Launch) (Z : State) (a0 : Array Value) (hw : ∀ d ∈ tables_1, d.before a0 Z = true) (ws : List Jvm.Cond) (ad : Addr) (z : Int32) (fm : Value) (h0 : Heap) (n0 : Nat) (Z0 : n0 ≤ h0.size) (E0 : LS Z h0 ad ([38, 103, 116, 59] : List Int32)) (O2 : Sta Z h0 "java/lang/String" "COMPACT_STRINGS" "Z" (.int z)) (hz : ¬ z = 0) (O4 : Sta Z h0 "jdk/internal/util/Preconditions" "SIOOBE_FORMATTER" "Ljava/util/function/BiFunction;" fm) (rf : fm.isRef = true) :
    MetFree l (⟨"com/example/distill_trees/distilltrees/io/XmlWriterReferencePinLaw", "decode", "(Ljava/lang/String;)I"⟩ : MethodName) (head1 (Jvm.Cond.code (⟨"com/example/distill_trees/distilltrees/io/XmlWriterReferencePinLaw", "decode", "(Ljava/lang/String;)I"⟩ : MethodName) method_4_code 5 (some .int) :: ws) ({ frames := 4, cells := 6, slots := 64, locals := 53 } : Room)) (fun aa U => aa = #[(.ref ad)] ∧ Z.Warmed39 U.vm ∧ U.heap = h0 ∧ CHv Z consts_1 U.vm h0) (fun _ _ _ _ _ => True) (fun _ U o U' => ∃ v L, o = .returned v ∧ Q2gt Z ad z fm h0 n0 v U'.heap L ∧ CHr Z consts_1 U.vm U.heap U'.vm U'.heap ∧ ReturnedEndW U o U' L ({ frames := 4, cells := 6, slots := 64, locals := 53 } : Room).cells ({ frames := 4, cells := 6, slots := 64, locals := 53 } : Room).slots) := by
  refine MetFree.of_bodySF (plainFor_of_name pn_0) hisR ?_
  intro p e s m args below meth c s₁ Bd hml0 hP hK
  obtain ⟨rfl, hZ, hh, HS⟩ := hP
  have hZs := hZ
  have hx := Bd.exec
  have hby := Bd.bytes
  have hml : c.maxLocals = 5 := hml0
  have hown : s.vm.findClass "com/example/distill_trees/distilltrees/io/XmlWriterReferencePinLaw" = some m.cls := findClass_of_methodNamed Bd.named
  have hnm := (name_of_methodNamed Bd.named Bd.method).1
  have X0 : Stand p l e ({ frames := 4, cells := 6, slots := 64, locals := 53 } : Room) s m #[(.ref ad)] below meth c s₁ [] 0 0 := Stand.of_body Bd
  have e0 : s₁.heap = h0 := by rw [← hh, Bd.state]; rfl
  have N0 := Fr.nil n0
  obtain ⟨Ω, hΩ⟩ : ∃ z, z = s₁.setTop (entryFrame m #[(.ref ad)] 5) := ⟨_, rfl⟩
  have S0 : Steps p.tables e below Ω (s₁.setTop (mkF m 0 #[.val (.ref ad), .unset, .unset, .unset, .unset] [])) := by rw [hΩ]; exact castTop (ef_rm2gt m ad) (Steps.refl _)
  have hS0 : s.Since s.vm h0.size := (State.WarmedH.refl s).since _
  have CH0 : CHr Z consts_1 s.vm h0 s.vm h0 := CHr.refl HS
  have S1 : Steps p.tables e below Ω (s₁.setTop (mkF m 1 #[.val (.ref ad), .unset, .unset, .unset, .unset] [(.ref ad)])) := by
    refine S0.trans ?_
    refine XS.aloadN X0.here hx rfl (hb hby d2_0) rfl rfl ?_
    exact Steps.refl _
  obtain ⟨cq2, kq2, q2a, q2b, q2c⟩ := isOf hZ e0 (own_exa E0)
  obtain ⟨v2, T2, X2, e2, hv2, st2⟩ := own_callP X0 hx (y := (⟨"java/lang/String", "length", "()I"⟩ : MethodName)) hown (mvT hZ (hw _ (List.mem_of_getElem? (i := 17) rfl))) (mvT hZ (hw _ (List.mem_of_getElem? (i := 18) rfl))) (mvT hZ (hw _ (List.mem_of_getElem? (i := 20) rfl))) (mvT hZ (hw _ (List.mem_of_getElem? (i := 19) rfl))) (by decide) (Qv := fun v => v = some (.int (Int32.ofNat (([38, 103, 116, 59] : List Int32)).length))) (own_len0 (W := 0) hZ hw (hw _ (List.mem_of_getElem? (i := 7) rfl)) E0 own_hb_gt (by decide) O2 hz (by decide) (by decide)) q2a q2c (g := (mkF m 1 #[.val (.ref ad), .unset, .unset, .unset, .unset] [(.ref ad)])) rfl (by rw [hml]; rfl) (argsL := []) (rest := []) (lenOf pd_1 rfl) rfl (by show 2 * 0 + _ ≤ _; exact Nat.le_of_eq rfl) (hb hby d2_1) ⟨rfl, e0, (by decide), (by decide)⟩
  rw [hv2] at st2
  have S3 : Steps p.tables e below Ω (T2.setTop (mkF m 4 #[.val (.ref ad), .unset, .unset, .unset, .unset] [(.int (4 : Int32))])) := S1.trans st2
  have S4 : Steps p.tables e below Ω (T2.setTop (mkF m 12 #[.val (.ref ad), .val (.int (4 : Int32)), .unset, .unset, .unset] [(.int (0 : Int32)), (.ref ad)])) := by
    refine S3.trans ?_
    refine XS.istoreN X2.here hx rfl (hb hby d2_4) rfl (l' := #[.val (.ref ad), .val (.int (4 : Int32)), .unset, .unset, .unset]) rfl ?_
    show Steps p.tables e below (T2.setTop (mkF m 5 #[.val (.ref ad), .val (.int (4 : Int32)), .unset, .unset, .unset] [])) _
    refine XS.iloadN X2.here hx rfl (hb hby d2_5) rfl ?_
    show Steps p.tables e below (T2.setTop (mkF m 6 #[.val (.ref ad), .val (.int (4 : Int32)), .unset, .unset, .unset] [(.int (4 : Int32))])) _
    refine XS.iconst X2.here hx rfl (hb hby d2_6) ?_
    show Steps p.tables e below (T2.setTop (mkF m 7 #[.val (.ref ad), .val (.int (4 : Int32)), .unset, .unset, .unset] [(.int (4 : Int32)), (.int (4 : Int32))])) _
    refine XS.icmpNo X2.here hx rfl (hb hby d2_7) rfl (XT.ii_lt_f (by decide)) ?_
    show Steps p.tables e below (T2.setTop (mkF m 10 #[.val (.ref ad), .val (.int (4 : Int32)), .unset, .unset, .unset] [])) _
    refine XS.aloadN X2.here hx rfl (hb hby d2_10) rfl rfl ?_
    show Steps p.tables e below (T2.setTop (mkF m 11 #[.val (.ref ad), .val (.int (4 : Int32)), .unset, .unset, .unset] [(.ref ad)])) _
    refine XS.iconst X2.here hx rfl (hb hby d2_11) ?_
    exact Steps.refl _
  obtain ⟨cq5, kq5, q5a, q5b, q5c⟩ := isOf hZ e2 (own_exa E0)
  obtain ⟨v5, T5, X5, e5, hv5, st5⟩ := own_callP X2 hx (y := (⟨"java/lang/String", "charAt", "(I)C"⟩ : MethodName)) hown (mvT hZ (hw _ (List.mem_of_getElem? (i := 30) rfl))) (mvT hZ (hw _ (List.mem_of_getElem? (i := 31) rfl))) (mvT hZ (hw _ (List.mem_of_getElem? (i := 33) rfl))) (mvT hZ (hw _ (List.mem_of_getElem? (i := 32) rfl))) (by decide) (Qv := fun v => v = some (.int (38 : Int32))) (own_ch0 (W := 0) (i := 0) hZ hw (hw _ (List.mem_of_getElem? (i := 7) rfl)) E0 own_hb_gt (by decide) O2 hz O4 rf (by decide) rfl (d := (38 : Int32)) rfl (by decide) (by decide)) q5a q5c (g := (mkF m 12 #[.val (.ref ad), .val (.int (4 : Int32)), .unset, .unset, .unset] [(.int (0 : Int32)), (.ref ad)])) rfl (by rw [hml]; rfl) (argsL := [(.int (0 : Int32))]) (rest := []) (lenOf pd_0 rfl) rfl (by show 2 * 0 + _ ≤ _; exact Nat.le_of_eq rfl) (hb hby d2_12) ⟨rfl, e2, (by decide), (by decide)⟩
  rw [hv5] at st5
  have S6 : Steps p.tables e below Ω (T5.setTop (mkF m 15 #[.val (.ref ad), .val (.int (4 : Int32)), .unset, .unset, .unset] [(.int (38 : Int32))])) := S4.trans st5
  have S7 : Steps p.tables e below Ω (T5.setTop (mkF m 24 #[.val (.ref ad), .val (.int (4 : Int32)), .unset, .unset, .unset] [(.int (3 : Int32)), (.ref ad)])) := by
    refine S6.trans ?_
    refine XS.bipush X5.here hx rfl (hb hby d2_15) ?_
    show Steps p.tables e below (T5.setTop (mkF m 17 #[.val (.ref ad), .val (.int (4 : Int32)), .unset, .unset, .unset] [(.int (38 : Int32)), (.int (38 : Int32))])) _
    refine XS.icmpNo X5.here hx rfl (hb hby d2_17) rfl (XT.ii_ne_f (by decide)) ?_
    show Steps p.tables e below (T5.setTop (mkF m 20 #[.val (.ref ad), .val (.int (4 : Int32)), .unset, .unset, .unset] [])) _
    refine XS.aloadN X5.here hx rfl (hb hby d2_20) rfl rfl ?_
    show Steps p.tables e below (T5.setTop (mkF m 21 #[.val (.ref ad), .val (.int (4 : Int32)), .unset, .unset, .unset] [(.ref ad)])) _
    refine XS.iloadN X5.here hx rfl (hb hby d2_21) rfl ?_
    show Steps p.tables e below (T5.setTop (mkF m 22 #[.val (.ref ad), .val (.int (4 : Int32)), .unset, .unset, .unset] [(.int (4 : Int32)), (.ref ad)])) _
    refine XS.iconst X5.here hx rfl (hb hby d2_22) ?_
    show Steps p.tables e below (T5.setTop (mkF m 23 #[.val (.ref ad), .val (.int (4 : Int32)), .unset, .unset, .unset] [(.int (1 : Int32)), (.int (4 : Int32)), (.ref ad)])) _
    refine XS.isub X5.here hx rfl (hb hby d2_23) rfl ?_
    exact Steps.refl _
  obtain ⟨cq8, kq8, q8a, q8b, q8c⟩ := isOf hZ e5 (own_exa E0)
  obtain ⟨v8, T8, X8, e8, hv8, st8⟩ := own_callP X5 hx (y := (⟨"java/lang/String", "charAt", "(I)C"⟩ : MethodName)) hown (mvT hZ (hw _ (List.mem_of_getElem? (i := 30) rfl))) (mvT hZ (hw _ (List.mem_of_getElem? (i := 31) rfl))) (mvT hZ (hw _ (List.mem_of_getElem? (i := 33) rfl))) (mvT hZ (hw _ (List.mem_of_getElem? (i := 32) rfl))) (by decide) (Qv := fun v => v = some (.int (59 : Int32))) (own_ch0 (W := 0) (i := 3) hZ hw (hw _ (List.mem_of_getElem? (i := 7) rfl)) E0 own_hb_gt (by decide) O2 hz O4 rf (by decide) rfl (d := (59 : Int32)) rfl (by decide) (by decide)) q8a q8c (g := (mkF m 24 #[.val (.ref ad), .val (.int (4 : Int32)), .unset, .unset, .unset] [(.int (3 : Int32)), (.ref ad)])) rfl (by rw [hml]; rfl) (argsL := [(.int (3 : Int32))]) (rest := []) (lenOf pd_0 rfl) rfl (by show 2 * 0 + _ ≤ _; exact Nat.le_of_eq rfl) (hb hby d2_24) ⟨rfl, e5, (by decide), (by decide)⟩
  rw [hv8] at st8
  have S9 : Steps p.tables e below Ω (T8.setTop (mkF m 27 #[.val (.ref ad), .val (.int (4 : Int32)), .unset, .unset, .unset] [(.int (59 : Int32))])) := S7.trans st8
  have S10 : Steps p.tables e below Ω (T8.setTop (mkF m 35 #[.val (.ref ad), .val (.int (4 : Int32)), .unset, .unset, .unset] [(.ref ad)])) := by
    refine S9.trans ?_
    refine XS.bipush X8.here hx rfl (hb hby d2_27) ?_
    show Steps p.tables e below (T8.setTop (mkF m 29 #[.val (.ref ad), .val (.int (4 : Int32)), .unset, .unset, .unset] [(.int (59 : Int32)), (.int (59 : Int32))])) _
    refine XS.icmpYes X8.here hx rfl (pc0 := 29) (pc' := 34) rfl (hb hby d2_29) rfl (XT.ii_eq_t (by decide)) (by decide) (by decide) ?_
    show Steps p.tables e below (T8.setTop (mkF m 34 #[.val (.ref ad), .val (.int (4 : Int32)), .unset, .unset, .unset] [])) _
    refine XS.aloadN X8.here hx rfl (hb hby d2_34) rfl rfl ?_
    exact Steps.refl _
  obtain ⟨a11, T11, h11, kb11, X11, e11, E11, hS11, hk11, hZ, hown, L11, C11, st11⟩ := own_ldcC (s := s) (vm0 := s.vm) X8 hx hZ hown (hw _ (List.mem_of_getElem? (i := 52) rfl)) own_tx_amp (own_wS hw) e8 hS0 (Nat.le_refl h0.size) (own_lk hw) (List.mem_of_getElem? (i := 7) rfl) CH0.1 (g := (mkF m 35 #[.val (.ref ad), .val (.int (4 : Int32)), .unset, .unset, .unset] [(.ref ad)])) rfl (hb hby d2_35) (n := 20) (by decide) (by decide) (by decide) (by decide)
  have CH11 := CHr.trans CH0 C11
  have S12 : Steps p.tables e below Ω (T11.setTop (mkF m 37 #[.val (.ref ad), .val (.int (4 : Int32)), .unset, .unset, .unset] [(.ref a11), (.ref ad)])) := S10.trans (st11 _ (Steps.refl _))
  have LS_11 := E0.ext E11
  have O2_11 := O2.ext E11
  have O4_11 := O4.ext E11
  obtain ⟨cq13, kq13, q13a, q13b, q13c⟩ := isOf hZ e11 (own_exa LS_11)
  obtain ⟨v13, T13, X13, e13, hv13, st13⟩ := own_callP X11 hx (y := (⟨"java/lang/String", "equals", "(Ljava/lang/Object;)Z"⟩ : MethodName)) hown (mvT hZ (hw _ (List.mem_of_getElem? (i := 53) rfl))) (mvT hZ (hw _ (List.mem_of_getElem? (i := 54) rfl))) (mvT hZ (hw _ (List.mem_of_getElem? (i := 56) rfl))) (mvT hZ (hw _ (List.mem_of_getElem? (i := 55) rfl))) (by decide) (Qv := fun v => (v = some (.int 1) ∧ ([38, 103, 116, 59] : List Int32) = ([38, 97, 109, 112, 59] : List Int32)) ∨ (v = some (.int 0) ∧ ¬ ([38, 103, 116, 59] : List Int32) = ([38, 97, 109, 112, 59] : List Int32))) (own_eq0 (W := 0) hZ hw (hw _ (List.mem_of_getElem? (i := 7) rfl)) LS_11 own_hb_gt (by decide) L11 own_hb_amp (by decide) O2_11 hz (by decide) (by decide)) q13a q13c (g := (mkF m 37 #[.val (.ref ad), .val (.int (4 : Int32)), .unset, .unset, .unset] [(.ref a11), (.ref ad)])) rfl (by rw [hml]; rfl) (argsL := [(.ref a11)]) (rest := []) (lenOf pd_2 rfl) rfl (by show 2 * 0 + _ ≤ _; exact Nat.le_of_eq rfl) (hb hby d2_37) ⟨rfl, e11, (by decide), (by decide)⟩
  have hv13 : v13 = some (.int (0 : Int32)) := hv13.elim (fun q => absurd q.2 (by decide)) (fun q => q.1)
  rw [hv13] at st13
  have S14 : Steps p.tables e below Ω (T13.setTop (mkF m 40 #[.val (.ref ad), .val (.int (4 : Int32)), .unset, .unset, .unset] [(.int (0 : Int32))])) := S12.trans st13
  have S15 : Steps p.tables e below Ω (T13.setTop (mkF m 47 #[.val (.ref ad), .val (.int (4 : Int32)), .unset, .unset, .unset] [(.ref ad)])) := by
    refine S14.trans ?_
    refine XS.ifYes X13.here hx rfl (pc0 := 40) (pc' := 46) rfl (hb hby d2_40) rfl (XT.i0_eq_t (by decide)) (by decide) (by decide) ?_
    show Steps p.tables e below (T13.setTop (mkF m 46 #[.val (.ref ad), .val (.int (4 : Int32)), .unset, .unset, .unset] [])) _
    refine XS.aloadN X13.here hx rfl (hb hby d2_46) rfl rfl ?_
    exact Steps.refl _
  obtain ⟨a16, T16, h16, kb16, X16, e16, E16, hS16, hk16, hZ, hown, L16, C16, st16⟩ := own_ldcC (s := s) (vm0 := T11.vm) X13 hx hZ hown (hw _ (List.mem_of_getElem? (i := 63) rfl)) own_tx_lt (own_wS hw) e13 hS11 hk11 (own_lk hw) (List.mem_of_getElem? (i := 8) rfl) CH11.1 (g := (mkF m 47 #[.val (.ref ad), .val (.int (4 : Int32)), .unset, .unset, .unset] [(.ref ad)])) rfl (hb hby d2_47) (n := 16) (by decide) (by decide) (by decide) (by decide)
  have CH16 := CHr.trans CH11 C16
  have S17 : Steps p.tables e below Ω (T16.setTop (mkF m 49 #[.val (.ref ad), .val (.int (4 : Int32)), .unset, .unset, .unset] [(.ref a16), (.ref ad)])) := S15.trans (st16 _ (Steps.refl _))
  have LS_16 := LS_11.ext E16
  have O2_16 := O2_11.ext E16
  have O4_16 := O4_11.ext E16
  obtain ⟨cq18, kq18, q18a, q18b, q18c⟩ := isOf hZ e16 (own_exa LS_16)
  obtain ⟨v18, T18, X18, e18, hv18, st18⟩ := own_callP X16 hx (y := (⟨"java/lang/String", "equals", "(Ljava/lang/Object;)Z"⟩ : MethodName)) hown (mvT hZ (hw _ (List.mem_of_getElem? (i := 53) rfl))) (mvT hZ (hw _ (List.mem_of_getElem? (i := 54) rfl))) (mvT hZ (hw _ (List.mem_of_getElem? (i := 56) rfl))) (mvT hZ (hw _ (List.mem_of_getElem? (i := 55) rfl))) (by decide) (Qv := fun v => (v = some (.int 1) ∧ ([38, 103, 116, 59] : List Int32) = ([38, 108, 116, 59] : List Int32)) ∨ (v = some (.int 0) ∧ ¬ ([38, 103, 116, 59] : List Int32) = ([38, 108, 116, 59] : List Int32))) (own_eq0 (W := 0) hZ hw (hw _ (List.mem_of_getElem? (i := 7) rfl)) LS_16 own_hb_gt (by decide) L16 own_hb_lt (by decide) O2_16 hz (by decide) (by decide)) q18a q18c (g := (mkF m 49 #[.val (.ref ad), .val (.int (4 : Int32)), .unset, .unset, .unset] [(.ref a16), (.ref ad)])) rfl (by rw [hml]; rfl) (argsL := [(.ref a16)]) (rest := []) (lenOf pd_2 rfl) rfl (by show 2 * 0 + _ ≤ _; exact Nat.le_of_eq rfl) (hb hby d2_49) ⟨rfl, e16, (by decide), (by decide)⟩
  have hv18 : v18 = some (.int (0 : Int32)) := hv18.elim (fun q => absurd q.2 (by decide)) (fun q => q.1)
  rw [hv18] at st18
  have S19 : Steps p.tables e below Ω (T18.setTop (mkF m 52 #[.val (.ref ad), .val (.int (4 : Int32)), .unset, .unset, .unset] [(.int (0 : Int32))])) := S17.trans st18
  have S20 : Steps p.tables e below Ω (T18.setTop (mkF m 59 #[.val (.ref ad), .val (.int (4 : Int32)), .unset, .unset, .unset] [(.ref ad)])) := by
    refine S19.trans ?_
    refine XS.ifYes X18.here hx rfl (pc0 := 52) (pc' := 58) rfl (hb hby d2_52) rfl (XT.i0_eq_t (by decide)) (by decide) (by decide) ?_
    show Steps p.tables e below (T18.setTop (mkF m 58 #[.val (.ref ad), .val (.int (4 : Int32)), .unset, .unset, .unset] [])) _
    refine XS.aloadN X18.here hx rfl (hb hby d2_58) rfl rfl ?_
    exact Steps.refl _
  obtain ⟨a21, T21, h21, kb21, X21, e21, E21, hS21, hk21, hZ, hown, L21, C21, st21⟩ := own_ldcC (s := s) (vm0 := T16.vm) X18 hx hZ hown (hw _ (List.mem_of_getElem? (i := 66) rfl)) own_tx_gt (own_wS hw) e18 hS16 hk16 (own_lk hw) (List.mem_of_getElem? (i := 9) rfl) CH16.1 (g := (mkF m 59 #[.val (.ref ad), .val (.int (4 : Int32)), .unset, .unset, .unset] [(.ref ad)])) rfl (hb hby d2_59) (n := 16) (by decide) (by decide) (by decide) (by decide)
  have CH21 := CHr.trans CH16 C21
  have S22 : Steps p.tables e below Ω (T21.setTop (mkF m 61 #[.val (.ref ad), .val (.int (4 : Int32)), .unset, .unset, .unset] [(.ref a21), (.ref ad)])) := S20.trans (st21 _ (Steps.refl _))
  have LS_21 := LS_16.ext E21
  have O2_21 := O2_16.ext E21
  have O4_21 := O4_16.ext E21
  obtain ⟨cq23, kq23, q23a, q23b, q23c⟩ := isOf hZ e21 (own_exa LS_21)
  obtain ⟨v23, T23, X23, e23, hv23, st23⟩ := own_callP X21 hx (y := (⟨"java/lang/String", "equals", "(Ljava/lang/Object;)Z"⟩ : MethodName)) hown (mvT hZ (hw _ (List.mem_of_getElem? (i := 53) rfl))) (mvT hZ (hw _ (List.mem_of_getElem? (i := 54) rfl))) (mvT hZ (hw _ (List.mem_of_getElem? (i := 56) rfl))) (mvT hZ (hw _ (List.mem_of_getElem? (i := 55) rfl))) (by decide) (Qv := fun v => (v = some (.int 1) ∧ ([38, 103, 116, 59] : List Int32) = ([38, 103, 116, 59] : List Int32)) ∨ (v = some (.int 0) ∧ ¬ ([38, 103, 116, 59] : List Int32) = ([38, 103, 116, 59] : List Int32))) (own_eq0 (W := 0) hZ hw (hw _ (List.mem_of_getElem? (i := 7) rfl)) LS_21 own_hb_gt (by decide) L21 own_hb_gt (by decide) O2_21 hz (by decide) (by decide)) q23a q23c (g := (mkF m 61 #[.val (.ref ad), .val (.int (4 : Int32)), .unset, .unset, .unset] [(.ref a21), (.ref ad)])) rfl (by rw [hml]; rfl) (argsL := [(.ref a21)]) (rest := []) (lenOf pd_2 rfl) rfl (by show 2 * 0 + _ ≤ _; exact Nat.le_of_eq rfl) (hb hby d2_61) ⟨rfl, e21, (by decide), (by decide)⟩
  have hv23 : v23 = some (.int (1 : Int32)) := hv23.elim (fun q => q.1) (fun q => absurd rfl q.2)
  rw [hv23] at st23
  have S24 : Steps p.tables e below Ω (T23.setTop (mkF m 64 #[.val (.ref ad), .val (.int (4 : Int32)), .unset, .unset, .unset] [(.int (1 : Int32))])) := S22.trans st23
  have S25 : Steps p.tables e below Ω (T23.setTop (mkF m 69 #[.val (.ref ad), .val (.int (4 : Int32)), .unset, .unset, .unset] [(.int (62 : Int32))])) := by
    refine S24.trans ?_
    refine XS.ifNo X23.here hx rfl (hb hby d2_64) rfl (XT.i0_eq_f (by decide)) ?_
    show Steps p.tables e below (T23.setTop (mkF m 67 #[.val (.ref ad), .val (.int (4 : Int32)), .unset, .unset, .unset] [])) _
    refine XS.bipush X23.here hx rfl (hb hby d2_67) ?_
    exact Steps.refl _
  obtain ⟨fs, hr, hrun, hended, hend⟩ := Stand.leaveW (s := s) (vm₁ := T21.vm) X23 hS21 (by rw [e23]; exact hk21) (v := some (.int (62 : Int32))) (fun h => by rw [Bd.returns] at h; cases h)
  have hfin : Steps p.tables e below Ω (T23.setFrames fs) := by
    refine S25.trans ?_
    exact retI X23 hx Bd.returns (hb hby d2_69) hr
  rw [hΩ] at hfin
  have CHe : CHr Z consts_1 s.vm s.heap T23.vm T23.heap := by
    rw [hh, e23]
    exact CHr.trans CH21 (CHv.at (s := s) (vm0 := T21.vm) X23 hZ (own_lk hw) CH21.1)
  refine ⟨_, _, hfin, hrun, hended, _, _, rfl, ?_, CHe, hend.1, hend.2.1, hend.2.2.1, hend.2.2.2.mono (by decide) (by decide)⟩
  show Q2gt Z ad z fm h0 n0 _ T23.heap _
  rw [e23]
  exact ⟨rfl, N0⟩
theorem d2_70 : decode method_4_code 70 = .ok (.aload_n 0, 1) := by decide +kernel
theorem d2_71 : decode method_4_code 71 = .ok (.ldc 39, 2) := by decide +kernel
theorem d2_73 : decode method_4_code 73 = .ok (.invokevirtual 31, 3) := by decide +kernel
theorem d2_76 : decode method_4_code 76 = .ok (.ifCond .eq 6, 3) := by decide +kernel
theorem d2_79 : decode method_4_code 79 = .ok (.bipush 34, 2) := by decide +kernel
theorem d2_81 : decode method_4_code 81 = .ok (.ireturn, 1) := by decide +kernel
theorem ef_rm2quot (m : MethodId) (x0 : Addr) : entryFrame m #[(.ref x0)] 5 = mkF m 0 #[.val (.ref x0), .unset, .unset, .unset, .unset] [] := by first | (simp [entryFrame, mkF, argsToLocals, Value.category]; done) | rfl
def Q2quot (Z : State) (ad : Addr) (z : Int32) (fm : Value) (h0 : Heap) (n0 : Nat) (v : Option Value) (h : Heap) (L : List Loc) : Prop := v = some (.int (34 : Int32)) ∧ Fr n0 L
set_option maxRecDepth 65536 in
set_option maxHeartbeats 40000000 in
theorem rm2quot (l : Launch) (Z : State) (a0 : Array Value) (hw : ∀ d ∈ tables_1, d.before a0 Z = true) (ws : List Jvm.Cond) (ad : Addr) (z : Int32) (fm : Value) (h0 : Heap) (n0 : Nat) (Z0 : n0 ≤ h0.size) (E0 : LS Z h0 ad ([38, 113, 117, 111, 116, 59] : List Int32)) (O2 : Sta Z h0 "java/lang/String" "COMPACT_STRINGS" "Z" (.int z)) (hz : ¬ z = 0) (O4 : Sta Z h0 "jdk/internal/util/Preconditions" "SIOOBE_FORMATTER" "Ljava/util/function/BiFunction;" fm) (rf : fm.isRef = true) :
    MetFree l (⟨"com/example/distill_trees/distilltrees/io/XmlWriterReferencePinLaw", "decode", "(Ljava/lang/String;)I"⟩ : MethodName) (head1 (Jvm.Cond.code (⟨"com/example/distill_trees/distilltrees/io/XmlWriterReferencePinLaw", "decode", "(Ljava/lang/String;)I"⟩ : MethodName) method_4_code 5 (some .int) :: ws) ({ frames := 4, cells := 8, slots := 92, locals := 53 } : Room)) (fun aa U => aa = #[(.ref ad)] ∧ Z.Warmed39 U.vm ∧ U.heap = h0 ∧ CHv Z consts_1 U.vm h0) (fun _ _ _ _ _ => True) (fun _ U o U' => ∃ v L, o = .returned v ∧ Q2quot Z ad z fm h0 n0 v U'.heap L ∧ CHr Z consts_1 U.vm U.heap U'.vm U'.heap ∧ ReturnedEndW U o U' L ({ frames := 4, cells := 8, slots := 92, locals := 53 } : Room).cells ({ frames := 4, cells := 8, slots := 92, locals := 53 } : Room).slots) := by
  refine MetFree.of_bodySF (plainFor_of_name pn_0) hisR ?_
  intro p e s m args below meth c s₁ Bd hml0 hP hK
  obtain ⟨rfl, hZ, hh, HS⟩ := hP
  have hZs := hZ
  have hx := Bd.exec
  have hby := Bd.bytes
  have hml : c.maxLocals = 5 := hml0
  have hown : s.vm.findClass "com/example/distill_trees/distilltrees/io/XmlWriterReferencePinLaw" = some m.cls := findClass_of_methodNamed Bd.named
  have hnm := (name_of_methodNamed Bd.named Bd.method).1
  have X0 : Stand p l e ({ frames := 4, cells := 8, slots := 92, locals := 53 } : Room) s m #[(.ref ad)] below meth c s₁ [] 0 0 := Stand.of_body Bd
  have e0 : s₁.heap = h0 := by rw [← hh, Bd.state]; rfl
  have N0 := Fr.nil n0
  obtain ⟨Ω, hΩ⟩ : ∃ z, z = s₁.setTop (entryFrame m #[(.ref ad)] 5) := ⟨_, rfl⟩
  have S0 : Steps p.tables e below Ω (s₁.setTop (mkF m 0 #[.val (.ref ad), .unset, .unset, .unset, .unset] [])) := by rw [hΩ]; exact castTop (ef_rm2quot m ad) (Steps.refl _)
  have hS0 : s.Since s.vm h0.size := (State.WarmedH.refl s).since _
  have CH0 : CHr Z consts_1 s.vm h0 s.vm h0 := CHr.refl HS
  have S1 : Steps p.tables e below Ω (s₁.setTop (mkF m 1 #[.val (.ref ad), .unset, .unset, .unset, .unset] [(.ref ad)])) := by
    refine S0.trans ?_
    refine XS.aloadN X0.here hx rfl (hb hby d2_0) rfl rfl ?_
    exact Steps.refl _
  obtain ⟨cq2, kq2, q2a, q2b, q2c⟩ := isOf hZ e0 (own_exa E0)
  obtain ⟨v2, T2, X2, e2, hv2, st2⟩ := own_callP X0 hx (y := (⟨"java/lang/String", "length", "()I"⟩ : MethodName)) hown (mvT hZ (hw _ (List.mem_of_getElem? (i := 17) rfl))) (mvT hZ (hw _ (List.mem_of_getElem? (i := 18) rfl))) (mvT hZ (hw _ (List.mem_of_getElem? (i := 20) rfl))) (mvT hZ (hw _ (List.mem_of_getElem? (i := 19) rfl))) (by decide) (Qv := fun v => v = some (.int (Int32.ofNat (([38, 113, 117, 111, 116, 59] : List Int32)).length))) (own_len0 (W := 0) hZ hw (hw _ (List.mem_of_getElem? (i := 7) rfl)) E0 own_hb_quot (by decide) O2 hz (by decide) (by decide)) q2a q2c (g := (mkF m 1 #[.val (.ref ad), .unset, .unset, .unset, .unset] [(.ref ad)])) rfl (by rw [hml]; rfl) (argsL := []) (rest := []) (lenOf pd_1 rfl) rfl (by show 2 * 0 + _ ≤ _; exact Nat.le_of_eq rfl) (hb hby d2_1) ⟨rfl, e0, (by decide), (by decide)⟩
  rw [hv2] at st2
  have S3 : Steps p.tables e below Ω (T2.setTop (mkF m 4 #[.val (.ref ad), .unset, .unset, .unset, .unset] [(.int (6 : Int32))])) := S1.trans st2
  have S4 : Steps p.tables e below Ω (T2.setTop (mkF m 12 #[.val (.ref ad), .val (.int (6 : Int32)), .unset, .unset, .unset] [(.int (0 : Int32)), (.ref ad)])) := by
    refine S3.trans ?_
    refine XS.istoreN X2.here hx rfl (hb hby d2_4) rfl (l' := #[.val (.ref ad), .val (.int (6 : Int32)), .unset, .unset, .unset]) rfl ?_
    show Steps p.tables e below (T2.setTop (mkF m 5 #[.val (.ref ad), .val (.int (6 : Int32)), .unset, .unset, .unset] [])) _
    refine XS.iloadN X2.here hx rfl (hb hby d2_5) rfl ?_
    show Steps p.tables e below (T2.setTop (mkF m 6 #[.val (.ref ad), .val (.int (6 : Int32)), .unset, .unset, .unset] [(.int (6 : Int32))])) _
    refine XS.iconst X2.here hx rfl (hb hby d2_6) ?_
    show Steps p.tables e below (T2.setTop (mkF m 7 #[.val (.ref ad), .val (.int (6 : Int32)), .unset, .unset, .unset] [(.int (4 : Int32)), (.int (6 : Int32))])) _
    refine XS.icmpNo X2.here hx rfl (hb hby d2_7) rfl (XT.ii_lt_f (by decide)) ?_
    show Steps p.tables e below (T2.setTop (mkF m 10 #[.val (.ref ad), .val (.int (6 : Int32)), .unset, .unset, .unset] [])) _
    refine XS.aloadN X2.here hx rfl (hb hby d2_10) rfl rfl ?_
    show Steps p.tables e below (T2.setTop (mkF m 11 #[.val (.ref ad), .val (.int (6 : Int32)), .unset, .unset, .unset] [(.ref ad)])) _
    refine XS.iconst X2.here hx rfl (hb hby d2_11) ?_
    exact Steps.refl _
  obtain ⟨cq5, kq5, q5a, q5b, q5c⟩ := isOf hZ e2 (own_exa E0)
  obtain ⟨v5, T5, X5, e5, hv5, st5⟩ := own_callP X2 hx (y := (⟨"java/lang/String", "charAt", "(I)C"⟩ : MethodName)) hown (mvT hZ (hw _ (List.mem_of_getElem? (i := 30) rfl))) (mvT hZ (hw _ (List.mem_of_getElem? (i := 31) rfl))) (mvT hZ (hw _ (List.mem_of_getElem? (i := 33) rfl))) (mvT hZ (hw _ (List.mem_of_getElem? (i := 32) rfl))) (by decide) (Qv := fun v => v = some (.int (38 : Int32))) (own_ch0 (W := 0) (i := 0) hZ hw (hw _ (List.mem_of_getElem? (i := 7) rfl)) E0 own_hb_quot (by decide) O2 hz O4 rf (by decide) rfl (d := (38 : Int32)) rfl (by decide) (by decide)) q5a q5c (g := (mkF m 12 #[.val (.ref ad), .val (.int (6 : Int32)), .unset, .unset, .unset] [(.int (0 : Int32)), (.ref ad)])) rfl (by rw [hml]; rfl) (argsL := [(.int (0 : Int32))]) (rest := []) (lenOf pd_0 rfl) rfl (by show 2 * 0 + _ ≤ _; exact Nat.le_of_eq rfl) (hb hby d2_12) ⟨rfl, e2, (by decide), (by decide)⟩
  rw [hv5] at st5
  have S6 : Steps p.tables e below Ω (T5.setTop (mkF m 15 #[.val (.ref ad), .val (.int (6 : Int32)), .unset, .unset, .unset] [(.int (38 : Int32))])) := S4.trans st5
  have S7 : Steps p.tables e below Ω (T5.setTop (mkF m 24 #[.val (.ref ad), .val (.int (6 : Int32)), .unset, .unset, .unset] [(.int (5 : Int32)), (.ref ad)])) := by
    refine S6.trans ?_
    refine XS.bipush X5.here hx rfl (hb hby d2_15) ?_
    show Steps p.tables e below (T5.setTop (mkF m 17 #[.val (.ref ad), .val (.int (6 : Int32)), .unset, .unset, .unset] [(.int (38 : Int32)), (.int (38 : Int32))])) _
    refine XS.icmpNo X5.here hx rfl (hb hby d2_17) rfl (XT.ii_ne_f (by decide)) ?_
    show Steps p.tables e below (T5.setTop (mkF m 20 #[.val (.ref ad), .val (.int (6 : Int32)), .unset, .unset, .unset] [])) _
    refine XS.aloadN X5.here hx rfl (hb hby d2_20) rfl rfl ?_
    show Steps p.tables e below (T5.setTop (mkF m 21 #[.val (.ref ad), .val (.int (6 : Int32)), .unset, .unset, .unset] [(.ref ad)])) _
    refine XS.iloadN X5.here hx rfl (hb hby d2_21) rfl ?_
    show Steps p.tables e below (T5.setTop (mkF m 22 #[.val (.ref ad), .val (.int (6 : Int32)), .unset, .unset, .unset] [(.int (6 : Int32)), (.ref ad)])) _
    refine XS.iconst X5.here hx rfl (hb hby d2_22) ?_
    show Steps p.tables e below (T5.setTop (mkF m 23 #[.val (.ref ad), .val (.int (6 : Int32)), .unset, .unset, .unset] [(.int (1 : Int32)), (.int (6 : Int32)), (.ref ad)])) _
    refine XS.isub X5.here hx rfl (hb hby d2_23) rfl ?_
    exact Steps.refl _
  obtain ⟨cq8, kq8, q8a, q8b, q8c⟩ := isOf hZ e5 (own_exa E0)
  obtain ⟨v8, T8, X8, e8, hv8, st8⟩ := own_callP X5 hx (y := (⟨"java/lang/String", "charAt", "(I)C"⟩ : MethodName)) hown (mvT hZ (hw _ (List.mem_of_getElem? (i := 30) rfl))) (mvT hZ (hw _ (List.mem_of_getElem? (i := 31) rfl))) (mvT hZ (hw _ (List.mem_of_getElem? (i := 33) rfl))) (mvT hZ (hw _ (List.mem_of_getElem? (i := 32) rfl))) (by decide) (Qv := fun v => v = some (.int (59 : Int32))) (own_ch0 (W := 0) (i := 5) hZ hw (hw _ (List.mem_of_getElem? (i := 7) rfl)) E0 own_hb_quot (by decide) O2 hz O4 rf (by decide) rfl (d := (59 : Int32)) rfl (by decide) (by decide)) q8a q8c (g := (mkF m 24 #[.val (.ref ad), .val (.int (6 : Int32)), .unset, .unset, .unset] [(.int (5 : Int32)), (.ref ad)])) rfl (by rw [hml]; rfl) (argsL := [(.int (5 : Int32))]) (rest := []) (lenOf pd_0 rfl) rfl (by show 2 * 0 + _ ≤ _; exact Nat.le_of_eq rfl) (hb hby d2_24) ⟨rfl, e5, (by decide), (by decide)⟩
  rw [hv8] at st8
  have S9 : Steps p.tables e below Ω (T8.setTop (mkF m 27 #[.val (.ref ad), .val (.int (6 : Int32)), .unset, .unset, .unset] [(.int (59 : Int32))])) := S7.trans st8
  have S10 : Steps p.tables e below Ω (T8.setTop (mkF m 35 #[.val (.ref ad), .val (.int (6 : Int32)), .unset, .unset, .unset] [(.ref ad)])) := by
    refine S9.trans ?_
    refine XS.bipush X8.here hx rfl (hb hby d2_27) ?_
    show Steps p.tables e below (T8.setTop (mkF m 29 #[.val (.ref ad), .val (.int (6 : Int32)), .unset, .unset, .unset] [(.int (59 : Int32)), (.int (59 : Int32))])) _
    refine XS.icmpYes X8.here hx rfl (pc0 := 29) (pc' := 34) rfl (hb hby d2_29) rfl (XT.ii_eq_t (by decide)) (by decide) (by decide) ?_
    show Steps p.tables e below (T8.setTop (mkF m 34 #[.val (.ref ad), .val (.int (6 : Int32)), .unset, .unset, .unset] [])) _
    refine XS.aloadN X8.here hx rfl (hb hby d2_34) rfl rfl ?_
    exact Steps.refl _
  obtain ⟨a11, T11, h11, kb11, X11, e11, E11, hS11, hk11, hZ, hown, L11, C11, st11⟩ := own_ldcC (s := s) (vm0 := s.vm) X8 hx hZ hown (hw _ (List.mem_of_getElem? (i := 52) rfl)) own_tx_amp (own_wS hw) e8 hS0 (Nat.le_refl h0.size) (own_lk hw) (List.mem_of_getElem? (i := 7) rfl) CH0.1 (g := (mkF m 35 #[.val (.ref ad), .val (.int (6 : Int32)), .unset, .unset, .unset] [(.ref ad)])) rfl (hb hby d2_35) (n := 20) (by decide) (by decide) (by decide) (by decide)
  have CH11 := CHr.trans CH0 C11
  have S12 : Steps p.tables e below Ω (T11.setTop (mkF m 37 #[.val (.ref ad), .val (.int (6 : Int32)), .unset, .unset, .unset] [(.ref a11), (.ref ad)])) := S10.trans (st11 _ (Steps.refl _))
  have LS_11 := E0.ext E11
  have O2_11 := O2.ext E11
  have O4_11 := O4.ext E11
  obtain ⟨cq13, kq13, q13a, q13b, q13c⟩ := isOf hZ e11 (own_exa LS_11)
  obtain ⟨v13, T13, X13, e13, hv13, st13⟩ := own_callP X11 hx (y := (⟨"java/lang/String", "equals", "(Ljava/lang/Object;)Z"⟩ : MethodName)) hown (mvT hZ (hw _ (List.mem_of_getElem? (i := 53) rfl))) (mvT hZ (hw _ (List.mem_of_getElem? (i := 54) rfl))) (mvT hZ (hw _ (List.mem_of_getElem? (i := 56) rfl))) (mvT hZ (hw _ (List.mem_of_getElem? (i := 55) rfl))) (by decide) (Qv := fun v => (v = some (.int 1) ∧ ([38, 113, 117, 111, 116, 59] : List Int32) = ([38, 97, 109, 112, 59] : List Int32)) ∨ (v = some (.int 0) ∧ ¬ ([38, 113, 117, 111, 116, 59] : List Int32) = ([38, 97, 109, 112, 59] : List Int32))) (own_eq0 (W := 0) hZ hw (hw _ (List.mem_of_getElem? (i := 7) rfl)) LS_11 own_hb_quot (by decide) L11 own_hb_amp (by decide) O2_11 hz (by decide) (by decide)) q13a q13c (g := (mkF m 37 #[.val (.ref ad), .val (.int (6 : Int32)), .unset, .unset, .unset] [(.ref a11), (.ref ad)])) rfl (by rw [hml]; rfl) (argsL := [(.ref a11)]) (rest := []) (lenOf pd_2 rfl) rfl (by show 2 * 0 + _ ≤ _; exact Nat.le_of_eq rfl) (hb hby d2_37) ⟨rfl, e11, (by decide), (by decide)⟩
  have hv13 : v13 = some (.int (0 : Int32)) := hv13.elim (fun q => absurd q.2 (by decide)) (fun q => q.1)
  rw [hv13] at st13
  have S14 : Steps p.tables e below Ω (T13.setTop (mkF m 40 #[.val (.ref ad), .val (.int (6 : Int32)), .unset, .unset, .unset] [(.int (0 : Int32))])) := S12.trans st13
  have S15 : Steps p.tables e below Ω (T13.setTop (mkF m 47 #[.val (.ref ad), .val (.int (6 : Int32)), .unset, .unset, .unset] [(.ref ad)])) := by
    refine S14.trans ?_
    refine XS.ifYes X13.here hx rfl (pc0 := 40) (pc' := 46) rfl (hb hby d2_40) rfl (XT.i0_eq_t (by decide)) (by decide) (by decide) ?_
    show Steps p.tables e below (T13.setTop (mkF m 46 #[.val (.ref ad), .val (.int (6 : Int32)), .unset, .unset, .unset] [])) _
    refine XS.aloadN X13.here hx rfl (hb hby d2_46) rfl rfl ?_
    exact Steps.refl _
  obtain ⟨a16, T16, h16, kb16, X16, e16, E16, hS16, hk16, hZ, hown, L16, C16, st16⟩ := own_ldcC (s := s) (vm0 := T11.vm) X13 hx hZ hown (hw _ (List.mem_of_getElem? (i := 63) rfl)) own_tx_lt (own_wS hw) e13 hS11 hk11 (own_lk hw) (List.mem_of_getElem? (i := 8) rfl) CH11.1 (g := (mkF m 47 #[.val (.ref ad), .val (.int (6 : Int32)), .unset, .unset, .unset] [(.ref ad)])) rfl (hb hby d2_47) (n := 16) (by decide) (by decide) (by decide) (by decide)
  have CH16 := CHr.trans CH11 C16
  have S17 : Steps p.tables e below Ω (T16.setTop (mkF m 49 #[.val (.ref ad), .val (.int (6 : Int32)), .unset, .unset, .unset] [(.ref a16), (.ref ad)])) := S15.trans (st16 _ (Steps.refl _))
  have LS_16 := LS_11.ext E16
  have O2_16 := O2_11.ext E16
  have O4_16 := O4_11.ext E16
  obtain ⟨cq18, kq18, q18a, q18b, q18c⟩ := isOf hZ e16 (own_exa LS_16)
  obtain ⟨v18, T18, X18, e18, hv18, st18⟩ := own_callP X16 hx (y := (⟨"java/lang/String", "equals", "(Ljava/lang/Object;)Z"⟩ : MethodName)) hown (mvT hZ (hw _ (List.mem_of_getElem? (i := 53) rfl))) (mvT hZ (hw _ (List.mem_of_getElem? (i := 54) rfl))) (mvT hZ (hw _ (List.mem_of_getElem? (i := 56) rfl))) (mvT hZ (hw _ (List.mem_of_getElem? (i := 55) rfl))) (by decide) (Qv := fun v => (v = some (.int 1) ∧ ([38, 113, 117, 111, 116, 59] : List Int32) = ([38, 108, 116, 59] : List Int32)) ∨ (v = some (.int 0) ∧ ¬ ([38, 113, 117, 111, 116, 59] : List Int32) = ([38, 108, 116, 59] : List Int32))) (own_eq0 (W := 0) hZ hw (hw _ (List.mem_of_getElem? (i := 7) rfl)) LS_16 own_hb_quot (by decide) L16 own_hb_lt (by decide) O2_16 hz (by decide) (by decide)) q18a q18c (g := (mkF m 49 #[.val (.ref ad), .val (.int (6 : Int32)), .unset, .unset, .unset] [(.ref a16), (.ref ad)])) rfl (by rw [hml]; rfl) (argsL := [(.ref a16)]) (rest := []) (lenOf pd_2 rfl) rfl (by show 2 * 0 + _ ≤ _; exact Nat.le_of_eq rfl) (hb hby d2_49) ⟨rfl, e16, (by decide), (by decide)⟩
  have hv18 : v18 = some (.int (0 : Int32)) := hv18.elim (fun q => absurd q.2 (by decide)) (fun q => q.1)
  rw [hv18] at st18
  have S19 : Steps p.tables e below Ω (T18.setTop (mkF m 52 #[.val (.ref ad), .val (.int (6 : Int32)), .unset, .unset, .unset] [(.int (0 : Int32))])) := S17.trans st18
  have S20 : Steps p.tables e below Ω (T18.setTop (mkF m 59 #[.val (.ref ad), .val (.int (6 : Int32)), .unset, .unset, .unset] [(.ref ad)])) := by
    refine S19.trans ?_
    refine XS.ifYes X18.here hx rfl (pc0 := 52) (pc' := 58) rfl (hb hby d2_52) rfl (XT.i0_eq_t (by decide)) (by decide) (by decide) ?_
    show Steps p.tables e below (T18.setTop (mkF m 58 #[.val (.ref ad), .val (.int (6 : Int32)), .unset, .unset, .unset] [])) _
    refine XS.aloadN X18.here hx rfl (hb hby d2_58) rfl rfl ?_
    exact Steps.refl _
  obtain ⟨a21, T21, h21, kb21, X21, e21, E21, hS21, hk21, hZ, hown, L21, C21, st21⟩ := own_ldcC (s := s) (vm0 := T16.vm) X18 hx hZ hown (hw _ (List.mem_of_getElem? (i := 66) rfl)) own_tx_gt (own_wS hw) e18 hS16 hk16 (own_lk hw) (List.mem_of_getElem? (i := 9) rfl) CH16.1 (g := (mkF m 59 #[.val (.ref ad), .val (.int (6 : Int32)), .unset, .unset, .unset] [(.ref ad)])) rfl (hb hby d2_59) (n := 16) (by decide) (by decide) (by decide) (by decide)
  have CH21 := CHr.trans CH16 C21
  have S22 : Steps p.tables e below Ω (T21.setTop (mkF m 61 #[.val (.ref ad), .val (.int (6 : Int32)), .unset, .unset, .unset] [(.ref a21), (.ref ad)])) := S20.trans (st21 _ (Steps.refl _))
  have LS_21 := LS_16.ext E21
  have O2_21 := O2_16.ext E21
  have O4_21 := O4_16.ext E21
  obtain ⟨cq23, kq23, q23a, q23b, q23c⟩ := isOf hZ e21 (own_exa LS_21)
  obtain ⟨v23, T23, X23, e23, hv23, st23⟩ := own_callP X21 hx (y := (⟨"java/lang/String", "equals", "(Ljava/lang/Object;)Z"⟩ : MethodName)) hown (mvT hZ (hw _ (List.mem_of_getElem? (i := 53) rfl))) (mvT hZ (hw _ (List.mem_of_getElem? (i := 54) rfl))) (mvT hZ (hw _ (List.mem_of_getElem? (i := 56) rfl))) (mvT hZ (hw _ (List.mem_of_getElem? (i := 55) rfl))) (by decide) (Qv := fun v => (v = some (.int 1) ∧ ([38, 113, 117, 111, 116, 59] : List Int32) = ([38, 103, 116, 59] : List Int32)) ∨ (v = some (.int 0) ∧ ¬ ([38, 113, 117, 111, 116, 59] : List Int32) = ([38, 103, 116, 59] : List Int32))) (own_eq0 (W := 0) hZ hw (hw _ (List.mem_of_getElem? (i := 7) rfl)) LS_21 own_hb_quot (by decide) L21 own_hb_gt (by decide) O2_21 hz (by decide) (by decide)) q23a q23c (g := (mkF m 61 #[.val (.ref ad), .val (.int (6 : Int32)), .unset, .unset, .unset] [(.ref a21), (.ref ad)])) rfl (by rw [hml]; rfl) (argsL := [(.ref a21)]) (rest := []) (lenOf pd_2 rfl) rfl (by show 2 * 0 + _ ≤ _; exact Nat.le_of_eq rfl) (hb hby d2_61) ⟨rfl, e21, (by decide), (by decide)⟩
  have hv23 : v23 = some (.int (0 : Int32)) := hv23.elim (fun q => absurd q.2 (by decide)) (fun q => q.1)
  rw [hv23] at st23
  have S24 : Steps p.tables e below Ω (T23.setTop (mkF m 64 #[.val (.ref ad), .val (.int (6 : Int32)), .unset, .unset, .unset] [(.int (0 : Int32))])) := S22.trans st23
  have S25 : Steps p.tables e below Ω (T23.setTop (mkF m 71 #[.val (.ref ad), .val (.int (6 : Int32)), .unset, .unset, .unset] [(.ref ad)])) := by
    refine S24.trans ?_
    refine XS.ifYes X23.here hx rfl (pc0 := 64) (pc' := 70) rfl (hb hby d2_64) rfl (XT.i0_eq_t (by decide)) (by decide) (by decide) ?_
    show Steps p.tables e below (T23.setTop (mkF m 70 #[.val (.ref ad), .val (.int (6 : Int32)), .unset, .unset, .unset] [])) _
    refine XS.aloadN X23.here hx rfl (hb hby d2_70) rfl rfl ?_
    exact Steps.refl _
  obtain ⟨a26, T26, h26, kb26, X26, e26, E26, hS26, hk26, hZ, hown, L26, C26, st26⟩ := own_ldcC (s := s) (vm0 := T21.vm) X23 hx hZ hown (hw _ (List.mem_of_getElem? (i := 67) rfl)) own_tx_quot (own_wS hw) e23 hS21 hk21 (own_lk hw) (List.mem_of_getElem? (i := 10) rfl) CH21.1 (g := (mkF m 71 #[.val (.ref ad), .val (.int (6 : Int32)), .unset, .unset, .unset] [(.ref ad)])) rfl (hb hby d2_71) (n := 24) (by decide) (by decide) (by decide) (by decide)
  have CH26 := CHr.trans CH21 C26
  have S27 : Steps p.tables e below Ω (T26.setTop (mkF m 73 #[.val (.ref ad), .val (.int (6 : Int32)), .unset, .unset, .unset] [(.ref a26), (.ref ad)])) := S25.trans (st26 _ (Steps.refl _))
  have LS_26 := LS_21.ext E26
  have O2_26 := O2_21.ext E26
  have O4_26 := O4_21.ext E26
  obtain ⟨cq28, kq28, q28a, q28b, q28c⟩ := isOf hZ e26 (own_exa LS_26)
  obtain ⟨v28, T28, X28, e28, hv28, st28⟩ := own_callP X26 hx (y := (⟨"java/lang/String", "equals", "(Ljava/lang/Object;)Z"⟩ : MethodName)) hown (mvT hZ (hw _ (List.mem_of_getElem? (i := 53) rfl))) (mvT hZ (hw _ (List.mem_of_getElem? (i := 54) rfl))) (mvT hZ (hw _ (List.mem_of_getElem? (i := 56) rfl))) (mvT hZ (hw _ (List.mem_of_getElem? (i := 55) rfl))) (by decide) (Qv := fun v => (v = some (.int 1) ∧ ([38, 113, 117, 111, 116, 59] : List Int32) = ([38, 113, 117, 111, 116, 59] : List Int32)) ∨ (v = some (.int 0) ∧ ¬ ([38, 113, 117, 111, 116, 59] : List Int32) = ([38, 113, 117, 111, 116, 59] : List Int32))) (own_eq0 (W := 0) hZ hw (hw _ (List.mem_of_getElem? (i := 7) rfl)) LS_26 own_hb_quot (by decide) L26 own_hb_quot (by decide) O2_26 hz (by decide) (by decide)) q28a q28c (g := (mkF m 73 #[.val (.ref ad), .val (.int (6 : Int32)), .unset, .unset, .unset] [(.ref a26), (.ref ad)])) rfl (by rw [hml]; rfl) (argsL := [(.ref a26)]) (rest := []) (lenOf pd_2 rfl) rfl (by show 2 * 0 + _ ≤ _; exact Nat.le_of_eq rfl) (hb hby d2_73) ⟨rfl, e26, (by decide), (by decide)⟩
  have hv28 : v28 = some (.int (1 : Int32)) := hv28.elim (fun q => q.1) (fun q => absurd rfl q.2)
  rw [hv28] at st28
  have S29 : Steps p.tables e below Ω (T28.setTop (mkF m 76 #[.val (.ref ad), .val (.int (6 : Int32)), .unset, .unset, .unset] [(.int (1 : Int32))])) := S27.trans st28
  have S30 : Steps p.tables e below Ω (T28.setTop (mkF m 81 #[.val (.ref ad), .val (.int (6 : Int32)), .unset, .unset, .unset] [(.int (34 : Int32))])) := by
    refine S29.trans ?_
    refine XS.ifNo X28.here hx rfl (hb hby d2_76) rfl (XT.i0_eq_f (by decide)) ?_
    show Steps p.tables e below (T28.setTop (mkF m 79 #[.val (.ref ad), .val (.int (6 : Int32)), .unset, .unset, .unset] [])) _
    refine XS.bipush X28.here hx rfl (hb hby d2_79) ?_
    exact Steps.refl _
  obtain ⟨fs, hr, hrun, hended, hend⟩ := Stand.leaveW (s := s) (vm₁ := T26.vm) X28 hS26 (by rw [e28]; exact hk26) (v := some (.int (34 : Int32))) (fun h => by rw [Bd.returns] at h; cases h)
  have hfin : Steps p.tables e below Ω (T28.setFrames fs) := by
    refine S30.trans ?_
    exact retI X28 hx Bd.returns (hb hby d2_81) hr
  rw [hΩ] at hfin
  have CHe : CHr Z consts_1 s.vm s.heap T28.vm T28.heap := by
    rw [hh, e28]
    exact CHr.trans CH26 (CHv.at (s := s) (vm0 := T26.vm) X28 hZ (own_lk hw) CH26.1)
  refine ⟨_, _, hfin, hrun, hended, _, _, rfl, ?_, CHe, hend.1, hend.2.1, hend.2.2.1, hend.2.2.2.mono (by decide) (by decide)⟩
  show Q2quot Z ad z fm h0 n0 _ T28.heap _
  rw [e28]
  exact ⟨rfl, N0⟩
theorem d2_82 : decode method_4_code 82 = .ok (.aload_n 0, 1) := by decide +kernel
theorem d2_83 : decode method_4_code 83 = .ok (.ldc 41, 2) := by decide +kernel
theorem d2_85 : decode method_4_code 85 = .ok (.invokevirtual 31, 3) := by decide +kernel
theorem d2_88 : decode method_4_code 88 = .ok (.ifCond .eq 6, 3) := by decide +kernel
theorem d2_94 : decode method_4_code 94 = .ok (.aload_n 0, 1) := by decide +kernel
theorem d2_95 : decode method_4_code 95 = .ok (.iconst 1, 1) := by decide +kernel
theorem d2_96 : decode method_4_code 96 = .ok (.invokevirtual 19, 3) := by decide +kernel
theorem d2_99 : decode method_4_code 99 = .ok (.bipush 35, 2) := by decide +kernel
theorem d2_101 : decode method_4_code 101 = .ok (.if_icmp .ne 9, 3) := by decide +kernel
theorem d2_104 : decode method_4_code 104 = .ok (.iload_n 1, 1) := by decide +kernel
theorem d2_105 : decode method_4_code 105 = .ok (.bipush 6, 2) := by decide +kernel
theorem d2_107 : decode method_4_code 107 = .ok (.if_icmp .le 5, 3) := by decide +kernel
theorem d2_112 : decode method_4_code 112 = .ok (.aload_n 0, 1) := by decide +kernel
theorem d2_113 : decode method_4_code 113 = .ok (.iconst 2, 1) := by decide +kernel
theorem pd_3 : parseMethodDescriptor "(Ljava/lang/String;I)I" = some ⟨[(.object "java/lang/String"), .int], some .int⟩ := by decide +kernel
theorem d2_114 : decode method_4_code 114 = .ok (.invokestatic 43, 3) := by decide +kernel
theorem d2_117 : decode method_4_code 117 = .ok (.istore_n 2, 1) := by decide +kernel
theorem d2_118 : decode method_4_code 118 = .ok (.iload_n 2, 1) := by decide +kernel
theorem d2_119 : decode method_4_code 119 = .ok (.ifCond .ge 5, 3) := by decide +kernel
theorem d2_124 : decode method_4_code 124 = .ok (.iload_n 2, 1) := by decide +kernel
theorem d2_125 : decode method_4_code 125 = .ok (.istore_n 3, 1) := by decide +kernel
theorem d2_126 : decode method_4_code 126 = .ok (.iload_n 1, 1) := by decide +kernel
theorem d2_127 : decode method_4_code 127 = .ok (.iconst 5, 1) := by decide +kernel
theorem d2_128 : decode method_4_code 128 = .ok (.if_icmp .lt 25, 3) := by decide +kernel
theorem d2_153 : decode method_4_code 153 = .ok (.iload_n 1, 1) := by decide +kernel
theorem d2_154 : decode method_4_code 154 = .ok (.bipush 6, 2) := by decide +kernel
theorem d2_156 : decode method_4_code 156 = .ok (.if_icmp .ne 25, 3) := by decide +kernel
theorem d2_181 : decode method_4_code 181 = .ok (.iload_n 3, 1) := by decide +kernel
theorem d2_182 : decode method_4_code 182 = .ok (.ireturn, 1) := by decide +kernel
theorem ef_rm2tab (m : MethodId) (x0 : Addr) : entryFrame m #[(.ref x0)] 5 = mkF m 0 #[.val (.ref x0), .unset, .unset, .unset, .unset] [] := by first | (simp [entryFrame, mkF, argsToLocals, Value.category]; done) | rfl
def Q2tab (Z : State) (ad : Addr) (z : Int32) (fm : Value) (h0 : Heap) (n0 : Nat) (v : Option Value) (h : Heap) (L : List Loc) : Prop := v = some (.int (9 : Int32)) ∧ Fr n0 L
set_option maxRecDepth 65536 in
set_option maxHeartbeats 40000000 in
theorem rm2tab (l : Launch) (Z : State) (a0 : Array Value) (hw : ∀ d ∈ tables_1, d.before a0 Z = true) (ws : List Jvm.Cond) (ad : Addr) (z : Int32) (fm : Value) (h0 : Heap) (n0 : Nat) (Z0 : n0 ≤ h0.size) (E0 : LS Z h0 ad ([38, 35, 57, 59] : List Int32)) (O2 : Sta Z h0 "java/lang/String" "COMPACT_STRINGS" "Z" (.int z)) (hz : ¬ z = 0) (O4 : Sta Z h0 "jdk/internal/util/Preconditions" "SIOOBE_FORMATTER" "Ljava/util/function/BiFunction;" fm) (rf : fm.isRef = true) :
    MetFree l (⟨"com/example/distill_trees/distilltrees/io/XmlWriterReferencePinLaw", "decode", "(Ljava/lang/String;)I"⟩ : MethodName) (head1 (Jvm.Cond.code (⟨"com/example/distill_trees/distilltrees/io/XmlWriterReferencePinLaw", "decode", "(Ljava/lang/String;)I"⟩ : MethodName) method_4_code 5 (some .int) :: ws) ({ frames := 5, cells := 10, slots := 120, locals := 67 } : Room)) (fun aa U => aa = #[(.ref ad)] ∧ Z.Warmed39 U.vm ∧ U.heap = h0 ∧ CHv Z consts_1 U.vm h0) (fun _ _ _ _ _ => True) (fun _ U o U' => ∃ v L, o = .returned v ∧ Q2tab Z ad z fm h0 n0 v U'.heap L ∧ CHr Z consts_1 U.vm U.heap U'.vm U'.heap ∧ ReturnedEndW U o U' L ({ frames := 5, cells := 10, slots := 120, locals := 67 } : Room).cells ({ frames := 5, cells := 10, slots := 120, locals := 67 } : Room).slots) := by
  refine MetFree.of_bodySF (plainFor_of_name pn_0) hisR ?_
  intro p e s m args below meth c s₁ Bd hml0 hP hK
  obtain ⟨rfl, hZ, hh, HS⟩ := hP
  have hZs := hZ
  have hx := Bd.exec
  have hby := Bd.bytes
  have hml : c.maxLocals = 5 := hml0
  have hown : s.vm.findClass "com/example/distill_trees/distilltrees/io/XmlWriterReferencePinLaw" = some m.cls := findClass_of_methodNamed Bd.named
  have hnm := (name_of_methodNamed Bd.named Bd.method).1
  have X0 : Stand p l e ({ frames := 5, cells := 10, slots := 120, locals := 67 } : Room) s m #[(.ref ad)] below meth c s₁ [] 0 0 := Stand.of_body Bd
  have e0 : s₁.heap = h0 := by rw [← hh, Bd.state]; rfl
  have N0 := Fr.nil n0
  obtain ⟨Ω, hΩ⟩ : ∃ z, z = s₁.setTop (entryFrame m #[(.ref ad)] 5) := ⟨_, rfl⟩
  have S0 : Steps p.tables e below Ω (s₁.setTop (mkF m 0 #[.val (.ref ad), .unset, .unset, .unset, .unset] [])) := by rw [hΩ]; exact castTop (ef_rm2tab m ad) (Steps.refl _)
  have hS0 : s.Since s.vm h0.size := (State.WarmedH.refl s).since _
  have CH0 : CHr Z consts_1 s.vm h0 s.vm h0 := CHr.refl HS
  have S1 : Steps p.tables e below Ω (s₁.setTop (mkF m 1 #[.val (.ref ad), .unset, .unset, .unset, .unset] [(.ref ad)])) := by
    refine S0.trans ?_
    refine XS.aloadN X0.here hx rfl (hb hby d2_0) rfl rfl ?_
    exact Steps.refl _
  obtain ⟨cq2, kq2, q2a, q2b, q2c⟩ := isOf hZ e0 (own_exa E0)
  obtain ⟨v2, T2, X2, e2, hv2, st2⟩ := own_callP X0 hx (y := (⟨"java/lang/String", "length", "()I"⟩ : MethodName)) hown (mvT hZ (hw _ (List.mem_of_getElem? (i := 17) rfl))) (mvT hZ (hw _ (List.mem_of_getElem? (i := 18) rfl))) (mvT hZ (hw _ (List.mem_of_getElem? (i := 20) rfl))) (mvT hZ (hw _ (List.mem_of_getElem? (i := 19) rfl))) (by decide) (Qv := fun v => v = some (.int (Int32.ofNat (([38, 35, 57, 59] : List Int32)).length))) (own_len0 (W := 0) hZ hw (hw _ (List.mem_of_getElem? (i := 7) rfl)) E0 own_hb_tab (by decide) O2 hz (by decide) (by decide)) q2a q2c (g := (mkF m 1 #[.val (.ref ad), .unset, .unset, .unset, .unset] [(.ref ad)])) rfl (by rw [hml]; rfl) (argsL := []) (rest := []) (lenOf pd_1 rfl) rfl (by show 2 * 0 + _ ≤ _; exact Nat.le_of_eq rfl) (hb hby d2_1) ⟨rfl, e0, (by decide), (by decide)⟩
  rw [hv2] at st2
  have S3 : Steps p.tables e below Ω (T2.setTop (mkF m 4 #[.val (.ref ad), .unset, .unset, .unset, .unset] [(.int (4 : Int32))])) := S1.trans st2
  have S4 : Steps p.tables e below Ω (T2.setTop (mkF m 12 #[.val (.ref ad), .val (.int (4 : Int32)), .unset, .unset, .unset] [(.int (0 : Int32)), (.ref ad)])) := by
    refine S3.trans ?_
    refine XS.istoreN X2.here hx rfl (hb hby d2_4) rfl (l' := #[.val (.ref ad), .val (.int (4 : Int32)), .unset, .unset, .unset]) rfl ?_
    show Steps p.tables e below (T2.setTop (mkF m 5 #[.val (.ref ad), .val (.int (4 : Int32)), .unset, .unset, .unset] [])) _
    refine XS.iloadN X2.here hx rfl (hb hby d2_5) rfl ?_
    show Steps p.tables e below (T2.setTop (mkF m 6 #[.val (.ref ad), .val (.int (4 : Int32)), .unset, .unset, .unset] [(.int (4 : Int32))])) _
    refine XS.iconst X2.here hx rfl (hb hby d2_6) ?_
    show Steps p.tables e below (T2.setTop (mkF m 7 #[.val (.ref ad), .val (.int (4 : Int32)), .unset, .unset, .unset] [(.int (4 : Int32)), (.int (4 : Int32))])) _
    refine XS.icmpNo X2.here hx rfl (hb hby d2_7) rfl (XT.ii_lt_f (by decide)) ?_
    show Steps p.tables e below (T2.setTop (mkF m 10 #[.val (.ref ad), .val (.int (4 : Int32)), .unset, .unset, .unset] [])) _
    refine XS.aloadN X2.here hx rfl (hb hby d2_10) rfl rfl ?_
    show Steps p.tables e below (T2.setTop (mkF m 11 #[.val (.ref ad), .val (.int (4 : Int32)), .unset, .unset, .unset] [(.ref ad)])) _
    refine XS.iconst X2.here hx rfl (hb hby d2_11) ?_
    exact Steps.refl _
  obtain ⟨cq5, kq5, q5a, q5b, q5c⟩ := isOf hZ e2 (own_exa E0)
  obtain ⟨v5, T5, X5, e5, hv5, st5⟩ := own_callP X2 hx (y := (⟨"java/lang/String", "charAt", "(I)C"⟩ : MethodName)) hown (mvT hZ (hw _ (List.mem_of_getElem? (i := 30) rfl))) (mvT hZ (hw _ (List.mem_of_getElem? (i := 31) rfl))) (mvT hZ (hw _ (List.mem_of_getElem? (i := 33) rfl))) (mvT hZ (hw _ (List.mem_of_getElem? (i := 32) rfl))) (by decide) (Qv := fun v => v = some (.int (38 : Int32))) (own_ch0 (W := 0) (i := 0) hZ hw (hw _ (List.mem_of_getElem? (i := 7) rfl)) E0 own_hb_tab (by decide) O2 hz O4 rf (by decide) rfl (d := (38 : Int32)) rfl (by decide) (by decide)) q5a q5c (g := (mkF m 12 #[.val (.ref ad), .val (.int (4 : Int32)), .unset, .unset, .unset] [(.int (0 : Int32)), (.ref ad)])) rfl (by rw [hml]; rfl) (argsL := [(.int (0 : Int32))]) (rest := []) (lenOf pd_0 rfl) rfl (by show 2 * 0 + _ ≤ _; exact Nat.le_of_eq rfl) (hb hby d2_12) ⟨rfl, e2, (by decide), (by decide)⟩
  rw [hv5] at st5
  have S6 : Steps p.tables e below Ω (T5.setTop (mkF m 15 #[.val (.ref ad), .val (.int (4 : Int32)), .unset, .unset, .unset] [(.int (38 : Int32))])) := S4.trans st5
  have S7 : Steps p.tables e below Ω (T5.setTop (mkF m 24 #[.val (.ref ad), .val (.int (4 : Int32)), .unset, .unset, .unset] [(.int (3 : Int32)), (.ref ad)])) := by
    refine S6.trans ?_
    refine XS.bipush X5.here hx rfl (hb hby d2_15) ?_
    show Steps p.tables e below (T5.setTop (mkF m 17 #[.val (.ref ad), .val (.int (4 : Int32)), .unset, .unset, .unset] [(.int (38 : Int32)), (.int (38 : Int32))])) _
    refine XS.icmpNo X5.here hx rfl (hb hby d2_17) rfl (XT.ii_ne_f (by decide)) ?_
    show Steps p.tables e below (T5.setTop (mkF m 20 #[.val (.ref ad), .val (.int (4 : Int32)), .unset, .unset, .unset] [])) _
    refine XS.aloadN X5.here hx rfl (hb hby d2_20) rfl rfl ?_
    show Steps p.tables e below (T5.setTop (mkF m 21 #[.val (.ref ad), .val (.int (4 : Int32)), .unset, .unset, .unset] [(.ref ad)])) _
    refine XS.iloadN X5.here hx rfl (hb hby d2_21) rfl ?_
    show Steps p.tables e below (T5.setTop (mkF m 22 #[.val (.ref ad), .val (.int (4 : Int32)), .unset, .unset, .unset] [(.int (4 : Int32)), (.ref ad)])) _
    refine XS.iconst X5.here hx rfl (hb hby d2_22) ?_
    show Steps p.tables e below (T5.setTop (mkF m 23 #[.val (.ref ad), .val (.int (4 : Int32)), .unset, .unset, .unset] [(.int (1 : Int32)), (.int (4 : Int32)), (.ref ad)])) _
    refine XS.isub X5.here hx rfl (hb hby d2_23) rfl ?_
    exact Steps.refl _
  obtain ⟨cq8, kq8, q8a, q8b, q8c⟩ := isOf hZ e5 (own_exa E0)
  obtain ⟨v8, T8, X8, e8, hv8, st8⟩ := own_callP X5 hx (y := (⟨"java/lang/String", "charAt", "(I)C"⟩ : MethodName)) hown (mvT hZ (hw _ (List.mem_of_getElem? (i := 30) rfl))) (mvT hZ (hw _ (List.mem_of_getElem? (i := 31) rfl))) (mvT hZ (hw _ (List.mem_of_getElem? (i := 33) rfl))) (mvT hZ (hw _ (List.mem_of_getElem? (i := 32) rfl))) (by decide) (Qv := fun v => v = some (.int (59 : Int32))) (own_ch0 (W := 0) (i := 3) hZ hw (hw _ (List.mem_of_getElem? (i := 7) rfl)) E0 own_hb_tab (by decide) O2 hz O4 rf (by decide) rfl (d := (59 : Int32)) rfl (by decide) (by decide)) q8a q8c (g := (mkF m 24 #[.val (.ref ad), .val (.int (4 : Int32)), .unset, .unset, .unset] [(.int (3 : Int32)), (.ref ad)])) rfl (by rw [hml]; rfl) (argsL := [(.int (3 : Int32))]) (rest := []) (lenOf pd_0 rfl) rfl (by show 2 * 0 + _ ≤ _; exact Nat.le_of_eq rfl) (hb hby d2_24) ⟨rfl, e5, (by decide), (by decide)⟩
  rw [hv8] at st8
  have S9 : Steps p.tables e below Ω (T8.setTop (mkF m 27 #[.val (.ref ad), .val (.int (4 : Int32)), .unset, .unset, .unset] [(.int (59 : Int32))])) := S7.trans st8
  have S10 : Steps p.tables e below Ω (T8.setTop (mkF m 35 #[.val (.ref ad), .val (.int (4 : Int32)), .unset, .unset, .unset] [(.ref ad)])) := by
    refine S9.trans ?_
    refine XS.bipush X8.here hx rfl (hb hby d2_27) ?_
    show Steps p.tables e below (T8.setTop (mkF m 29 #[.val (.ref ad), .val (.int (4 : Int32)), .unset, .unset, .unset] [(.int (59 : Int32)), (.int (59 : Int32))])) _
    refine XS.icmpYes X8.here hx rfl (pc0 := 29) (pc' := 34) rfl (hb hby d2_29) rfl (XT.ii_eq_t (by decide)) (by decide) (by decide) ?_
    show Steps p.tables e below (T8.setTop (mkF m 34 #[.val (.ref ad), .val (.int (4 : Int32)), .unset, .unset, .unset] [])) _
    refine XS.aloadN X8.here hx rfl (hb hby d2_34) rfl rfl ?_
    exact Steps.refl _
  obtain ⟨a11, T11, h11, kb11, X11, e11, E11, hS11, hk11, hZ, hown, L11, C11, st11⟩ := own_ldcC (s := s) (vm0 := s.vm) X8 hx hZ hown (hw _ (List.mem_of_getElem? (i := 52) rfl)) own_tx_amp (own_wS hw) e8 hS0 (Nat.le_refl h0.size) (own_lk hw) (List.mem_of_getElem? (i := 7) rfl) CH0.1 (g := (mkF m 35 #[.val (.ref ad), .val (.int (4 : Int32)), .unset, .unset, .unset] [(.ref ad)])) rfl (hb hby d2_35) (n := 20) (by decide) (by decide) (by decide) (by decide)
  have CH11 := CHr.trans CH0 C11
  have S12 : Steps p.tables e below Ω (T11.setTop (mkF m 37 #[.val (.ref ad), .val (.int (4 : Int32)), .unset, .unset, .unset] [(.ref a11), (.ref ad)])) := S10.trans (st11 _ (Steps.refl _))
  have LS_11 := E0.ext E11
  have O2_11 := O2.ext E11
  have O4_11 := O4.ext E11
  obtain ⟨cq13, kq13, q13a, q13b, q13c⟩ := isOf hZ e11 (own_exa LS_11)
  obtain ⟨v13, T13, X13, e13, hv13, st13⟩ := own_callP X11 hx (y := (⟨"java/lang/String", "equals", "(Ljava/lang/Object;)Z"⟩ : MethodName)) hown (mvT hZ (hw _ (List.mem_of_getElem? (i := 53) rfl))) (mvT hZ (hw _ (List.mem_of_getElem? (i := 54) rfl))) (mvT hZ (hw _ (List.mem_of_getElem? (i := 56) rfl))) (mvT hZ (hw _ (List.mem_of_getElem? (i := 55) rfl))) (by decide) (Qv := fun v => (v = some (.int 1) ∧ ([38, 35, 57, 59] : List Int32) = ([38, 97, 109, 112, 59] : List Int32)) ∨ (v = some (.int 0) ∧ ¬ ([38, 35, 57, 59] : List Int32) = ([38, 97, 109, 112, 59] : List Int32))) (own_eq0 (W := 0) hZ hw (hw _ (List.mem_of_getElem? (i := 7) rfl)) LS_11 own_hb_tab (by decide) L11 own_hb_amp (by decide) O2_11 hz (by decide) (by decide)) q13a q13c (g := (mkF m 37 #[.val (.ref ad), .val (.int (4 : Int32)), .unset, .unset, .unset] [(.ref a11), (.ref ad)])) rfl (by rw [hml]; rfl) (argsL := [(.ref a11)]) (rest := []) (lenOf pd_2 rfl) rfl (by show 2 * 0 + _ ≤ _; exact Nat.le_of_eq rfl) (hb hby d2_37) ⟨rfl, e11, (by decide), (by decide)⟩
  have hv13 : v13 = some (.int (0 : Int32)) := hv13.elim (fun q => absurd q.2 (by decide)) (fun q => q.1)
  rw [hv13] at st13
  have S14 : Steps p.tables e below Ω (T13.setTop (mkF m 40 #[.val (.ref ad), .val (.int (4 : Int32)), .unset, .unset, .unset] [(.int (0 : Int32))])) := S12.trans st13
  have S15 : Steps p.tables e below Ω (T13.setTop (mkF m 47 #[.val (.ref ad), .val (.int (4 : Int32)), .unset, .unset, .unset] [(.ref ad)])) := by
    refine S14.trans ?_
    refine XS.ifYes X13.here hx rfl (pc0 := 40) (pc' := 46) rfl (hb hby d2_40) rfl (XT.i0_eq_t (by decide)) (by decide) (by decide) ?_
    show Steps p.tables e below (T13.setTop (mkF m 46 #[.val (.ref ad), .val (.int (4 : Int32)), .unset, .unset, .unset] [])) _
    refine XS.aloadN X13.here hx rfl (hb hby d2_46) rfl rfl ?_
    exact Steps.refl _
  obtain ⟨a16, T16, h16, kb16, X16, e16, E16, hS16, hk16, hZ, hown, L16, C16, st16⟩ := own_ldcC (s := s) (vm0 := T11.vm) X13 hx hZ hown (hw _ (List.mem_of_getElem? (i := 63) rfl)) own_tx_lt (own_wS hw) e13 hS11 hk11 (own_lk hw) (List.mem_of_getElem? (i := 8) rfl) CH11.1 (g := (mkF m 47 #[.val (.ref ad), .val (.int (4 : Int32)), .unset, .unset, .unset] [(.ref ad)])) rfl (hb hby d2_47) (n := 16) (by decide) (by decide) (by decide) (by decide)
  have CH16 := CHr.trans CH11 C16
  have S17 : Steps p.tables e below Ω (T16.setTop (mkF m 49 #[.val (.ref ad), .val (.int (4 : Int32)), .unset, .unset, .unset] [(.ref a16), (.ref ad)])) := S15.trans (st16 _ (Steps.refl _))
  have LS_16 := LS_11.ext E16
  have O2_16 := O2_11.ext E16
  have O4_16 := O4_11.ext E16
  obtain ⟨cq18, kq18, q18a, q18b, q18c⟩ := isOf hZ e16 (own_exa LS_16)
  obtain ⟨v18, T18, X18, e18, hv18, st18⟩ := own_callP X16 hx (y := (⟨"java/lang/String", "equals", "(Ljava/lang/Object;)Z"⟩ : MethodName)) hown (mvT hZ (hw _ (List.mem_of_getElem? (i := 53) rfl))) (mvT hZ (hw _ (List.mem_of_getElem? (i := 54) rfl))) (mvT hZ (hw _ (List.mem_of_getElem? (i := 56) rfl))) (mvT hZ (hw _ (List.mem_of_getElem? (i := 55) rfl))) (by decide) (Qv := fun v => (v = some (.int 1) ∧ ([38, 35, 57, 59] : List Int32) = ([38, 108, 116, 59] : List Int32)) ∨ (v = some (.int 0) ∧ ¬ ([38, 35, 57, 59] : List Int32) = ([38, 108, 116, 59] : List Int32))) (own_eq0 (W := 0) hZ hw (hw _ (List.mem_of_getElem? (i := 7) rfl)) LS_16 own_hb_tab (by decide) L16 own_hb_lt (by decide) O2_16 hz (by decide) (by decide)) q18a q18c (g := (mkF m 49 #[.val (.ref ad), .val (.int (4 : Int32)), .unset, .unset, .unset] [(.ref a16), (.ref ad)])) rfl (by rw [hml]; rfl) (argsL := [(.ref a16)]) (rest := []) (lenOf pd_2 rfl) rfl (by show 2 * 0 + _ ≤ _; exact Nat.le_of_eq rfl) (hb hby d2_49) ⟨rfl, e16, (by decide), (by decide)⟩
  have hv18 : v18 = some (.int (0 : Int32)) := hv18.elim (fun q => absurd q.2 (by decide)) (fun q => q.1)
  rw [hv18] at st18
  have S19 : Steps p.tables e below Ω (T18.setTop (mkF m 52 #[.val (.ref ad), .val (.int (4 : Int32)), .unset, .unset, .unset] [(.int (0 : Int32))])) := S17.trans st18
  have S20 : Steps p.tables e below Ω (T18.setTop (mkF m 59 #[.val (.ref ad), .val (.int (4 : Int32)), .unset, .unset, .unset] [(.ref ad)])) := by
    refine S19.trans ?_
    refine XS.ifYes X18.here hx rfl (pc0 := 52) (pc' := 58) rfl (hb hby d2_52) rfl (XT.i0_eq_t (by decide)) (by decide) (by decide) ?_
    show Steps p.tables e below (T18.setTop (mkF m 58 #[.val (.ref ad), .val (.int (4 : Int32)), .unset, .unset, .unset] [])) _
    refine XS.aloadN X18.here hx rfl (hb hby d2_58) rfl rfl ?_
    exact Steps.refl _
  obtain ⟨a21, T21, h21, kb21, X21, e21, E21, hS21, hk21, hZ, hown, L21, C21, st21⟩ := own_ldcC (s := s) (vm0 := T16.vm) X18 hx hZ hown (hw _ (List.mem_of_getElem? (i := 66) rfl)) own_tx_gt (own_wS hw) e18 hS16 hk16 (own_lk hw) (List.mem_of_getElem? (i := 9) rfl) CH16.1 (g := (mkF m 59 #[.val (.ref ad), .val (.int (4 : Int32)), .unset, .unset, .unset] [(.ref ad)])) rfl (hb hby d2_59) (n := 16) (by decide) (by decide) (by decide) (by decide)
  have CH21 := CHr.trans CH16 C21
  have S22 : Steps p.tables e below Ω (T21.setTop (mkF m 61 #[.val (.ref ad), .val (.int (4 : Int32)), .unset, .unset, .unset] [(.ref a21), (.ref ad)])) := S20.trans (st21 _ (Steps.refl _))
  have LS_21 := LS_16.ext E21
  have O2_21 := O2_16.ext E21
  have O4_21 := O4_16.ext E21
  obtain ⟨cq23, kq23, q23a, q23b, q23c⟩ := isOf hZ e21 (own_exa LS_21)
  obtain ⟨v23, T23, X23, e23, hv23, st23⟩ := own_callP X21 hx (y := (⟨"java/lang/String", "equals", "(Ljava/lang/Object;)Z"⟩ : MethodName)) hown (mvT hZ (hw _ (List.mem_of_getElem? (i := 53) rfl))) (mvT hZ (hw _ (List.mem_of_getElem? (i := 54) rfl))) (mvT hZ (hw _ (List.mem_of_getElem? (i := 56) rfl))) (mvT hZ (hw _ (List.mem_of_getElem? (i := 55) rfl))) (by decide) (Qv := fun v => (v = some (.int 1) ∧ ([38, 35, 57, 59] : List Int32) = ([38, 103, 116, 59] : List Int32)) ∨ (v = some (.int 0) ∧ ¬ ([38, 35, 57, 59] : List Int32) = ([38, 103, 116, 59] : List Int32))) (own_eq0 (W := 0) hZ hw (hw _ (List.mem_of_getElem? (i := 7) rfl)) LS_21 own_hb_tab (by decide) L21 own_hb_gt (by decide) O2_21 hz (by decide) (by decide)) q23a q23c (g := (mkF m 61 #[.val (.ref ad), .val (.int (4 : Int32)), .unset, .unset, .unset] [(.ref a21), (.ref ad)])) rfl (by rw [hml]; rfl) (argsL := [(.ref a21)]) (rest := []) (lenOf pd_2 rfl) rfl (by show 2 * 0 + _ ≤ _; exact Nat.le_of_eq rfl) (hb hby d2_61) ⟨rfl, e21, (by decide), (by decide)⟩
  have hv23 : v23 = some (.int (0 : Int32)) := hv23.elim (fun q => absurd q.2 (by decide)) (fun q => q.1)
  rw [hv23] at st23
  have S24 : Steps p.tables e below Ω (T23.setTop (mkF m 64 #[.val (.ref ad), .val (.int (4 : Int32)), .unset, .unset, .unset] [(.int (0 : Int32))])) := S22.trans st23
  have S25 : Steps p.tables e below Ω (T23.setTop (mkF m 71 #[.val (.ref ad), .val (.int (4 : Int32)), .unset, .unset, .unset] [(.ref ad)])) := by
    refine S24.trans ?_
    refine XS.ifYes X23.here hx rfl (pc0 := 64) (pc' := 70) rfl (hb hby d2_64) rfl (XT.i0_eq_t (by decide)) (by decide) (by decide) ?_
    show Steps p.tables e below (T23.setTop (mkF m 70 #[.val (.ref ad), .val (.int (4 : Int32)), .unset, .unset, .unset] [])) _
    refine XS.aloadN X23.here hx rfl (hb hby d2_70) rfl rfl ?_
    exact Steps.refl _
  obtain ⟨a26, T26, h26, kb26, X26, e26, E26, hS26, hk26, hZ, hown, L26, C26, st26⟩ := own_ldcC (s := s) (vm0 := T21.vm) X23 hx hZ hown (hw _ (List.mem_of_getElem? (i := 67) rfl)) own_tx_quot (own_wS hw) e23 hS21 hk21 (own_lk hw) (List.mem_of_getElem? (i := 10) rfl) CH21.1 (g := (mkF m 71 #[.val (.ref ad), .val (.int (4 : Int32)), .unset, .unset, .unset] [(.ref ad)])) rfl (hb hby d2_71) (n := 24) (by decide) (by decide) (by decide) (by decide)
  have CH26 := CHr.trans CH21 C26
  have S27 : Steps p.tables e below Ω (T26.setTop (mkF m 73 #[.val (.ref ad), .val (.int (4 : Int32)), .unset, .unset, .unset] [(.ref a26), (.ref ad)])) := S25.trans (st26 _ (Steps.refl _))
  have LS_26 := LS_21.ext E26
  have O2_26 := O2_21.ext E26
  have O4_26 := O4_21.ext E26
  obtain ⟨cq28, kq28, q28a, q28b, q28c⟩ := isOf hZ e26 (own_exa LS_26)
  obtain ⟨v28, T28, X28, e28, hv28, st28⟩ := own_callP X26 hx (y := (⟨"java/lang/String", "equals", "(Ljava/lang/Object;)Z"⟩ : MethodName)) hown (mvT hZ (hw _ (List.mem_of_getElem? (i := 53) rfl))) (mvT hZ (hw _ (List.mem_of_getElem? (i := 54) rfl))) (mvT hZ (hw _ (List.mem_of_getElem? (i := 56) rfl))) (mvT hZ (hw _ (List.mem_of_getElem? (i := 55) rfl))) (by decide) (Qv := fun v => (v = some (.int 1) ∧ ([38, 35, 57, 59] : List Int32) = ([38, 113, 117, 111, 116, 59] : List Int32)) ∨ (v = some (.int 0) ∧ ¬ ([38, 35, 57, 59] : List Int32) = ([38, 113, 117, 111, 116, 59] : List Int32))) (own_eq0 (W := 0) hZ hw (hw _ (List.mem_of_getElem? (i := 7) rfl)) LS_26 own_hb_tab (by decide) L26 own_hb_quot (by decide) O2_26 hz (by decide) (by decide)) q28a q28c (g := (mkF m 73 #[.val (.ref ad), .val (.int (4 : Int32)), .unset, .unset, .unset] [(.ref a26), (.ref ad)])) rfl (by rw [hml]; rfl) (argsL := [(.ref a26)]) (rest := []) (lenOf pd_2 rfl) rfl (by show 2 * 0 + _ ≤ _; exact Nat.le_of_eq rfl) (hb hby d2_73) ⟨rfl, e26, (by decide), (by decide)⟩
  have hv28 : v28 = some (.int (0 : Int32)) := hv28.elim (fun q => absurd q.2 (by decide)) (fun q => q.1)
  rw [hv28] at st28
  have S29 : Steps p.tables e below Ω (T28.setTop (mkF m 76 #[.val (.ref ad), .val (.int (4 : Int32)), .unset, .unset, .unset] [(.int (0 : Int32))])) := S27.trans st28
  have S30 : Steps p.tables e below Ω (T28.setTop (mkF m 83 #[.val (.ref ad), .val (.int (4 : Int32)), .unset, .unset, .unset] [(.ref ad)])) := by
    refine S29.trans ?_
    refine XS.ifYes X28.here hx rfl (pc0 := 76) (pc' := 82) rfl (hb hby d2_76) rfl (XT.i0_eq_t (by decide)) (by decide) (by decide) ?_
    show Steps p.tables e below (T28.setTop (mkF m 82 #[.val (.ref ad), .val (.int (4 : Int32)), .unset, .unset, .unset] [])) _
    refine XS.aloadN X28.here hx rfl (hb hby d2_82) rfl rfl ?_
    exact Steps.refl _
  obtain ⟨a31, T31, h31, kb31, X31, e31, E31, hS31, hk31, hZ, hown, L31, C31, st31⟩ := own_ldcC (s := s) (vm0 := T26.vm) X28 hx hZ hown (hw _ (List.mem_of_getElem? (i := 68) rfl)) own_tx_apos (own_wS hw) e28 hS26 hk26 (own_lk hw) (List.mem_of_getElem? (i := 11) rfl) CH26.1 (g := (mkF m 83 #[.val (.ref ad), .val (.int (4 : Int32)), .unset, .unset, .unset] [(.ref ad)])) rfl (hb hby d2_83) (n := 24) (by decide) (by decide) (by decide) (by decide)
  have CH31 := CHr.trans CH26 C31
  have S32 : Steps p.tables e below Ω (T31.setTop (mkF m 85 #[.val (.ref ad), .val (.int (4 : Int32)), .unset, .unset, .unset] [(.ref a31), (.ref ad)])) := S30.trans (st31 _ (Steps.refl _))
  have LS_31 := LS_26.ext E31
  have O2_31 := O2_26.ext E31
  have O4_31 := O4_26.ext E31
  obtain ⟨cq33, kq33, q33a, q33b, q33c⟩ := isOf hZ e31 (own_exa LS_31)
  obtain ⟨v33, T33, X33, e33, hv33, st33⟩ := own_callP X31 hx (y := (⟨"java/lang/String", "equals", "(Ljava/lang/Object;)Z"⟩ : MethodName)) hown (mvT hZ (hw _ (List.mem_of_getElem? (i := 53) rfl))) (mvT hZ (hw _ (List.mem_of_getElem? (i := 54) rfl))) (mvT hZ (hw _ (List.mem_of_getElem? (i := 56) rfl))) (mvT hZ (hw _ (List.mem_of_getElem? (i := 55) rfl))) (by decide) (Qv := fun v => (v = some (.int 1) ∧ ([38, 35, 57, 59] : List Int32) = ([38, 97, 112, 111, 115, 59] : List Int32)) ∨ (v = some (.int 0) ∧ ¬ ([38, 35, 57, 59] : List Int32) = ([38, 97, 112, 111, 115, 59] : List Int32))) (own_eq0 (W := 0) hZ hw (hw _ (List.mem_of_getElem? (i := 7) rfl)) LS_31 own_hb_tab (by decide) L31 own_hb_apos (by decide) O2_31 hz (by decide) (by decide)) q33a q33c (g := (mkF m 85 #[.val (.ref ad), .val (.int (4 : Int32)), .unset, .unset, .unset] [(.ref a31), (.ref ad)])) rfl (by rw [hml]; rfl) (argsL := [(.ref a31)]) (rest := []) (lenOf pd_2 rfl) rfl (by show 2 * 0 + _ ≤ _; exact Nat.le_of_eq rfl) (hb hby d2_85) ⟨rfl, e31, (by decide), (by decide)⟩
  have hv33 : v33 = some (.int (0 : Int32)) := hv33.elim (fun q => absurd q.2 (by decide)) (fun q => q.1)
  rw [hv33] at st33
  have S34 : Steps p.tables e below Ω (T33.setTop (mkF m 88 #[.val (.ref ad), .val (.int (4 : Int32)), .unset, .unset, .unset] [(.int (0 : Int32))])) := S32.trans st33
  have S35 : Steps p.tables e below Ω (T33.setTop (mkF m 96 #[.val (.ref ad), .val (.int (4 : Int32)), .unset, .unset, .unset] [(.int (1 : Int32)), (.ref ad)])) := by
    refine S34.trans ?_
    refine XS.ifYes X33.here hx rfl (pc0 := 88) (pc' := 94) rfl (hb hby d2_88) rfl (XT.i0_eq_t (by decide)) (by decide) (by decide) ?_
    show Steps p.tables e below (T33.setTop (mkF m 94 #[.val (.ref ad), .val (.int (4 : Int32)), .unset, .unset, .unset] [])) _
    refine XS.aloadN X33.here hx rfl (hb hby d2_94) rfl rfl ?_
    show Steps p.tables e below (T33.setTop (mkF m 95 #[.val (.ref ad), .val (.int (4 : Int32)), .unset, .unset, .unset] [(.ref ad)])) _
    refine XS.iconst X33.here hx rfl (hb hby d2_95) ?_
    exact Steps.refl _
  obtain ⟨cq36, kq36, q36a, q36b, q36c⟩ := isOf hZ e33 (own_exa LS_31)
  obtain ⟨v36, T36, X36, e36, hv36, st36⟩ := own_callP X33 hx (y := (⟨"java/lang/String", "charAt", "(I)C"⟩ : MethodName)) hown (mvT hZ (hw _ (List.mem_of_getElem? (i := 30) rfl))) (mvT hZ (hw _ (List.mem_of_getElem? (i := 31) rfl))) (mvT hZ (hw _ (List.mem_of_getElem? (i := 33) rfl))) (mvT hZ (hw _ (List.mem_of_getElem? (i := 32) rfl))) (by decide) (Qv := fun v => v = some (.int (35 : Int32))) (own_ch0 (W := 0) (i := 1) hZ hw (hw _ (List.mem_of_getElem? (i := 7) rfl)) LS_31 own_hb_tab (by decide) O2_31 hz O4_31 rf (by decide) rfl (d := (35 : Int32)) rfl (by decide) (by decide)) q36a q36c (g := (mkF m 96 #[.val (.ref ad), .val (.int (4 : Int32)), .unset, .unset, .unset] [(.int (1 : Int32)), (.ref ad)])) rfl (by rw [hml]; rfl) (argsL := [(.int (1 : Int32))]) (rest := []) (lenOf pd_0 rfl) rfl (by show 2 * 0 + _ ≤ _; exact Nat.le_of_eq rfl) (hb hby d2_96) ⟨rfl, e33, (by decide), (by decide)⟩
  rw [hv36] at st36
  have S37 : Steps p.tables e below Ω (T36.setTop (mkF m 99 #[.val (.ref ad), .val (.int (4 : Int32)), .unset, .unset, .unset] [(.int (35 : Int32))])) := S35.trans st36
  have S38 : Steps p.tables e below Ω (T36.setTop (mkF m 114 #[.val (.ref ad), .val (.int (4 : Int32)), .unset, .unset, .unset] [(.int (2 : Int32)), (.ref ad)])) := by
    refine S37.trans ?_
    refine XS.bipush X36.here hx rfl (hb hby d2_99) ?_
    show Steps p.tables e below (T36.setTop (mkF m 101 #[.val (.ref ad), .val (.int (4 : Int32)), .unset, .unset, .unset] [(.int (35 : Int32)), (.int (35 : Int32))])) _
    refine XS.icmpNo X36.here hx rfl (hb hby d2_101) rfl (XT.ii_ne_f (by decide)) ?_
    show Steps p.tables e below (T36.setTop (mkF m 104 #[.val (.ref ad), .val (.int (4 : Int32)), .unset, .unset, .unset] [])) _
    refine XS.iloadN X36.here hx rfl (hb hby d2_104) rfl ?_
    show Steps p.tables e below (T36.setTop (mkF m 105 #[.val (.ref ad), .val (.int (4 : Int32)), .unset, .unset, .unset] [(.int (4 : Int32))])) _
    refine XS.bipush X36.here hx rfl (hb hby d2_105) ?_
    show Steps p.tables e below (T36.setTop (mkF m 107 #[.val (.ref ad), .val (.int (4 : Int32)), .unset, .unset, .unset] [(.int (6 : Int32)), (.int (4 : Int32))])) _
    refine XS.icmpYes X36.here hx rfl (pc0 := 107) (pc' := 112) rfl (hb hby d2_107) rfl (XT.ii_le_t (by decide)) (by decide) (by decide) ?_
    show Steps p.tables e below (T36.setTop (mkF m 112 #[.val (.ref ad), .val (.int (4 : Int32)), .unset, .unset, .unset] [])) _
    refine XS.aloadN X36.here hx rfl (hb hby d2_112) rfl rfl ?_
    show Steps p.tables e below (T36.setTop (mkF m 113 #[.val (.ref ad), .val (.int (4 : Int32)), .unset, .unset, .unset] [(.ref ad)])) _
    refine XS.iconst X36.here hx rfl (hb hby d2_113) ?_
    exact Steps.refl _
  obtain ⟨v39, T39, X39, e39, hv39, st39⟩ := own_callQ X36 hx (y := (⟨"com/example/distill_trees/distilltrees/io/XmlWriterReferencePinLaw", "digit", "(Ljava/lang/String;I)I"⟩ : MethodName)) hown (mvT hZ (hw _ (List.mem_of_getElem? (i := 69) rfl))) (mvT hZ (hw _ (List.mem_of_getElem? (i := 70) rfl))) (mvT hZ (hw _ (List.mem_of_getElem? (i := 15) rfl))) (mvT hZ (hw _ (List.mem_of_getElem? (i := 71) rfl))) (by decide) (Qv := fun v => v = some (.int ((57 : Int32) - 48))) (backOf (W := 0) (rm12 l Z a0 hw [] ad (2 : Int32) ([38, 35, 57, 59] : List Int32) 2 (57 : Int32) z fm h31 n0 (Nat.le_trans (Nat.le_trans (Nat.le_trans (Nat.le_trans (Nat.le_trans Z0 E11.1) E16.1) E21.1) E26.1) E31.1) LS_31 own_hb_tab (by decide) O2_31 hz O4_31 rf (by decide) rfl rfl (by decide) (by decide)) hZ (hw _ (List.mem_of_getElem? (i := 71) rfl)) (hw _ (List.mem_of_getElem? (i := 15) rfl)) (by decide) (by decide)) (g := (mkF m 114 #[.val (.ref ad), .val (.int (4 : Int32)), .unset, .unset, .unset] [(.int (2 : Int32)), (.ref ad)])) rfl (by rw [hml]; rfl) (argsL := [(.ref ad), (.int (2 : Int32))]) (rest := []) (lenOf pd_3 rfl) rfl (by show 2 * 0 + _ ≤ _; exact Nat.le_of_eq rfl) (hb hby d2_114) ⟨rfl, e36, (by decide), (by decide)⟩
  have hv39 : v39 = some (.int (9 : Int32)) := hv39
  rw [hv39] at st39
  have S40 : Steps p.tables e below Ω (T39.setTop (mkF m 117 #[.val (.ref ad), .val (.int (4 : Int32)), .unset, .unset, .unset] [(.int (9 : Int32))])) := S38.trans st39
  have S41 : Steps p.tables e below Ω (T39.setTop (mkF m 182 #[.val (.ref ad), .val (.int (4 : Int32)), .val (.int (9 : Int32)), .val (.int (9 : Int32)), .unset] [(.int (9 : Int32))])) := by
    refine S40.trans ?_
    refine XS.istoreN X39.here hx rfl (hb hby d2_117) rfl (l' := #[.val (.ref ad), .val (.int (4 : Int32)), .val (.int (9 : Int32)), .unset, .unset]) rfl ?_
    show Steps p.tables e below (T39.setTop (mkF m 118 #[.val (.ref ad), .val (.int (4 : Int32)), .val (.int (9 : Int32)), .unset, .unset] [])) _
    refine XS.iloadN X39.here hx rfl (hb hby d2_118) rfl ?_
    show Steps p.tables e below (T39.setTop (mkF m 119 #[.val (.ref ad), .val (.int (4 : Int32)), .val (.int (9 : Int32)), .unset, .unset] [(.int (9 : Int32))])) _
    refine XS.ifYes X39.here hx rfl (pc0 := 119) (pc' := 124) rfl (hb hby d2_119) rfl (XT.i0_ge_t (by decide)) (by decide) (by decide) ?_
    show Steps p.tables e below (T39.setTop (mkF m 124 #[.val (.ref ad), .val (.int (4 : Int32)), .val (.int (9 : Int32)), .unset, .unset] [])) _
    refine XS.iloadN X39.here hx rfl (hb hby d2_124) rfl ?_
    show Steps p.tables e below (T39.setTop (mkF m 125 #[.val (.ref ad), .val (.int (4 : Int32)), .val (.int (9 : Int32)), .unset, .unset] [(.int (9 : Int32))])) _
    refine XS.istoreN X39.here hx rfl (hb hby d2_125) rfl (l' := #[.val (.ref ad), .val (.int (4 : Int32)), .val (.int (9 : Int32)), .val (.int (9 : Int32)), .unset]) rfl ?_
    show Steps p.tables e below (T39.setTop (mkF m 126 #[.val (.ref ad), .val (.int (4 : Int32)), .val (.int (9 : Int32)), .val (.int (9 : Int32)), .unset] [])) _
    refine XS.iloadN X39.here hx rfl (hb hby d2_126) rfl ?_
    show Steps p.tables e below (T39.setTop (mkF m 127 #[.val (.ref ad), .val (.int (4 : Int32)), .val (.int (9 : Int32)), .val (.int (9 : Int32)), .unset] [(.int (4 : Int32))])) _
    refine XS.iconst X39.here hx rfl (hb hby d2_127) ?_
    show Steps p.tables e below (T39.setTop (mkF m 128 #[.val (.ref ad), .val (.int (4 : Int32)), .val (.int (9 : Int32)), .val (.int (9 : Int32)), .unset] [(.int (5 : Int32)), (.int (4 : Int32))])) _
    refine XS.icmpYes X39.here hx rfl (pc0 := 128) (pc' := 153) rfl (hb hby d2_128) rfl (XT.ii_lt_t (by decide)) (by decide) (by decide) ?_
    show Steps p.tables e below (T39.setTop (mkF m 153 #[.val (.ref ad), .val (.int (4 : Int32)), .val (.int (9 : Int32)), .val (.int (9 : Int32)), .unset] [])) _
    refine XS.iloadN X39.here hx rfl (hb hby d2_153) rfl ?_
    show Steps p.tables e below (T39.setTop (mkF m 154 #[.val (.ref ad), .val (.int (4 : Int32)), .val (.int (9 : Int32)), .val (.int (9 : Int32)), .unset] [(.int (4 : Int32))])) _
    refine XS.bipush X39.here hx rfl (hb hby d2_154) ?_
    show Steps p.tables e below (T39.setTop (mkF m 156 #[.val (.ref ad), .val (.int (4 : Int32)), .val (.int (9 : Int32)), .val (.int (9 : Int32)), .unset] [(.int (6 : Int32)), (.int (4 : Int32))])) _
    refine XS.icmpYes X39.here hx rfl (pc0 := 156) (pc' := 181) rfl (hb hby d2_156) rfl (XT.ii_ne_t (by decide)) (by decide) (by decide) ?_
    show Steps p.tables e below (T39.setTop (mkF m 181 #[.val (.ref ad), .val (.int (4 : Int32)), .val (.int (9 : Int32)), .val (.int (9 : Int32)), .unset] [])) _
    refine XS.iloadN X39.here hx rfl (hb hby d2_181) rfl ?_
    exact Steps.refl _
  obtain ⟨fs, hr, hrun, hended, hend⟩ := Stand.leaveW (s := s) (vm₁ := T31.vm) X39 hS31 (by rw [e39]; exact hk31) (v := some (.int (9 : Int32))) (fun h => by rw [Bd.returns] at h; cases h)
  have hfin : Steps p.tables e below Ω (T39.setFrames fs) := by
    refine S41.trans ?_
    exact retI X39 hx Bd.returns (hb hby d2_182) hr
  rw [hΩ] at hfin
  have CHe : CHr Z consts_1 s.vm s.heap T39.vm T39.heap := by
    rw [hh, e39]
    exact CHr.trans CH31 (CHv.at (s := s) (vm0 := T31.vm) X39 hZ (own_lk hw) CH31.1)
  refine ⟨_, _, hfin, hrun, hended, _, _, rfl, ?_, CHe, hend.1, hend.2.1, hend.2.2.1, hend.2.2.2.mono (by decide) (by decide)⟩
  show Q2tab Z ad z fm h0 n0 _ T39.heap _
  rw [e39]
  exact ⟨rfl, N0⟩
theorem d2_131 : decode method_4_code 131 = .ok (.aload_n 0, 1) := by decide +kernel
theorem d2_132 : decode method_4_code 132 = .ok (.iconst 3, 1) := by decide +kernel
theorem d2_133 : decode method_4_code 133 = .ok (.invokestatic 43, 3) := by decide +kernel
theorem d2_136 : decode method_4_code 136 = .ok (.istore 4, 2) := by decide +kernel
theorem d2_138 : decode method_4_code 138 = .ok (.iload 4, 2) := by decide +kernel
theorem d2_140 : decode method_4_code 140 = .ok (.ifCond .ge 5, 3) := by decide +kernel
theorem d2_145 : decode method_4_code 145 = .ok (.iload_n 3, 1) := by decide +kernel
theorem d2_146 : decode method_4_code 146 = .ok (.bipush 10, 2) := by decide +kernel
theorem d2_148 : decode method_4_code 148 = .ok (.imul, 1) := by decide +kernel
theorem d2_149 : decode method_4_code 149 = .ok (.iload 4, 2) := by decide +kernel
theorem d2_151 : decode method_4_code 151 = .ok (.iadd, 1) := by decide +kernel
theorem d2_152 : decode method_4_code 152 = .ok (.istore_n 3, 1) := by decide +kernel
theorem ef_rm2lf (m : MethodId) (x0 : Addr) : entryFrame m #[(.ref x0)] 5 = mkF m 0 #[.val (.ref x0), .unset, .unset, .unset, .unset] [] := by first | (simp [entryFrame, mkF, argsToLocals, Value.category]; done) | rfl
def Q2lf (Z : State) (ad : Addr) (z : Int32) (fm : Value) (h0 : Heap) (n0 : Nat) (v : Option Value) (h : Heap) (L : List Loc) : Prop := v = some (.int (10 : Int32)) ∧ Fr n0 L
set_option maxRecDepth 65536 in
set_option maxHeartbeats 40000000 in
theorem rm2lf (l : Launch) (Z : State) (a0 : Array Value) (hw : ∀ d ∈ tables_1, d.before a0 Z = true) (ws : List Jvm.Cond) (ad : Addr) (z : Int32) (fm : Value) (h0 : Heap) (n0 : Nat) (Z0 : n0 ≤ h0.size) (E0 : LS Z h0 ad ([38, 35, 49, 48, 59] : List Int32)) (O2 : Sta Z h0 "java/lang/String" "COMPACT_STRINGS" "Z" (.int z)) (hz : ¬ z = 0) (O4 : Sta Z h0 "jdk/internal/util/Preconditions" "SIOOBE_FORMATTER" "Ljava/util/function/BiFunction;" fm) (rf : fm.isRef = true) :
    MetFree l (⟨"com/example/distill_trees/distilltrees/io/XmlWriterReferencePinLaw", "decode", "(Ljava/lang/String;)I"⟩ : MethodName) (head1 (Jvm.Cond.code (⟨"com/example/distill_trees/distilltrees/io/XmlWriterReferencePinLaw", "decode", "(Ljava/lang/String;)I"⟩ : MethodName) method_4_code 5 (some .int) :: ws) ({ frames := 5, cells := 10, slots := 120, locals := 67 } : Room)) (fun aa U => aa = #[(.ref ad)] ∧ Z.Warmed39 U.vm ∧ U.heap = h0 ∧ CHv Z consts_1 U.vm h0) (fun _ _ _ _ _ => True) (fun _ U o U' => ∃ v L, o = .returned v ∧ Q2lf Z ad z fm h0 n0 v U'.heap L ∧ CHr Z consts_1 U.vm U.heap U'.vm U'.heap ∧ ReturnedEndW U o U' L ({ frames := 5, cells := 10, slots := 120, locals := 67 } : Room).cells ({ frames := 5, cells := 10, slots := 120, locals := 67 } : Room).slots) := by
  refine MetFree.of_bodySF (plainFor_of_name pn_0) hisR ?_
  intro p e s m args below meth c s₁ Bd hml0 hP hK
  obtain ⟨rfl, hZ, hh, HS⟩ := hP
  have hZs := hZ
  have hx := Bd.exec
  have hby := Bd.bytes
  have hml : c.maxLocals = 5 := hml0
  have hown : s.vm.findClass "com/example/distill_trees/distilltrees/io/XmlWriterReferencePinLaw" = some m.cls := findClass_of_methodNamed Bd.named
  have hnm := (name_of_methodNamed Bd.named Bd.method).1
  have X0 : Stand p l e ({ frames := 5, cells := 10, slots := 120, locals := 67 } : Room) s m #[(.ref ad)] below meth c s₁ [] 0 0 := Stand.of_body Bd
  have e0 : s₁.heap = h0 := by rw [← hh, Bd.state]; rfl
  have N0 := Fr.nil n0
  obtain ⟨Ω, hΩ⟩ : ∃ z, z = s₁.setTop (entryFrame m #[(.ref ad)] 5) := ⟨_, rfl⟩
  have S0 : Steps p.tables e below Ω (s₁.setTop (mkF m 0 #[.val (.ref ad), .unset, .unset, .unset, .unset] [])) := by rw [hΩ]; exact castTop (ef_rm2lf m ad) (Steps.refl _)
  have hS0 : s.Since s.vm h0.size := (State.WarmedH.refl s).since _
  have CH0 : CHr Z consts_1 s.vm h0 s.vm h0 := CHr.refl HS
  have S1 : Steps p.tables e below Ω (s₁.setTop (mkF m 1 #[.val (.ref ad), .unset, .unset, .unset, .unset] [(.ref ad)])) := by
    refine S0.trans ?_
    refine XS.aloadN X0.here hx rfl (hb hby d2_0) rfl rfl ?_
    exact Steps.refl _
  obtain ⟨cq2, kq2, q2a, q2b, q2c⟩ := isOf hZ e0 (own_exa E0)
  obtain ⟨v2, T2, X2, e2, hv2, st2⟩ := own_callP X0 hx (y := (⟨"java/lang/String", "length", "()I"⟩ : MethodName)) hown (mvT hZ (hw _ (List.mem_of_getElem? (i := 17) rfl))) (mvT hZ (hw _ (List.mem_of_getElem? (i := 18) rfl))) (mvT hZ (hw _ (List.mem_of_getElem? (i := 20) rfl))) (mvT hZ (hw _ (List.mem_of_getElem? (i := 19) rfl))) (by decide) (Qv := fun v => v = some (.int (Int32.ofNat (([38, 35, 49, 48, 59] : List Int32)).length))) (own_len0 (W := 0) hZ hw (hw _ (List.mem_of_getElem? (i := 7) rfl)) E0 own_hb_lf (by decide) O2 hz (by decide) (by decide)) q2a q2c (g := (mkF m 1 #[.val (.ref ad), .unset, .unset, .unset, .unset] [(.ref ad)])) rfl (by rw [hml]; rfl) (argsL := []) (rest := []) (lenOf pd_1 rfl) rfl (by show 2 * 0 + _ ≤ _; exact Nat.le_of_eq rfl) (hb hby d2_1) ⟨rfl, e0, (by decide), (by decide)⟩
  rw [hv2] at st2
  have S3 : Steps p.tables e below Ω (T2.setTop (mkF m 4 #[.val (.ref ad), .unset, .unset, .unset, .unset] [(.int (5 : Int32))])) := S1.trans st2
  have S4 : Steps p.tables e below Ω (T2.setTop (mkF m 12 #[.val (.ref ad), .val (.int (5 : Int32)), .unset, .unset, .unset] [(.int (0 : Int32)), (.ref ad)])) := by
    refine S3.trans ?_
    refine XS.istoreN X2.here hx rfl (hb hby d2_4) rfl (l' := #[.val (.ref ad), .val (.int (5 : Int32)), .unset, .unset, .unset]) rfl ?_
    show Steps p.tables e below (T2.setTop (mkF m 5 #[.val (.ref ad), .val (.int (5 : Int32)), .unset, .unset, .unset] [])) _
    refine XS.iloadN X2.here hx rfl (hb hby d2_5) rfl ?_
    show Steps p.tables e below (T2.setTop (mkF m 6 #[.val (.ref ad), .val (.int (5 : Int32)), .unset, .unset, .unset] [(.int (5 : Int32))])) _
    refine XS.iconst X2.here hx rfl (hb hby d2_6) ?_
    show Steps p.tables e below (T2.setTop (mkF m 7 #[.val (.ref ad), .val (.int (5 : Int32)), .unset, .unset, .unset] [(.int (4 : Int32)), (.int (5 : Int32))])) _
    refine XS.icmpNo X2.here hx rfl (hb hby d2_7) rfl (XT.ii_lt_f (by decide)) ?_
    show Steps p.tables e below (T2.setTop (mkF m 10 #[.val (.ref ad), .val (.int (5 : Int32)), .unset, .unset, .unset] [])) _
    refine XS.aloadN X2.here hx rfl (hb hby d2_10) rfl rfl ?_
    show Steps p.tables e below (T2.setTop (mkF m 11 #[.val (.ref ad), .val (.int (5 : Int32)), .unset, .unset, .unset] [(.ref ad)])) _
    refine XS.iconst X2.here hx rfl (hb hby d2_11) ?_
    exact Steps.refl _
  obtain ⟨cq5, kq5, q5a, q5b, q5c⟩ := isOf hZ e2 (own_exa E0)
  obtain ⟨v5, T5, X5, e5, hv5, st5⟩ := own_callP X2 hx (y := (⟨"java/lang/String", "charAt", "(I)C"⟩ : MethodName)) hown (mvT hZ (hw _ (List.mem_of_getElem? (i := 30) rfl))) (mvT hZ (hw _ (List.mem_of_getElem? (i := 31) rfl))) (mvT hZ (hw _ (List.mem_of_getElem? (i := 33) rfl))) (mvT hZ (hw _ (List.mem_of_getElem? (i := 32) rfl))) (by decide) (Qv := fun v => v = some (.int (38 : Int32))) (own_ch0 (W := 0) (i := 0) hZ hw (hw _ (List.mem_of_getElem? (i := 7) rfl)) E0 own_hb_lf (by decide) O2 hz O4 rf (by decide) rfl (d := (38 : Int32)) rfl (by decide) (by decide)) q5a q5c (g := (mkF m 12 #[.val (.ref ad), .val (.int (5 : Int32)), .unset, .unset, .unset] [(.int (0 : Int32)), (.ref ad)])) rfl (by rw [hml]; rfl) (argsL := [(.int (0 : Int32))]) (rest := []) (lenOf pd_0 rfl) rfl (by show 2 * 0 + _ ≤ _; exact Nat.le_of_eq rfl) (hb hby d2_12) ⟨rfl, e2, (by decide), (by decide)⟩
  rw [hv5] at st5
  have S6 : Steps p.tables e below Ω (T5.setTop (mkF m 15 #[.val (.ref ad), .val (.int (5 : Int32)), .unset, .unset, .unset] [(.int (38 : Int32))])) := S4.trans st5
  have S7 : Steps p.tables e below Ω (T5.setTop (mkF m 24 #[.val (.ref ad), .val (.int (5 : Int32)), .unset, .unset, .unset] [(.int (4 : Int32)), (.ref ad)])) := by
    refine S6.trans ?_
    refine XS.bipush X5.here hx rfl (hb hby d2_15) ?_
    show Steps p.tables e below (T5.setTop (mkF m 17 #[.val (.ref ad), .val (.int (5 : Int32)), .unset, .unset, .unset] [(.int (38 : Int32)), (.int (38 : Int32))])) _
    refine XS.icmpNo X5.here hx rfl (hb hby d2_17) rfl (XT.ii_ne_f (by decide)) ?_
    show Steps p.tables e below (T5.setTop (mkF m 20 #[.val (.ref ad), .val (.int (5 : Int32)), .unset, .unset, .unset] [])) _
    refine XS.aloadN X5.here hx rfl (hb hby d2_20) rfl rfl ?_
    show Steps p.tables e below (T5.setTop (mkF m 21 #[.val (.ref ad), .val (.int (5 : Int32)), .unset, .unset, .unset] [(.ref ad)])) _
    refine XS.iloadN X5.here hx rfl (hb hby d2_21) rfl ?_
    show Steps p.tables e below (T5.setTop (mkF m 22 #[.val (.ref ad), .val (.int (5 : Int32)), .unset, .unset, .unset] [(.int (5 : Int32)), (.ref ad)])) _
    refine XS.iconst X5.here hx rfl (hb hby d2_22) ?_
    show Steps p.tables e below (T5.setTop (mkF m 23 #[.val (.ref ad), .val (.int (5 : Int32)), .unset, .unset, .unset] [(.int (1 : Int32)), (.int (5 : Int32)), (.ref ad)])) _
    refine XS.isub X5.here hx rfl (hb hby d2_23) rfl ?_
    exact Steps.refl _
  obtain ⟨cq8, kq8, q8a, q8b, q8c⟩ := isOf hZ e5 (own_exa E0)
  obtain ⟨v8, T8, X8, e8, hv8, st8⟩ := own_callP X5 hx (y := (⟨"java/lang/String", "charAt", "(I)C"⟩ : MethodName)) hown (mvT hZ (hw _ (List.mem_of_getElem? (i := 30) rfl))) (mvT hZ (hw _ (List.mem_of_getElem? (i := 31) rfl))) (mvT hZ (hw _ (List.mem_of_getElem? (i := 33) rfl))) (mvT hZ (hw _ (List.mem_of_getElem? (i := 32) rfl))) (by decide) (Qv := fun v => v = some (.int (59 : Int32))) (own_ch0 (W := 0) (i := 4) hZ hw (hw _ (List.mem_of_getElem? (i := 7) rfl)) E0 own_hb_lf (by decide) O2 hz O4 rf (by decide) rfl (d := (59 : Int32)) rfl (by decide) (by decide)) q8a q8c (g := (mkF m 24 #[.val (.ref ad), .val (.int (5 : Int32)), .unset, .unset, .unset] [(.int (4 : Int32)), (.ref ad)])) rfl (by rw [hml]; rfl) (argsL := [(.int (4 : Int32))]) (rest := []) (lenOf pd_0 rfl) rfl (by show 2 * 0 + _ ≤ _; exact Nat.le_of_eq rfl) (hb hby d2_24) ⟨rfl, e5, (by decide), (by decide)⟩
  rw [hv8] at st8
  have S9 : Steps p.tables e below Ω (T8.setTop (mkF m 27 #[.val (.ref ad), .val (.int (5 : Int32)), .unset, .unset, .unset] [(.int (59 : Int32))])) := S7.trans st8
  have S10 : Steps p.tables e below Ω (T8.setTop (mkF m 35 #[.val (.ref ad), .val (.int (5 : Int32)), .unset, .unset, .unset] [(.ref ad)])) := by
    refine S9.trans ?_
    refine XS.bipush X8.here hx rfl (hb hby d2_27) ?_
    show Steps p.tables e below (T8.setTop (mkF m 29 #[.val (.ref ad), .val (.int (5 : Int32)), .unset, .unset, .unset] [(.int (59 : Int32)), (.int (59 : Int32))])) _
    refine XS.icmpYes X8.here hx rfl (pc0 := 29) (pc' := 34) rfl (hb hby d2_29) rfl (XT.ii_eq_t (by decide)) (by decide) (by decide) ?_
    show Steps p.tables e below (T8.setTop (mkF m 34 #[.val (.ref ad), .val (.int (5 : Int32)), .unset, .unset, .unset] [])) _
    refine XS.aloadN X8.here hx rfl (hb hby d2_34) rfl rfl ?_
    exact Steps.refl _
  obtain ⟨a11, T11, h11, kb11, X11, e11, E11, hS11, hk11, hZ, hown, L11, C11, st11⟩ := own_ldcC (s := s) (vm0 := s.vm) X8 hx hZ hown (hw _ (List.mem_of_getElem? (i := 52) rfl)) own_tx_amp (own_wS hw) e8 hS0 (Nat.le_refl h0.size) (own_lk hw) (List.mem_of_getElem? (i := 7) rfl) CH0.1 (g := (mkF m 35 #[.val (.ref ad), .val (.int (5 : Int32)), .unset, .unset, .unset] [(.ref ad)])) rfl (hb hby d2_35) (n := 20) (by decide) (by decide) (by decide) (by decide)
  have CH11 := CHr.trans CH0 C11
  have S12 : Steps p.tables e below Ω (T11.setTop (mkF m 37 #[.val (.ref ad), .val (.int (5 : Int32)), .unset, .unset, .unset] [(.ref a11), (.ref ad)])) := S10.trans (st11 _ (Steps.refl _))
  have LS_11 := E0.ext E11
  have O2_11 := O2.ext E11
  have O4_11 := O4.ext E11
  obtain ⟨cq13, kq13, q13a, q13b, q13c⟩ := isOf hZ e11 (own_exa LS_11)
  obtain ⟨v13, T13, X13, e13, hv13, st13⟩ := own_callP X11 hx (y := (⟨"java/lang/String", "equals", "(Ljava/lang/Object;)Z"⟩ : MethodName)) hown (mvT hZ (hw _ (List.mem_of_getElem? (i := 53) rfl))) (mvT hZ (hw _ (List.mem_of_getElem? (i := 54) rfl))) (mvT hZ (hw _ (List.mem_of_getElem? (i := 56) rfl))) (mvT hZ (hw _ (List.mem_of_getElem? (i := 55) rfl))) (by decide) (Qv := fun v => (v = some (.int 1) ∧ ([38, 35, 49, 48, 59] : List Int32) = ([38, 97, 109, 112, 59] : List Int32)) ∨ (v = some (.int 0) ∧ ¬ ([38, 35, 49, 48, 59] : List Int32) = ([38, 97, 109, 112, 59] : List Int32))) (own_eq0 (W := 0) hZ hw (hw _ (List.mem_of_getElem? (i := 7) rfl)) LS_11 own_hb_lf (by decide) L11 own_hb_amp (by decide) O2_11 hz (by decide) (by decide)) q13a q13c (g := (mkF m 37 #[.val (.ref ad), .val (.int (5 : Int32)), .unset, .unset, .unset] [(.ref a11), (.ref ad)])) rfl (by rw [hml]; rfl) (argsL := [(.ref a11)]) (rest := []) (lenOf pd_2 rfl) rfl (by show 2 * 0 + _ ≤ _; exact Nat.le_of_eq rfl) (hb hby d2_37) ⟨rfl, e11, (by decide), (by decide)⟩
  have hv13 : v13 = some (.int (0 : Int32)) := hv13.elim (fun q => absurd q.2 (by decide)) (fun q => q.1)
  rw [hv13] at st13
  have S14 : Steps p.tables e below Ω (T13.setTop (mkF m 40 #[.val (.ref ad), .val (.int (5 : Int32)), .unset, .unset, .unset] [(.int (0 : Int32))])) := S12.trans st13
  have S15 : Steps p.tables e below Ω (T13.setTop (mkF m 47 #[.val (.ref ad), .val (.int (5 : Int32)), .unset, .unset, .unset] [(.ref ad)])) := by
    refine S14.trans ?_
    refine XS.ifYes X13.here hx rfl (pc0 := 40) (pc' := 46) rfl (hb hby d2_40) rfl (XT.i0_eq_t (by decide)) (by decide) (by decide) ?_
    show Steps p.tables e below (T13.setTop (mkF m 46 #[.val (.ref ad), .val (.int (5 : Int32)), .unset, .unset, .unset] [])) _
    refine XS.aloadN X13.here hx rfl (hb hby d2_46) rfl rfl ?_
    exact Steps.refl _
  obtain ⟨a16, T16, h16, kb16, X16, e16, E16, hS16, hk16, hZ, hown, L16, C16, st16⟩ := own_ldcC (s := s) (vm0 := T11.vm) X13 hx hZ hown (hw _ (List.mem_of_getElem? (i := 63) rfl)) own_tx_lt (own_wS hw) e13 hS11 hk11 (own_lk hw) (List.mem_of_getElem? (i := 8) rfl) CH11.1 (g := (mkF m 47 #[.val (.ref ad), .val (.int (5 : Int32)), .unset, .unset, .unset] [(.ref ad)])) rfl (hb hby d2_47) (n := 16) (by decide) (by decide) (by decide) (by decide)
  have CH16 := CHr.trans CH11 C16
  have S17 : Steps p.tables e below Ω (T16.setTop (mkF m 49 #[.val (.ref ad), .val (.int (5 : Int32)), .unset, .unset, .unset] [(.ref a16), (.ref ad)])) := S15.trans (st16 _ (Steps.refl _))
  have LS_16 := LS_11.ext E16
  have O2_16 := O2_11.ext E16
  have O4_16 := O4_11.ext E16
  obtain ⟨cq18, kq18, q18a, q18b, q18c⟩ := isOf hZ e16 (own_exa LS_16)
  obtain ⟨v18, T18, X18, e18, hv18, st18⟩ := own_callP X16 hx (y := (⟨"java/lang/String", "equals", "(Ljava/lang/Object;)Z"⟩ : MethodName)) hown (mvT hZ (hw _ (List.mem_of_getElem? (i := 53) rfl))) (mvT hZ (hw _ (List.mem_of_getElem? (i := 54) rfl))) (mvT hZ (hw _ (List.mem_of_getElem? (i := 56) rfl))) (mvT hZ (hw _ (List.mem_of_getElem? (i := 55) rfl))) (by decide) (Qv := fun v => (v = some (.int 1) ∧ ([38, 35, 49, 48, 59] : List Int32) = ([38, 108, 116, 59] : List Int32)) ∨ (v = some (.int 0) ∧ ¬ ([38, 35, 49, 48, 59] : List Int32) = ([38, 108, 116, 59] : List Int32))) (own_eq0 (W := 0) hZ hw (hw _ (List.mem_of_getElem? (i := 7) rfl)) LS_16 own_hb_lf (by decide) L16 own_hb_lt (by decide) O2_16 hz (by decide) (by decide)) q18a q18c (g := (mkF m 49 #[.val (.ref ad), .val (.int (5 : Int32)), .unset, .unset, .unset] [(.ref a16), (.ref ad)])) rfl (by rw [hml]; rfl) (argsL := [(.ref a16)]) (rest := []) (lenOf pd_2 rfl) rfl (by show 2 * 0 + _ ≤ _; exact Nat.le_of_eq rfl) (hb hby d2_49) ⟨rfl, e16, (by decide), (by decide)⟩
  have hv18 : v18 = some (.int (0 : Int32)) := hv18.elim (fun q => absurd q.2 (by decide)) (fun q => q.1)
  rw [hv18] at st18
  have S19 : Steps p.tables e below Ω (T18.setTop (mkF m 52 #[.val (.ref ad), .val (.int (5 : Int32)), .unset, .unset, .unset] [(.int (0 : Int32))])) := S17.trans st18
  have S20 : Steps p.tables e below Ω (T18.setTop (mkF m 59 #[.val (.ref ad), .val (.int (5 : Int32)), .unset, .unset, .unset] [(.ref ad)])) := by
    refine S19.trans ?_
    refine XS.ifYes X18.here hx rfl (pc0 := 52) (pc' := 58) rfl (hb hby d2_52) rfl (XT.i0_eq_t (by decide)) (by decide) (by decide) ?_
    show Steps p.tables e below (T18.setTop (mkF m 58 #[.val (.ref ad), .val (.int (5 : Int32)), .unset, .unset, .unset] [])) _
    refine XS.aloadN X18.here hx rfl (hb hby d2_58) rfl rfl ?_
    exact Steps.refl _
  obtain ⟨a21, T21, h21, kb21, X21, e21, E21, hS21, hk21, hZ, hown, L21, C21, st21⟩ := own_ldcC (s := s) (vm0 := T16.vm) X18 hx hZ hown (hw _ (List.mem_of_getElem? (i := 66) rfl)) own_tx_gt (own_wS hw) e18 hS16 hk16 (own_lk hw) (List.mem_of_getElem? (i := 9) rfl) CH16.1 (g := (mkF m 59 #[.val (.ref ad), .val (.int (5 : Int32)), .unset, .unset, .unset] [(.ref ad)])) rfl (hb hby d2_59) (n := 16) (by decide) (by decide) (by decide) (by decide)
  have CH21 := CHr.trans CH16 C21
  have S22 : Steps p.tables e below Ω (T21.setTop (mkF m 61 #[.val (.ref ad), .val (.int (5 : Int32)), .unset, .unset, .unset] [(.ref a21), (.ref ad)])) := S20.trans (st21 _ (Steps.refl _))
  have LS_21 := LS_16.ext E21
  have O2_21 := O2_16.ext E21
  have O4_21 := O4_16.ext E21
  obtain ⟨cq23, kq23, q23a, q23b, q23c⟩ := isOf hZ e21 (own_exa LS_21)
  obtain ⟨v23, T23, X23, e23, hv23, st23⟩ := own_callP X21 hx (y := (⟨"java/lang/String", "equals", "(Ljava/lang/Object;)Z"⟩ : MethodName)) hown (mvT hZ (hw _ (List.mem_of_getElem? (i := 53) rfl))) (mvT hZ (hw _ (List.mem_of_getElem? (i := 54) rfl))) (mvT hZ (hw _ (List.mem_of_getElem? (i := 56) rfl))) (mvT hZ (hw _ (List.mem_of_getElem? (i := 55) rfl))) (by decide) (Qv := fun v => (v = some (.int 1) ∧ ([38, 35, 49, 48, 59] : List Int32) = ([38, 103, 116, 59] : List Int32)) ∨ (v = some (.int 0) ∧ ¬ ([38, 35, 49, 48, 59] : List Int32) = ([38, 103, 116, 59] : List Int32))) (own_eq0 (W := 0) hZ hw (hw _ (List.mem_of_getElem? (i := 7) rfl)) LS_21 own_hb_lf (by decide) L21 own_hb_gt (by decide) O2_21 hz (by decide) (by decide)) q23a q23c (g := (mkF m 61 #[.val (.ref ad), .val (.int (5 : Int32)), .unset, .unset, .unset] [(.ref a21), (.ref ad)])) rfl (by rw [hml]; rfl) (argsL := [(.ref a21)]) (rest := []) (lenOf pd_2 rfl) rfl (by show 2 * 0 + _ ≤ _; exact Nat.le_of_eq rfl) (hb hby d2_61) ⟨rfl, e21, (by decide), (by decide)⟩
  have hv23 : v23 = some (.int (0 : Int32)) := hv23.elim (fun q => absurd q.2 (by decide)) (fun q => q.1)
  rw [hv23] at st23
  have S24 : Steps p.tables e below Ω (T23.setTop (mkF m 64 #[.val (.ref ad), .val (.int (5 : Int32)), .unset, .unset, .unset] [(.int (0 : Int32))])) := S22.trans st23
  have S25 : Steps p.tables e below Ω (T23.setTop (mkF m 71 #[.val (.ref ad), .val (.int (5 : Int32)), .unset, .unset, .unset] [(.ref ad)])) := by
    refine S24.trans ?_
    refine XS.ifYes X23.here hx rfl (pc0 := 64) (pc' := 70) rfl (hb hby d2_64) rfl (XT.i0_eq_t (by decide)) (by decide) (by decide) ?_
    show Steps p.tables e below (T23.setTop (mkF m 70 #[.val (.ref ad), .val (.int (5 : Int32)), .unset, .unset, .unset] [])) _
    refine XS.aloadN X23.here hx rfl (hb hby d2_70) rfl rfl ?_
    exact Steps.refl _
  obtain ⟨a26, T26, h26, kb26, X26, e26, E26, hS26, hk26, hZ, hown, L26, C26, st26⟩ := own_ldcC (s := s) (vm0 := T21.vm) X23 hx hZ hown (hw _ (List.mem_of_getElem? (i := 67) rfl)) own_tx_quot (own_wS hw) e23 hS21 hk21 (own_lk hw) (List.mem_of_getElem? (i := 10) rfl) CH21.1 (g := (mkF m 71 #[.val (.ref ad), .val (.int (5 : Int32)), .unset, .unset, .unset] [(.ref ad)])) rfl (hb hby d2_71) (n := 24) (by decide) (by decide) (by decide) (by decide)
  have CH26 := CHr.trans CH21 C26
  have S27 : Steps p.tables e below Ω (T26.setTop (mkF m 73 #[.val (.ref ad), .val (.int (5 : Int32)), .unset, .unset, .unset] [(.ref a26), (.ref ad)])) := S25.trans (st26 _ (Steps.refl _))
  have LS_26 := LS_21.ext E26
  have O2_26 := O2_21.ext E26
  have O4_26 := O4_21.ext E26
  obtain ⟨cq28, kq28, q28a, q28b, q28c⟩ := isOf hZ e26 (own_exa LS_26)
  obtain ⟨v28, T28, X28, e28, hv28, st28⟩ := own_callP X26 hx (y := (⟨"java/lang/String", "equals", "(Ljava/lang/Object;)Z"⟩ : MethodName)) hown (mvT hZ (hw _ (List.mem_of_getElem? (i := 53) rfl))) (mvT hZ (hw _ (List.mem_of_getElem? (i := 54) rfl))) (mvT hZ (hw _ (List.mem_of_getElem? (i := 56) rfl))) (mvT hZ (hw _ (List.mem_of_getElem? (i := 55) rfl))) (by decide) (Qv := fun v => (v = some (.int 1) ∧ ([38, 35, 49, 48, 59] : List Int32) = ([38, 113, 117, 111, 116, 59] : List Int32)) ∨ (v = some (.int 0) ∧ ¬ ([38, 35, 49, 48, 59] : List Int32) = ([38, 113, 117, 111, 116, 59] : List Int32))) (own_eq0 (W := 0) hZ hw (hw _ (List.mem_of_getElem? (i := 7) rfl)) LS_26 own_hb_lf (by decide) L26 own_hb_quot (by decide) O2_26 hz (by decide) (by decide)) q28a q28c (g := (mkF m 73 #[.val (.ref ad), .val (.int (5 : Int32)), .unset, .unset, .unset] [(.ref a26), (.ref ad)])) rfl (by rw [hml]; rfl) (argsL := [(.ref a26)]) (rest := []) (lenOf pd_2 rfl) rfl (by show 2 * 0 + _ ≤ _; exact Nat.le_of_eq rfl) (hb hby d2_73) ⟨rfl, e26, (by decide), (by decide)⟩
  have hv28 : v28 = some (.int (0 : Int32)) := hv28.elim (fun q => absurd q.2 (by decide)) (fun q => q.1)
  rw [hv28] at st28
  have S29 : Steps p.tables e below Ω (T28.setTop (mkF m 76 #[.val (.ref ad), .val (.int (5 : Int32)), .unset, .unset, .unset] [(.int (0 : Int32))])) := S27.trans st28
  have S30 : Steps p.tables e below Ω (T28.setTop (mkF m 83 #[.val (.ref ad), .val (.int (5 : Int32)), .unset, .unset, .unset] [(.ref ad)])) := by
    refine S29.trans ?_
    refine XS.ifYes X28.here hx rfl (pc0 := 76) (pc' := 82) rfl (hb hby d2_76) rfl (XT.i0_eq_t (by decide)) (by decide) (by decide) ?_
    show Steps p.tables e below (T28.setTop (mkF m 82 #[.val (.ref ad), .val (.int (5 : Int32)), .unset, .unset, .unset] [])) _
    refine XS.aloadN X28.here hx rfl (hb hby d2_82) rfl rfl ?_
    exact Steps.refl _
  obtain ⟨a31, T31, h31, kb31, X31, e31, E31, hS31, hk31, hZ, hown, L31, C31, st31⟩ := own_ldcC (s := s) (vm0 := T26.vm) X28 hx hZ hown (hw _ (List.mem_of_getElem? (i := 68) rfl)) own_tx_apos (own_wS hw) e28 hS26 hk26 (own_lk hw) (List.mem_of_getElem? (i := 11) rfl) CH26.1 (g := (mkF m 83 #[.val (.ref ad), .val (.int (5 : Int32)), .unset, .unset, .unset] [(.ref ad)])) rfl (hb hby d2_83) (n := 24) (by decide) (by decide) (by decide) (by decide)
  have CH31 := CHr.trans CH26 C31
  have S32 : Steps p.tables e below Ω (T31.setTop (mkF m 85 #[.val (.ref ad), .val (.int (5 : Int32)), .unset, .unset, .unset] [(.ref a31), (.ref ad)])) := S30.trans (st31 _ (Steps.refl _))
  have LS_31 := LS_26.ext E31
  have O2_31 := O2_26.ext E31
  have O4_31 := O4_26.ext E31
  obtain ⟨cq33, kq33, q33a, q33b, q33c⟩ := isOf hZ e31 (own_exa LS_31)
  obtain ⟨v33, T33, X33, e33, hv33, st33⟩ := own_callP X31 hx (y := (⟨"java/lang/String", "equals", "(Ljava/lang/Object;)Z"⟩ : MethodName)) hown (mvT hZ (hw _ (List.mem_of_getElem? (i := 53) rfl))) (mvT hZ (hw _ (List.mem_of_getElem? (i := 54) rfl))) (mvT hZ (hw _ (List.mem_of_getElem? (i := 56) rfl))) (mvT hZ (hw _ (List.mem_of_getElem? (i := 55) rfl))) (by decide) (Qv := fun v => (v = some (.int 1) ∧ ([38, 35, 49, 48, 59] : List Int32) = ([38, 97, 112, 111, 115, 59] : List Int32)) ∨ (v = some (.int 0) ∧ ¬ ([38, 35, 49, 48, 59] : List Int32) = ([38, 97, 112, 111, 115, 59] : List Int32))) (own_eq0 (W := 0) hZ hw (hw _ (List.mem_of_getElem? (i := 7) rfl)) LS_31 own_hb_lf (by decide) L31 own_hb_apos (by decide) O2_31 hz (by decide) (by decide)) q33a q33c (g := (mkF m 85 #[.val (.ref ad), .val (.int (5 : Int32)), .unset, .unset, .unset] [(.ref a31), (.ref ad)])) rfl (by rw [hml]; rfl) (argsL := [(.ref a31)]) (rest := []) (lenOf pd_2 rfl) rfl (by show 2 * 0 + _ ≤ _; exact Nat.le_of_eq rfl) (hb hby d2_85) ⟨rfl, e31, (by decide), (by decide)⟩
  have hv33 : v33 = some (.int (0 : Int32)) := hv33.elim (fun q => absurd q.2 (by decide)) (fun q => q.1)
  rw [hv33] at st33
  have S34 : Steps p.tables e below Ω (T33.setTop (mkF m 88 #[.val (.ref ad), .val (.int (5 : Int32)), .unset, .unset, .unset] [(.int (0 : Int32))])) := S32.trans st33
  have S35 : Steps p.tables e below Ω (T33.setTop (mkF m 96 #[.val (.ref ad), .val (.int (5 : Int32)), .unset, .unset, .unset] [(.int (1 : Int32)), (.ref ad)])) := by
    refine S34.trans ?_
    refine XS.ifYes X33.here hx rfl (pc0 := 88) (pc' := 94) rfl (hb hby d2_88) rfl (XT.i0_eq_t (by decide)) (by decide) (by decide) ?_
    show Steps p.tables e below (T33.setTop (mkF m 94 #[.val (.ref ad), .val (.int (5 : Int32)), .unset, .unset, .unset] [])) _
    refine XS.aloadN X33.here hx rfl (hb hby d2_94) rfl rfl ?_
    show Steps p.tables e below (T33.setTop (mkF m 95 #[.val (.ref ad), .val (.int (5 : Int32)), .unset, .unset, .unset] [(.ref ad)])) _
    refine XS.iconst X33.here hx rfl (hb hby d2_95) ?_
    exact Steps.refl _
  obtain ⟨cq36, kq36, q36a, q36b, q36c⟩ := isOf hZ e33 (own_exa LS_31)
  obtain ⟨v36, T36, X36, e36, hv36, st36⟩ := own_callP X33 hx (y := (⟨"java/lang/String", "charAt", "(I)C"⟩ : MethodName)) hown (mvT hZ (hw _ (List.mem_of_getElem? (i := 30) rfl))) (mvT hZ (hw _ (List.mem_of_getElem? (i := 31) rfl))) (mvT hZ (hw _ (List.mem_of_getElem? (i := 33) rfl))) (mvT hZ (hw _ (List.mem_of_getElem? (i := 32) rfl))) (by decide) (Qv := fun v => v = some (.int (35 : Int32))) (own_ch0 (W := 0) (i := 1) hZ hw (hw _ (List.mem_of_getElem? (i := 7) rfl)) LS_31 own_hb_lf (by decide) O2_31 hz O4_31 rf (by decide) rfl (d := (35 : Int32)) rfl (by decide) (by decide)) q36a q36c (g := (mkF m 96 #[.val (.ref ad), .val (.int (5 : Int32)), .unset, .unset, .unset] [(.int (1 : Int32)), (.ref ad)])) rfl (by rw [hml]; rfl) (argsL := [(.int (1 : Int32))]) (rest := []) (lenOf pd_0 rfl) rfl (by show 2 * 0 + _ ≤ _; exact Nat.le_of_eq rfl) (hb hby d2_96) ⟨rfl, e33, (by decide), (by decide)⟩
  rw [hv36] at st36
  have S37 : Steps p.tables e below Ω (T36.setTop (mkF m 99 #[.val (.ref ad), .val (.int (5 : Int32)), .unset, .unset, .unset] [(.int (35 : Int32))])) := S35.trans st36
  have S38 : Steps p.tables e below Ω (T36.setTop (mkF m 114 #[.val (.ref ad), .val (.int (5 : Int32)), .unset, .unset, .unset] [(.int (2 : Int32)), (.ref ad)])) := by
    refine S37.trans ?_
    refine XS.bipush X36.here hx rfl (hb hby d2_99) ?_
    show Steps p.tables e below (T36.setTop (mkF m 101 #[.val (.ref ad), .val (.int (5 : Int32)), .unset, .unset, .unset] [(.int (35 : Int32)), (.int (35 : Int32))])) _
    refine XS.icmpNo X36.here hx rfl (hb hby d2_101) rfl (XT.ii_ne_f (by decide)) ?_
    show Steps p.tables e below (T36.setTop (mkF m 104 #[.val (.ref ad), .val (.int (5 : Int32)), .unset, .unset, .unset] [])) _
    refine XS.iloadN X36.here hx rfl (hb hby d2_104) rfl ?_
    show Steps p.tables e below (T36.setTop (mkF m 105 #[.val (.ref ad), .val (.int (5 : Int32)), .unset, .unset, .unset] [(.int (5 : Int32))])) _
    refine XS.bipush X36.here hx rfl (hb hby d2_105) ?_
    show Steps p.tables e below (T36.setTop (mkF m 107 #[.val (.ref ad), .val (.int (5 : Int32)), .unset, .unset, .unset] [(.int (6 : Int32)), (.int (5 : Int32))])) _
    refine XS.icmpYes X36.here hx rfl (pc0 := 107) (pc' := 112) rfl (hb hby d2_107) rfl (XT.ii_le_t (by decide)) (by decide) (by decide) ?_
    show Steps p.tables e below (T36.setTop (mkF m 112 #[.val (.ref ad), .val (.int (5 : Int32)), .unset, .unset, .unset] [])) _
    refine XS.aloadN X36.here hx rfl (hb hby d2_112) rfl rfl ?_
    show Steps p.tables e below (T36.setTop (mkF m 113 #[.val (.ref ad), .val (.int (5 : Int32)), .unset, .unset, .unset] [(.ref ad)])) _
    refine XS.iconst X36.here hx rfl (hb hby d2_113) ?_
    exact Steps.refl _
  obtain ⟨v39, T39, X39, e39, hv39, st39⟩ := own_callQ X36 hx (y := (⟨"com/example/distill_trees/distilltrees/io/XmlWriterReferencePinLaw", "digit", "(Ljava/lang/String;I)I"⟩ : MethodName)) hown (mvT hZ (hw _ (List.mem_of_getElem? (i := 69) rfl))) (mvT hZ (hw _ (List.mem_of_getElem? (i := 70) rfl))) (mvT hZ (hw _ (List.mem_of_getElem? (i := 15) rfl))) (mvT hZ (hw _ (List.mem_of_getElem? (i := 71) rfl))) (by decide) (Qv := fun v => v = some (.int ((49 : Int32) - 48))) (backOf (W := 0) (rm12 l Z a0 hw [] ad (2 : Int32) ([38, 35, 49, 48, 59] : List Int32) 2 (49 : Int32) z fm h31 n0 (Nat.le_trans (Nat.le_trans (Nat.le_trans (Nat.le_trans (Nat.le_trans Z0 E11.1) E16.1) E21.1) E26.1) E31.1) LS_31 own_hb_lf (by decide) O2_31 hz O4_31 rf (by decide) rfl rfl (by decide) (by decide)) hZ (hw _ (List.mem_of_getElem? (i := 71) rfl)) (hw _ (List.mem_of_getElem? (i := 15) rfl)) (by decide) (by decide)) (g := (mkF m 114 #[.val (.ref ad), .val (.int (5 : Int32)), .unset, .unset, .unset] [(.int (2 : Int32)), (.ref ad)])) rfl (by rw [hml]; rfl) (argsL := [(.ref ad), (.int (2 : Int32))]) (rest := []) (lenOf pd_3 rfl) rfl (by show 2 * 0 + _ ≤ _; exact Nat.le_of_eq rfl) (hb hby d2_114) ⟨rfl, e36, (by decide), (by decide)⟩
  have hv39 : v39 = some (.int (1 : Int32)) := hv39
  rw [hv39] at st39
  have S40 : Steps p.tables e below Ω (T39.setTop (mkF m 117 #[.val (.ref ad), .val (.int (5 : Int32)), .unset, .unset, .unset] [(.int (1 : Int32))])) := S38.trans st39
  have S41 : Steps p.tables e below Ω (T39.setTop (mkF m 133 #[.val (.ref ad), .val (.int (5 : Int32)), .val (.int (1 : Int32)), .val (.int (1 : Int32)), .unset] [(.int (3 : Int32)), (.ref ad)])) := by
    refine S40.trans ?_
    refine XS.istoreN X39.here hx rfl (hb hby d2_117) rfl (l' := #[.val (.ref ad), .val (.int (5 : Int32)), .val (.int (1 : Int32)), .unset, .unset]) rfl ?_
    show Steps p.tables e below (T39.setTop (mkF m 118 #[.val (.ref ad), .val (.int (5 : Int32)), .val (.int (1 : Int32)), .unset, .unset] [])) _
    refine XS.iloadN X39.here hx rfl (hb hby d2_118) rfl ?_
    show Steps p.tables e below (T39.setTop (mkF m 119 #[.val (.ref ad), .val (.int (5 : Int32)), .val (.int (1 : Int32)), .unset, .unset] [(.int (1 : Int32))])) _
    refine XS.ifYes X39.here hx rfl (pc0 := 119) (pc' := 124) rfl (hb hby d2_119) rfl (XT.i0_ge_t (by decide)) (by decide) (by decide) ?_
    show Steps p.tables e below (T39.setTop (mkF m 124 #[.val (.ref ad), .val (.int (5 : Int32)), .val (.int (1 : Int32)), .unset, .unset] [])) _
    refine XS.iloadN X39.here hx rfl (hb hby d2_124) rfl ?_
    show Steps p.tables e below (T39.setTop (mkF m 125 #[.val (.ref ad), .val (.int (5 : Int32)), .val (.int (1 : Int32)), .unset, .unset] [(.int (1 : Int32))])) _
    refine XS.istoreN X39.here hx rfl (hb hby d2_125) rfl (l' := #[.val (.ref ad), .val (.int (5 : Int32)), .val (.int (1 : Int32)), .val (.int (1 : Int32)), .unset]) rfl ?_
    show Steps p.tables e below (T39.setTop (mkF m 126 #[.val (.ref ad), .val (.int (5 : Int32)), .val (.int (1 : Int32)), .val (.int (1 : Int32)), .unset] [])) _
    refine XS.iloadN X39.here hx rfl (hb hby d2_126) rfl ?_
    show Steps p.tables e below (T39.setTop (mkF m 127 #[.val (.ref ad), .val (.int (5 : Int32)), .val (.int (1 : Int32)), .val (.int (1 : Int32)), .unset] [(.int (5 : Int32))])) _
    refine XS.iconst X39.here hx rfl (hb hby d2_127) ?_
    show Steps p.tables e below (T39.setTop (mkF m 128 #[.val (.ref ad), .val (.int (5 : Int32)), .val (.int (1 : Int32)), .val (.int (1 : Int32)), .unset] [(.int (5 : Int32)), (.int (5 : Int32))])) _
    refine XS.icmpNo X39.here hx rfl (hb hby d2_128) rfl (XT.ii_lt_f (by decide)) ?_
    show Steps p.tables e below (T39.setTop (mkF m 131 #[.val (.ref ad), .val (.int (5 : Int32)), .val (.int (1 : Int32)), .val (.int (1 : Int32)), .unset] [])) _
    refine XS.aloadN X39.here hx rfl (hb hby d2_131) rfl rfl ?_
    show Steps p.tables e below (T39.setTop (mkF m 132 #[.val (.ref ad), .val (.int (5 : Int32)), .val (.int (1 : Int32)), .val (.int (1 : Int32)), .unset] [(.ref ad)])) _
    refine XS.iconst X39.here hx rfl (hb hby d2_132) ?_
    exact Steps.refl _
  obtain ⟨v42, T42, X42, e42, hv42, st42⟩ := own_callQ X39 hx (y := (⟨"com/example/distill_trees/distilltrees/io/XmlWriterReferencePinLaw", "digit", "(Ljava/lang/String;I)I"⟩ : MethodName)) hown (mvT hZ (hw _ (List.mem_of_getElem? (i := 69) rfl))) (mvT hZ (hw _ (List.mem_of_getElem? (i := 70) rfl))) (mvT hZ (hw _ (List.mem_of_getElem? (i := 15) rfl))) (mvT hZ (hw _ (List.mem_of_getElem? (i := 71) rfl))) (by decide) (Qv := fun v => v = some (.int ((48 : Int32) - 48))) (backOf (W := 0) (rm12 l Z a0 hw [] ad (3 : Int32) ([38, 35, 49, 48, 59] : List Int32) 3 (48 : Int32) z fm h31 n0 (Nat.le_trans (Nat.le_trans (Nat.le_trans (Nat.le_trans (Nat.le_trans Z0 E11.1) E16.1) E21.1) E26.1) E31.1) LS_31 own_hb_lf (by decide) O2_31 hz O4_31 rf (by decide) rfl rfl (by decide) (by decide)) hZ (hw _ (List.mem_of_getElem? (i := 71) rfl)) (hw _ (List.mem_of_getElem? (i := 15) rfl)) (by decide) (by decide)) (g := (mkF m 133 #[.val (.ref ad), .val (.int (5 : Int32)), .val (.int (1 : Int32)), .val (.int (1 : Int32)), .unset] [(.int (3 : Int32)), (.ref ad)])) rfl (by rw [hml]; rfl) (argsL := [(.ref ad), (.int (3 : Int32))]) (rest := []) (lenOf pd_3 rfl) rfl (by show 2 * 0 + _ ≤ _; exact Nat.le_of_eq rfl) (hb hby d2_133) ⟨rfl, e39, (by decide), (by decide)⟩
  have hv42 : v42 = some (.int (0 : Int32)) := hv42
  rw [hv42] at st42
  have S43 : Steps p.tables e below Ω (T42.setTop (mkF m 136 #[.val (.ref ad), .val (.int (5 : Int32)), .val (.int (1 : Int32)), .val (.int (1 : Int32)), .unset] [(.int (0 : Int32))])) := S41.trans st42
  have S44 : Steps p.tables e below Ω (T42.setTop (mkF m 182 #[.val (.ref ad), .val (.int (5 : Int32)), .val (.int (1 : Int32)), .val (.int (10 : Int32)), .val (.int (0 : Int32))] [(.int (10 : Int32))])) := by
    refine S43.trans ?_
    refine XS.istore X42.here hx rfl (hb hby d2_136) rfl (l' := #[.val (.ref ad), .val (.int (5 : Int32)), .val (.int (1 : Int32)), .val (.int (1 : Int32)), .val (.int (0 : Int32))]) rfl ?_
    show Steps p.tables e below (T42.setTop (mkF m 138 #[.val (.ref ad), .val (.int (5 : Int32)), .val (.int (1 : Int32)), .val (.int (1 : Int32)), .val (.int (0 : Int32))] [])) _
    refine XS.iload X42.here hx rfl (hb hby d2_138) rfl ?_
    show Steps p.tables e below (T42.setTop (mkF m 140 #[.val (.ref ad), .val (.int (5 : Int32)), .val (.int (1 : Int32)), .val (.int (1 : Int32)), .val (.int (0 : Int32))] [(.int (0 : Int32))])) _
    refine XS.ifYes X42.here hx rfl (pc0 := 140) (pc' := 145) rfl (hb hby d2_140) rfl (XT.i0_ge_t (by decide)) (by decide) (by decide) ?_
    show Steps p.tables e below (T42.setTop (mkF m 145 #[.val (.ref ad), .val (.int (5 : Int32)), .val (.int (1 : Int32)), .val (.int (1 : Int32)), .val (.int (0 : Int32))] [])) _
    refine XS.iloadN X42.here hx rfl (hb hby d2_145) rfl ?_
    show Steps p.tables e below (T42.setTop (mkF m 146 #[.val (.ref ad), .val (.int (5 : Int32)), .val (.int (1 : Int32)), .val (.int (1 : Int32)), .val (.int (0 : Int32))] [(.int (1 : Int32))])) _
    refine XS.bipush X42.here hx rfl (hb hby d2_146) ?_
    show Steps p.tables e below (T42.setTop (mkF m 148 #[.val (.ref ad), .val (.int (5 : Int32)), .val (.int (1 : Int32)), .val (.int (1 : Int32)), .val (.int (0 : Int32))] [(.int (10 : Int32)), (.int (1 : Int32))])) _
    refine XS.imul X42.here hx rfl (hb hby d2_148) rfl ?_
    show Steps p.tables e below (T42.setTop (mkF m 149 #[.val (.ref ad), .val (.int (5 : Int32)), .val (.int (1 : Int32)), .val (.int (1 : Int32)), .val (.int (0 : Int32))] [(.int (10 : Int32))])) _
    refine XS.iload X42.here hx rfl (hb hby d2_149) rfl ?_
    show Steps p.tables e below (T42.setTop (mkF m 151 #[.val (.ref ad), .val (.int (5 : Int32)), .val (.int (1 : Int32)), .val (.int (1 : Int32)), .val (.int (0 : Int32))] [(.int (0 : Int32)), (.int (10 : Int32))])) _
    refine XS.iadd X42.here hx rfl (hb hby d2_151) rfl ?_
    show Steps p.tables e below (T42.setTop (mkF m 152 #[.val (.ref ad), .val (.int (5 : Int32)), .val (.int (1 : Int32)), .val (.int (1 : Int32)), .val (.int (0 : Int32))] [(.int (10 : Int32))])) _
    refine XS.istoreN X42.here hx rfl (hb hby d2_152) rfl (l' := #[.val (.ref ad), .val (.int (5 : Int32)), .val (.int (1 : Int32)), .val (.int (10 : Int32)), .val (.int (0 : Int32))]) rfl ?_
    show Steps p.tables e below (T42.setTop (mkF m 153 #[.val (.ref ad), .val (.int (5 : Int32)), .val (.int (1 : Int32)), .val (.int (10 : Int32)), .val (.int (0 : Int32))] [])) _
    refine XS.iloadN X42.here hx rfl (hb hby d2_153) rfl ?_
    show Steps p.tables e below (T42.setTop (mkF m 154 #[.val (.ref ad), .val (.int (5 : Int32)), .val (.int (1 : Int32)), .val (.int (10 : Int32)), .val (.int (0 : Int32))] [(.int (5 : Int32))])) _
    refine XS.bipush X42.here hx rfl (hb hby d2_154) ?_
    show Steps p.tables e below (T42.setTop (mkF m 156 #[.val (.ref ad), .val (.int (5 : Int32)), .val (.int (1 : Int32)), .val (.int (10 : Int32)), .val (.int (0 : Int32))] [(.int (6 : Int32)), (.int (5 : Int32))])) _
    refine XS.icmpYes X42.here hx rfl (pc0 := 156) (pc' := 181) rfl (hb hby d2_156) rfl (XT.ii_ne_t (by decide)) (by decide) (by decide) ?_
    show Steps p.tables e below (T42.setTop (mkF m 181 #[.val (.ref ad), .val (.int (5 : Int32)), .val (.int (1 : Int32)), .val (.int (10 : Int32)), .val (.int (0 : Int32))] [])) _
    refine XS.iloadN X42.here hx rfl (hb hby d2_181) rfl ?_
    exact Steps.refl _
  obtain ⟨fs, hr, hrun, hended, hend⟩ := Stand.leaveW (s := s) (vm₁ := T31.vm) X42 hS31 (by rw [e42]; exact hk31) (v := some (.int (10 : Int32))) (fun h => by rw [Bd.returns] at h; cases h)
  have hfin : Steps p.tables e below Ω (T42.setFrames fs) := by
    refine S44.trans ?_
    exact retI X42 hx Bd.returns (hb hby d2_182) hr
  rw [hΩ] at hfin
  have CHe : CHr Z consts_1 s.vm s.heap T42.vm T42.heap := by
    rw [hh, e42]
    exact CHr.trans CH31 (CHv.at (s := s) (vm0 := T31.vm) X42 hZ (own_lk hw) CH31.1)
  refine ⟨_, _, hfin, hrun, hended, _, _, rfl, ?_, CHe, hend.1, hend.2.1, hend.2.2.1, hend.2.2.2.mono (by decide) (by decide)⟩
  show Q2lf Z ad z fm h0 n0 _ T42.heap _
  rw [e42]
  exact ⟨rfl, N0⟩
theorem ef_rm2cr (m : MethodId) (x0 : Addr) : entryFrame m #[(.ref x0)] 5 = mkF m 0 #[.val (.ref x0), .unset, .unset, .unset, .unset] [] := by first | (simp [entryFrame, mkF, argsToLocals, Value.category]; done) | rfl
def Q2cr (Z : State) (ad : Addr) (z : Int32) (fm : Value) (h0 : Heap) (n0 : Nat) (v : Option Value) (h : Heap) (L : List Loc) : Prop := v = some (.int (13 : Int32)) ∧ Fr n0 L
set_option maxRecDepth 65536 in
set_option maxHeartbeats 40000000 in
theorem rm2cr (l : Launch) (Z : State) (a0 : Array Value) (hw : ∀ d ∈ tables_1, d.before a0 Z = true) (ws : List Jvm.Cond) (ad : Addr) (z : Int32) (fm : Value) (h0 : Heap) (n0 : Nat) (Z0 : n0 ≤ h0.size) (E0 : LS Z h0 ad ([38, 35, 49, 51, 59] : List Int32)) (O2 : Sta Z h0 "java/lang/String" "COMPACT_STRINGS" "Z" (.int z)) (hz : ¬ z = 0) (O4 : Sta Z h0 "jdk/internal/util/Preconditions" "SIOOBE_FORMATTER" "Ljava/util/function/BiFunction;" fm) (rf : fm.isRef = true) :
    MetFree l (⟨"com/example/distill_trees/distilltrees/io/XmlWriterReferencePinLaw", "decode", "(Ljava/lang/String;)I"⟩ : MethodName) (head1 (Jvm.Cond.code (⟨"com/example/distill_trees/distilltrees/io/XmlWriterReferencePinLaw", "decode", "(Ljava/lang/String;)I"⟩ : MethodName) method_4_code 5 (some .int) :: ws) ({ frames := 5, cells := 10, slots := 120, locals := 67 } : Room)) (fun aa U => aa = #[(.ref ad)] ∧ Z.Warmed39 U.vm ∧ U.heap = h0 ∧ CHv Z consts_1 U.vm h0) (fun _ _ _ _ _ => True) (fun _ U o U' => ∃ v L, o = .returned v ∧ Q2cr Z ad z fm h0 n0 v U'.heap L ∧ CHr Z consts_1 U.vm U.heap U'.vm U'.heap ∧ ReturnedEndW U o U' L ({ frames := 5, cells := 10, slots := 120, locals := 67 } : Room).cells ({ frames := 5, cells := 10, slots := 120, locals := 67 } : Room).slots) := by
  refine MetFree.of_bodySF (plainFor_of_name pn_0) hisR ?_
  intro p e s m args below meth c s₁ Bd hml0 hP hK
  obtain ⟨rfl, hZ, hh, HS⟩ := hP
  have hZs := hZ
  have hx := Bd.exec
  have hby := Bd.bytes
  have hml : c.maxLocals = 5 := hml0
  have hown : s.vm.findClass "com/example/distill_trees/distilltrees/io/XmlWriterReferencePinLaw" = some m.cls := findClass_of_methodNamed Bd.named
  have hnm := (name_of_methodNamed Bd.named Bd.method).1
  have X0 : Stand p l e ({ frames := 5, cells := 10, slots := 120, locals := 67 } : Room) s m #[(.ref ad)] below meth c s₁ [] 0 0 := Stand.of_body Bd
  have e0 : s₁.heap = h0 := by rw [← hh, Bd.state]; rfl
  have N0 := Fr.nil n0
  obtain ⟨Ω, hΩ⟩ : ∃ z, z = s₁.setTop (entryFrame m #[(.ref ad)] 5) := ⟨_, rfl⟩
  have S0 : Steps p.tables e below Ω (s₁.setTop (mkF m 0 #[.val (.ref ad), .unset, .unset, .unset, .unset] [])) := by rw [hΩ]; exact castTop (ef_rm2cr m ad) (Steps.refl _)
  have hS0 : s.Since s.vm h0.size := (State.WarmedH.refl s).since _
  have CH0 : CHr Z consts_1 s.vm h0 s.vm h0 := CHr.refl HS
  have S1 : Steps p.tables e below Ω (s₁.setTop (mkF m 1 #[.val (.ref ad), .unset, .unset, .unset, .unset] [(.ref ad)])) := by
    refine S0.trans ?_
    refine XS.aloadN X0.here hx rfl (hb hby d2_0) rfl rfl ?_
    exact Steps.refl _
  obtain ⟨cq2, kq2, q2a, q2b, q2c⟩ := isOf hZ e0 (own_exa E0)
  obtain ⟨v2, T2, X2, e2, hv2, st2⟩ := own_callP X0 hx (y := (⟨"java/lang/String", "length", "()I"⟩ : MethodName)) hown (mvT hZ (hw _ (List.mem_of_getElem? (i := 17) rfl))) (mvT hZ (hw _ (List.mem_of_getElem? (i := 18) rfl))) (mvT hZ (hw _ (List.mem_of_getElem? (i := 20) rfl))) (mvT hZ (hw _ (List.mem_of_getElem? (i := 19) rfl))) (by decide) (Qv := fun v => v = some (.int (Int32.ofNat (([38, 35, 49, 51, 59] : List Int32)).length))) (own_len0 (W := 0) hZ hw (hw _ (List.mem_of_getElem? (i := 7) rfl)) E0 own_hb_cr (by decide) O2 hz (by decide) (by decide)) q2a q2c (g := (mkF m 1 #[.val (.ref ad), .unset, .unset, .unset, .unset] [(.ref ad)])) rfl (by rw [hml]; rfl) (argsL := []) (rest := []) (lenOf pd_1 rfl) rfl (by show 2 * 0 + _ ≤ _; exact Nat.le_of_eq rfl) (hb hby d2_1) ⟨rfl, e0, (by decide), (by decide)⟩
  rw [hv2] at st2
  have S3 : Steps p.tables e below Ω (T2.setTop (mkF m 4 #[.val (.ref ad), .unset, .unset, .unset, .unset] [(.int (5 : Int32))])) := S1.trans st2
  have S4 : Steps p.tables e below Ω (T2.setTop (mkF m 12 #[.val (.ref ad), .val (.int (5 : Int32)), .unset, .unset, .unset] [(.int (0 : Int32)), (.ref ad)])) := by
    refine S3.trans ?_
    refine XS.istoreN X2.here hx rfl (hb hby d2_4) rfl (l' := #[.val (.ref ad), .val (.int (5 : Int32)), .unset, .unset, .unset]) rfl ?_
    show Steps p.tables e below (T2.setTop (mkF m 5 #[.val (.ref ad), .val (.int (5 : Int32)), .unset, .unset, .unset] [])) _
    refine XS.iloadN X2.here hx rfl (hb hby d2_5) rfl ?_
    show Steps p.tables e below (T2.setTop (mkF m 6 #[.val (.ref ad), .val (.int (5 : Int32)), .unset, .unset, .unset] [(.int (5 : Int32))])) _
    refine XS.iconst X2.here hx rfl (hb hby d2_6) ?_
    show Steps p.tables e below (T2.setTop (mkF m 7 #[.val (.ref ad), .val (.int (5 : Int32)), .unset, .unset, .unset] [(.int (4 : Int32)), (.int (5 : Int32))])) _
    refine XS.icmpNo X2.here hx rfl (hb hby d2_7) rfl (XT.ii_lt_f (by decide)) ?_
    show Steps p.tables e below (T2.setTop (mkF m 10 #[.val (.ref ad), .val (.int (5 : Int32)), .unset, .unset, .unset] [])) _
    refine XS.aloadN X2.here hx rfl (hb hby d2_10) rfl rfl ?_
    show Steps p.tables e below (T2.setTop (mkF m 11 #[.val (.ref ad), .val (.int (5 : Int32)), .unset, .unset, .unset] [(.ref ad)])) _
    refine XS.iconst X2.here hx rfl (hb hby d2_11) ?_
    exact Steps.refl _
  obtain ⟨cq5, kq5, q5a, q5b, q5c⟩ := isOf hZ e2 (own_exa E0)
  obtain ⟨v5, T5, X5, e5, hv5, st5⟩ := own_callP X2 hx (y := (⟨"java/lang/String", "charAt", "(I)C"⟩ : MethodName)) hown (mvT hZ (hw _ (List.mem_of_getElem? (i := 30) rfl))) (mvT hZ (hw _ (List.mem_of_getElem? (i := 31) rfl))) (mvT hZ (hw _ (List.mem_of_getElem? (i := 33) rfl))) (mvT hZ (hw _ (List.mem_of_getElem? (i := 32) rfl))) (by decide) (Qv := fun v => v = some (.int (38 : Int32))) (own_ch0 (W := 0) (i := 0) hZ hw (hw _ (List.mem_of_getElem? (i := 7) rfl)) E0 own_hb_cr (by decide) O2 hz O4 rf (by decide) rfl (d := (38 : Int32)) rfl (by decide) (by decide)) q5a q5c (g := (mkF m 12 #[.val (.ref ad), .val (.int (5 : Int32)), .unset, .unset, .unset] [(.int (0 : Int32)), (.ref ad)])) rfl (by rw [hml]; rfl) (argsL := [(.int (0 : Int32))]) (rest := []) (lenOf pd_0 rfl) rfl (by show 2 * 0 + _ ≤ _; exact Nat.le_of_eq rfl) (hb hby d2_12) ⟨rfl, e2, (by decide), (by decide)⟩
  rw [hv5] at st5
  have S6 : Steps p.tables e below Ω (T5.setTop (mkF m 15 #[.val (.ref ad), .val (.int (5 : Int32)), .unset, .unset, .unset] [(.int (38 : Int32))])) := S4.trans st5
  have S7 : Steps p.tables e below Ω (T5.setTop (mkF m 24 #[.val (.ref ad), .val (.int (5 : Int32)), .unset, .unset, .unset] [(.int (4 : Int32)), (.ref ad)])) := by
    refine S6.trans ?_
    refine XS.bipush X5.here hx rfl (hb hby d2_15) ?_
    show Steps p.tables e below (T5.setTop (mkF m 17 #[.val (.ref ad), .val (.int (5 : Int32)), .unset, .unset, .unset] [(.int (38 : Int32)), (.int (38 : Int32))])) _
    refine XS.icmpNo X5.here hx rfl (hb hby d2_17) rfl (XT.ii_ne_f (by decide)) ?_
    show Steps p.tables e below (T5.setTop (mkF m 20 #[.val (.ref ad), .val (.int (5 : Int32)), .unset, .unset, .unset] [])) _
    refine XS.aloadN X5.here hx rfl (hb hby d2_20) rfl rfl ?_
    show Steps p.tables e below (T5.setTop (mkF m 21 #[.val (.ref ad), .val (.int (5 : Int32)), .unset, .unset, .unset] [(.ref ad)])) _
    refine XS.iloadN X5.here hx rfl (hb hby d2_21) rfl ?_
    show Steps p.tables e below (T5.setTop (mkF m 22 #[.val (.ref ad), .val (.int (5 : Int32)), .unset, .unset, .unset] [(.int (5 : Int32)), (.ref ad)])) _
    refine XS.iconst X5.here hx rfl (hb hby d2_22) ?_
    show Steps p.tables e below (T5.setTop (mkF m 23 #[.val (.ref ad), .val (.int (5 : Int32)), .unset, .unset, .unset] [(.int (1 : Int32)), (.int (5 : Int32)), (.ref ad)])) _
    refine XS.isub X5.here hx rfl (hb hby d2_23) rfl ?_
    exact Steps.refl _
  obtain ⟨cq8, kq8, q8a, q8b, q8c⟩ := isOf hZ e5 (own_exa E0)
  obtain ⟨v8, T8, X8, e8, hv8, st8⟩ := own_callP X5 hx (y := (⟨"java/lang/String", "charAt", "(I)C"⟩ : MethodName)) hown (mvT hZ (hw _ (List.mem_of_getElem? (i := 30) rfl))) (mvT hZ (hw _ (List.mem_of_getElem? (i := 31) rfl))) (mvT hZ (hw _ (List.mem_of_getElem? (i := 33) rfl))) (mvT hZ (hw _ (List.mem_of_getElem? (i := 32) rfl))) (by decide) (Qv := fun v => v = some (.int (59 : Int32))) (own_ch0 (W := 0) (i := 4) hZ hw (hw _ (List.mem_of_getElem? (i := 7) rfl)) E0 own_hb_cr (by decide) O2 hz O4 rf (by decide) rfl (d := (59 : Int32)) rfl (by decide) (by decide)) q8a q8c (g := (mkF m 24 #[.val (.ref ad), .val (.int (5 : Int32)), .unset, .unset, .unset] [(.int (4 : Int32)), (.ref ad)])) rfl (by rw [hml]; rfl) (argsL := [(.int (4 : Int32))]) (rest := []) (lenOf pd_0 rfl) rfl (by show 2 * 0 + _ ≤ _; exact Nat.le_of_eq rfl) (hb hby d2_24) ⟨rfl, e5, (by decide), (by decide)⟩
  rw [hv8] at st8
  have S9 : Steps p.tables e below Ω (T8.setTop (mkF m 27 #[.val (.ref ad), .val (.int (5 : Int32)), .unset, .unset, .unset] [(.int (59 : Int32))])) := S7.trans st8
  have S10 : Steps p.tables e below Ω (T8.setTop (mkF m 35 #[.val (.ref ad), .val (.int (5 : Int32)), .unset, .unset, .unset] [(.ref ad)])) := by
    refine S9.trans ?_
    refine XS.bipush X8.here hx rfl (hb hby d2_27) ?_
    show Steps p.tables e below (T8.setTop (mkF m 29 #[.val (.ref ad), .val (.int (5 : Int32)), .unset, .unset, .unset] [(.int (59 : Int32)), (.int (59 : Int32))])) _
    refine XS.icmpYes X8.here hx rfl (pc0 := 29) (pc' := 34) rfl (hb hby d2_29) rfl (XT.ii_eq_t (by decide)) (by decide) (by decide) ?_
    show Steps p.tables e below (T8.setTop (mkF m 34 #[.val (.ref ad), .val (.int (5 : Int32)), .unset, .unset, .unset] [])) _
    refine XS.aloadN X8.here hx rfl (hb hby d2_34) rfl rfl ?_
    exact Steps.refl _
  obtain ⟨a11, T11, h11, kb11, X11, e11, E11, hS11, hk11, hZ, hown, L11, C11, st11⟩ := own_ldcC (s := s) (vm0 := s.vm) X8 hx hZ hown (hw _ (List.mem_of_getElem? (i := 52) rfl)) own_tx_amp (own_wS hw) e8 hS0 (Nat.le_refl h0.size) (own_lk hw) (List.mem_of_getElem? (i := 7) rfl) CH0.1 (g := (mkF m 35 #[.val (.ref ad), .val (.int (5 : Int32)), .unset, .unset, .unset] [(.ref ad)])) rfl (hb hby d2_35) (n := 20) (by decide) (by decide) (by decide) (by decide)
  have CH11 := CHr.trans CH0 C11
  have S12 : Steps p.tables e below Ω (T11.setTop (mkF m 37 #[.val (.ref ad), .val (.int (5 : Int32)), .unset, .unset, .unset] [(.ref a11), (.ref ad)])) := S10.trans (st11 _ (Steps.refl _))
  have LS_11 := E0.ext E11
  have O2_11 := O2.ext E11
  have O4_11 := O4.ext E11
  obtain ⟨cq13, kq13, q13a, q13b, q13c⟩ := isOf hZ e11 (own_exa LS_11)
  obtain ⟨v13, T13, X13, e13, hv13, st13⟩ := own_callP X11 hx (y := (⟨"java/lang/String", "equals", "(Ljava/lang/Object;)Z"⟩ : MethodName)) hown (mvT hZ (hw _ (List.mem_of_getElem? (i := 53) rfl))) (mvT hZ (hw _ (List.mem_of_getElem? (i := 54) rfl))) (mvT hZ (hw _ (List.mem_of_getElem? (i := 56) rfl))) (mvT hZ (hw _ (List.mem_of_getElem? (i := 55) rfl))) (by decide) (Qv := fun v => (v = some (.int 1) ∧ ([38, 35, 49, 51, 59] : List Int32) = ([38, 97, 109, 112, 59] : List Int32)) ∨ (v = some (.int 0) ∧ ¬ ([38, 35, 49, 51, 59] : List Int32) = ([38, 97, 109, 112, 59] : List Int32))) (own_eq0 (W := 0) hZ hw (hw _ (List.mem_of_getElem? (i := 7) rfl)) LS_11 own_hb_cr (by decide) L11 own_hb_amp (by decide) O2_11 hz (by decide) (by decide)) q13a q13c (g := (mkF m 37 #[.val (.ref ad), .val (.int (5 : Int32)), .unset, .unset, .unset] [(.ref a11), (.ref ad)])) rfl (by rw [hml]; rfl) (argsL := [(.ref a11)]) (rest := []) (lenOf pd_2 rfl) rfl (by show 2 * 0 + _ ≤ _; exact Nat.le_of_eq rfl) (hb hby d2_37) ⟨rfl, e11, (by decide), (by decide)⟩
  have hv13 : v13 = some (.int (0 : Int32)) := hv13.elim (fun q => absurd q.2 (by decide)) (fun q => q.1)
  rw [hv13] at st13
  have S14 : Steps p.tables e below Ω (T13.setTop (mkF m 40 #[.val (.ref ad), .val (.int (5 : Int32)), .unset, .unset, .unset] [(.int (0 : Int32))])) := S12.trans st13
  have S15 : Steps p.tables e below Ω (T13.setTop (mkF m 47 #[.val (.ref ad), .val (.int (5 : Int32)), .unset, .unset, .unset] [(.ref ad)])) := by
    refine S14.trans ?_
    refine XS.ifYes X13.here hx rfl (pc0 := 40) (pc' := 46) rfl (hb hby d2_40) rfl (XT.i0_eq_t (by decide)) (by decide) (by decide) ?_
    show Steps p.tables e below (T13.setTop (mkF m 46 #[.val (.ref ad), .val (.int (5 : Int32)), .unset, .unset, .unset] [])) _
    refine XS.aloadN X13.here hx rfl (hb hby d2_46) rfl rfl ?_
    exact Steps.refl _
  obtain ⟨a16, T16, h16, kb16, X16, e16, E16, hS16, hk16, hZ, hown, L16, C16, st16⟩ := own_ldcC (s := s) (vm0 := T11.vm) X13 hx hZ hown (hw _ (List.mem_of_getElem? (i := 63) rfl)) own_tx_lt (own_wS hw) e13 hS11 hk11 (own_lk hw) (List.mem_of_getElem? (i := 8) rfl) CH11.1 (g := (mkF m 47 #[.val (.ref ad), .val (.int (5 : Int32)), .unset, .unset, .unset] [(.ref ad)])) rfl (hb hby d2_47) (n := 16) (by decide) (by decide) (by decide) (by decide)
  have CH16 := CHr.trans CH11 C16
  have S17 : Steps p.tables e below Ω (T16.setTop (mkF m 49 #[.val (.ref ad), .val (.int (5 : Int32)), .unset, .unset, .unset] [(.ref a16), (.ref ad)])) := S15.trans (st16 _ (Steps.refl _))
  have LS_16 := LS_11.ext E16
  have O2_16 := O2_11.ext E16
  have O4_16 := O4_11.ext E16
  obtain ⟨cq18, kq18, q18a, q18b, q18c⟩ := isOf hZ e16 (own_exa LS_16)
  obtain ⟨v18, T18, X18, e18, hv18, st18⟩ := own_callP X16 hx (y := (⟨"java/lang/String", "equals", "(Ljava/lang/Object;)Z"⟩ : MethodName)) hown (mvT hZ (hw _ (List.mem_of_getElem? (i := 53) rfl))) (mvT hZ (hw _ (List.mem_of_getElem? (i := 54) rfl))) (mvT hZ (hw _ (List.mem_of_getElem? (i := 56) rfl))) (mvT hZ (hw _ (List.mem_of_getElem? (i := 55) rfl))) (by decide) (Qv := fun v => (v = some (.int 1) ∧ ([38, 35, 49, 51, 59] : List Int32) = ([38, 108, 116, 59] : List Int32)) ∨ (v = some (.int 0) ∧ ¬ ([38, 35, 49, 51, 59] : List Int32) = ([38, 108, 116, 59] : List Int32))) (own_eq0 (W := 0) hZ hw (hw _ (List.mem_of_getElem? (i := 7) rfl)) LS_16 own_hb_cr (by decide) L16 own_hb_lt (by decide) O2_16 hz (by decide) (by decide)) q18a q18c (g := (mkF m 49 #[.val (.ref ad), .val (.int (5 : Int32)), .unset, .unset, .unset] [(.ref a16), (.ref ad)])) rfl (by rw [hml]; rfl) (argsL := [(.ref a16)]) (rest := []) (lenOf pd_2 rfl) rfl (by show 2 * 0 + _ ≤ _; exact Nat.le_of_eq rfl) (hb hby d2_49) ⟨rfl, e16, (by decide), (by decide)⟩
  have hv18 : v18 = some (.int (0 : Int32)) := hv18.elim (fun q => absurd q.2 (by decide)) (fun q => q.1)
  rw [hv18] at st18
  have S19 : Steps p.tables e below Ω (T18.setTop (mkF m 52 #[.val (.ref ad), .val (.int (5 : Int32)), .unset, .unset, .unset] [(.int (0 : Int32))])) := S17.trans st18
  have S20 : Steps p.tables e below Ω (T18.setTop (mkF m 59 #[.val (.ref ad), .val (.int (5 : Int32)), .unset, .unset, .unset] [(.ref ad)])) := by
    refine S19.trans ?_
    refine XS.ifYes X18.here hx rfl (pc0 := 52) (pc' := 58) rfl (hb hby d2_52) rfl (XT.i0_eq_t (by decide)) (by decide) (by decide) ?_
    show Steps p.tables e below (T18.setTop (mkF m 58 #[.val (.ref ad), .val (.int (5 : Int32)), .unset, .unset, .unset] [])) _
    refine XS.aloadN X18.here hx rfl (hb hby d2_58) rfl rfl ?_
    exact Steps.refl _
  obtain ⟨a21, T21, h21, kb21, X21, e21, E21, hS21, hk21, hZ, hown, L21, C21, st21⟩ := own_ldcC (s := s) (vm0 := T16.vm) X18 hx hZ hown (hw _ (List.mem_of_getElem? (i := 66) rfl)) own_tx_gt (own_wS hw) e18 hS16 hk16 (own_lk hw) (List.mem_of_getElem? (i := 9) rfl) CH16.1 (g := (mkF m 59 #[.val (.ref ad), .val (.int (5 : Int32)), .unset, .unset, .unset] [(.ref ad)])) rfl (hb hby d2_59) (n := 16) (by decide) (by decide) (by decide) (by decide)
  have CH21 := CHr.trans CH16 C21
  have S22 : Steps p.tables e below Ω (T21.setTop (mkF m 61 #[.val (.ref ad), .val (.int (5 : Int32)), .unset, .unset, .unset] [(.ref a21), (.ref ad)])) := S20.trans (st21 _ (Steps.refl _))
  have LS_21 := LS_16.ext E21
  have O2_21 := O2_16.ext E21
  have O4_21 := O4_16.ext E21
  obtain ⟨cq23, kq23, q23a, q23b, q23c⟩ := isOf hZ e21 (own_exa LS_21)
  obtain ⟨v23, T23, X23, e23, hv23, st23⟩ := own_callP X21 hx (y := (⟨"java/lang/String", "equals", "(Ljava/lang/Object;)Z"⟩ : MethodName)) hown (mvT hZ (hw _ (List.mem_of_getElem? (i := 53) rfl))) (mvT hZ (hw _ (List.mem_of_getElem? (i := 54) rfl))) (mvT hZ (hw _ (List.mem_of_getElem? (i := 56) rfl))) (mvT hZ (hw _ (List.mem_of_getElem? (i := 55) rfl))) (by decide) (Qv := fun v => (v = some (.int 1) ∧ ([38, 35, 49, 51, 59] : List Int32) = ([38, 103, 116, 59] : List Int32)) ∨ (v = some (.int 0) ∧ ¬ ([38, 35, 49, 51, 59] : List Int32) = ([38, 103, 116, 59] : List Int32))) (own_eq0 (W := 0) hZ hw (hw _ (List.mem_of_getElem? (i := 7) rfl)) LS_21 own_hb_cr (by decide) L21 own_hb_gt (by decide) O2_21 hz (by decide) (by decide)) q23a q23c (g := (mkF m 61 #[.val (.ref ad), .val (.int (5 : Int32)), .unset, .unset, .unset] [(.ref a21), (.ref ad)])) rfl (by rw [hml]; rfl) (argsL := [(.ref a21)]) (rest := []) (lenOf pd_2 rfl) rfl (by show 2 * 0 + _ ≤ _; exact Nat.le_of_eq rfl) (hb hby d2_61) ⟨rfl, e21, (by decide), (by decide)⟩
  have hv23 : v23 = some (.int (0 : Int32)) := hv23.elim (fun q => absurd q.2 (by decide)) (fun q => q.1)
  rw [hv23] at st23
  have S24 : Steps p.tables e below Ω (T23.setTop (mkF m 64 #[.val (.ref ad), .val (.int (5 : Int32)), .unset, .unset, .unset] [(.int (0 : Int32))])) := S22.trans st23
  have S25 : Steps p.tables e below Ω (T23.setTop (mkF m 71 #[.val (.ref ad), .val (.int (5 : Int32)), .unset, .unset, .unset] [(.ref ad)])) := by
    refine S24.trans ?_
    refine XS.ifYes X23.here hx rfl (pc0 := 64) (pc' := 70) rfl (hb hby d2_64) rfl (XT.i0_eq_t (by decide)) (by decide) (by decide) ?_
    show Steps p.tables e below (T23.setTop (mkF m 70 #[.val (.ref ad), .val (.int (5 : Int32)), .unset, .unset, .unset] [])) _
    refine XS.aloadN X23.here hx rfl (hb hby d2_70) rfl rfl ?_
    exact Steps.refl _
  obtain ⟨a26, T26, h26, kb26, X26, e26, E26, hS26, hk26, hZ, hown, L26, C26, st26⟩ := own_ldcC (s := s) (vm0 := T21.vm) X23 hx hZ hown (hw _ (List.mem_of_getElem? (i := 67) rfl)) own_tx_quot (own_wS hw) e23 hS21 hk21 (own_lk hw) (List.mem_of_getElem? (i := 10) rfl) CH21.1 (g := (mkF m 71 #[.val (.ref ad), .val (.int (5 : Int32)), .unset, .unset, .unset] [(.ref ad)])) rfl (hb hby d2_71) (n := 24) (by decide) (by decide) (by decide) (by decide)
  have CH26 := CHr.trans CH21 C26
  have S27 : Steps p.tables e below Ω (T26.setTop (mkF m 73 #[.val (.ref ad), .val (.int (5 : Int32)), .unset, .unset, .unset] [(.ref a26), (.ref ad)])) := S25.trans (st26 _ (Steps.refl _))
  have LS_26 := LS_21.ext E26
  have O2_26 := O2_21.ext E26
  have O4_26 := O4_21.ext E26
  obtain ⟨cq28, kq28, q28a, q28b, q28c⟩ := isOf hZ e26 (own_exa LS_26)
  obtain ⟨v28, T28, X28, e28, hv28, st28⟩ := own_callP X26 hx (y := (⟨"java/lang/String", "equals", "(Ljava/lang/Object;)Z"⟩ : MethodName)) hown (mvT hZ (hw _ (List.mem_of_getElem? (i := 53) rfl))) (mvT hZ (hw _ (List.mem_of_getElem? (i := 54) rfl))) (mvT hZ (hw _ (List.mem_of_getElem? (i := 56) rfl))) (mvT hZ (hw _ (List.mem_of_getElem? (i := 55) rfl))) (by decide) (Qv := fun v => (v = some (.int 1) ∧ ([38, 35, 49, 51, 59] : List Int32) = ([38, 113, 117, 111, 116, 59] : List Int32)) ∨ (v = some (.int 0) ∧ ¬ ([38, 35, 49, 51, 59] : List Int32) = ([38, 113, 117, 111, 116, 59] : List Int32))) (own_eq0 (W := 0) hZ hw (hw _ (List.mem_of_getElem? (i := 7) rfl)) LS_26 own_hb_cr (by decide) L26 own_hb_quot (by decide) O2_26 hz (by decide) (by decide)) q28a q28c (g := (mkF m 73 #[.val (.ref ad), .val (.int (5 : Int32)), .unset, .unset, .unset] [(.ref a26), (.ref ad)])) rfl (by rw [hml]; rfl) (argsL := [(.ref a26)]) (rest := []) (lenOf pd_2 rfl) rfl (by show 2 * 0 + _ ≤ _; exact Nat.le_of_eq rfl) (hb hby d2_73) ⟨rfl, e26, (by decide), (by decide)⟩
  have hv28 : v28 = some (.int (0 : Int32)) := hv28.elim (fun q => absurd q.2 (by decide)) (fun q => q.1)
  rw [hv28] at st28
  have S29 : Steps p.tables e below Ω (T28.setTop (mkF m 76 #[.val (.ref ad), .val (.int (5 : Int32)), .unset, .unset, .unset] [(.int (0 : Int32))])) := S27.trans st28
  have S30 : Steps p.tables e below Ω (T28.setTop (mkF m 83 #[.val (.ref ad), .val (.int (5 : Int32)), .unset, .unset, .unset] [(.ref ad)])) := by
    refine S29.trans ?_
    refine XS.ifYes X28.here hx rfl (pc0 := 76) (pc' := 82) rfl (hb hby d2_76) rfl (XT.i0_eq_t (by decide)) (by decide) (by decide) ?_
    show Steps p.tables e below (T28.setTop (mkF m 82 #[.val (.ref ad), .val (.int (5 : Int32)), .unset, .unset, .unset] [])) _
    refine XS.aloadN X28.here hx rfl (hb hby d2_82) rfl rfl ?_
    exact Steps.refl _
  obtain ⟨a31, T31, h31, kb31, X31, e31, E31, hS31, hk31, hZ, hown, L31, C31, st31⟩ := own_ldcC (s := s) (vm0 := T26.vm) X28 hx hZ hown (hw _ (List.mem_of_getElem? (i := 68) rfl)) own_tx_apos (own_wS hw) e28 hS26 hk26 (own_lk hw) (List.mem_of_getElem? (i := 11) rfl) CH26.1 (g := (mkF m 83 #[.val (.ref ad), .val (.int (5 : Int32)), .unset, .unset, .unset] [(.ref ad)])) rfl (hb hby d2_83) (n := 24) (by decide) (by decide) (by decide) (by decide)
  have CH31 := CHr.trans CH26 C31
  have S32 : Steps p.tables e below Ω (T31.setTop (mkF m 85 #[.val (.ref ad), .val (.int (5 : Int32)), .unset, .unset, .unset] [(.ref a31), (.ref ad)])) := S30.trans (st31 _ (Steps.refl _))
  have LS_31 := LS_26.ext E31
  have O2_31 := O2_26.ext E31
  have O4_31 := O4_26.ext E31
  obtain ⟨cq33, kq33, q33a, q33b, q33c⟩ := isOf hZ e31 (own_exa LS_31)
  obtain ⟨v33, T33, X33, e33, hv33, st33⟩ := own_callP X31 hx (y := (⟨"java/lang/String", "equals", "(Ljava/lang/Object;)Z"⟩ : MethodName)) hown (mvT hZ (hw _ (List.mem_of_getElem? (i := 53) rfl))) (mvT hZ (hw _ (List.mem_of_getElem? (i := 54) rfl))) (mvT hZ (hw _ (List.mem_of_getElem? (i := 56) rfl))) (mvT hZ (hw _ (List.mem_of_getElem? (i := 55) rfl))) (by decide) (Qv := fun v => (v = some (.int 1) ∧ ([38, 35, 49, 51, 59] : List Int32) = ([38, 97, 112, 111, 115, 59] : List Int32)) ∨ (v = some (.int 0) ∧ ¬ ([38, 35, 49, 51, 59] : List Int32) = ([38, 97, 112, 111, 115, 59] : List Int32))) (own_eq0 (W := 0) hZ hw (hw _ (List.mem_of_getElem? (i := 7) rfl)) LS_31 own_hb_cr (by decide) L31 own_hb_apos (by decide) O2_31 hz (by decide) (by decide)) q33a q33c (g := (mkF m 85 #[.val (.ref ad), .val (.int (5 : Int32)), .unset, .unset, .unset] [(.ref a31), (.ref ad)])) rfl (by rw [hml]; rfl) (argsL := [(.ref a31)]) (rest := []) (lenOf pd_2 rfl) rfl (by show 2 * 0 + _ ≤ _; exact Nat.le_of_eq rfl) (hb hby d2_85) ⟨rfl, e31, (by decide), (by decide)⟩
  have hv33 : v33 = some (.int (0 : Int32)) := hv33.elim (fun q => absurd q.2 (by decide)) (fun q => q.1)
  rw [hv33] at st33
  have S34 : Steps p.tables e below Ω (T33.setTop (mkF m 88 #[.val (.ref ad), .val (.int (5 : Int32)), .unset, .unset, .unset] [(.int (0 : Int32))])) := S32.trans st33
  have S35 : Steps p.tables e below Ω (T33.setTop (mkF m 96 #[.val (.ref ad), .val (.int (5 : Int32)), .unset, .unset, .unset] [(.int (1 : Int32)), (.ref ad)])) := by
    refine S34.trans ?_
    refine XS.ifYes X33.here hx rfl (pc0 := 88) (pc' := 94) rfl (hb hby d2_88) rfl (XT.i0_eq_t (by decide)) (by decide) (by decide) ?_
    show Steps p.tables e below (T33.setTop (mkF m 94 #[.val (.ref ad), .val (.int (5 : Int32)), .unset, .unset, .unset] [])) _
    refine XS.aloadN X33.here hx rfl (hb hby d2_94) rfl rfl ?_
    show Steps p.tables e below (T33.setTop (mkF m 95 #[.val (.ref ad), .val (.int (5 : Int32)), .unset, .unset, .unset] [(.ref ad)])) _
    refine XS.iconst X33.here hx rfl (hb hby d2_95) ?_
    exact Steps.refl _
  obtain ⟨cq36, kq36, q36a, q36b, q36c⟩ := isOf hZ e33 (own_exa LS_31)
  obtain ⟨v36, T36, X36, e36, hv36, st36⟩ := own_callP X33 hx (y := (⟨"java/lang/String", "charAt", "(I)C"⟩ : MethodName)) hown (mvT hZ (hw _ (List.mem_of_getElem? (i := 30) rfl))) (mvT hZ (hw _ (List.mem_of_getElem? (i := 31) rfl))) (mvT hZ (hw _ (List.mem_of_getElem? (i := 33) rfl))) (mvT hZ (hw _ (List.mem_of_getElem? (i := 32) rfl))) (by decide) (Qv := fun v => v = some (.int (35 : Int32))) (own_ch0 (W := 0) (i := 1) hZ hw (hw _ (List.mem_of_getElem? (i := 7) rfl)) LS_31 own_hb_cr (by decide) O2_31 hz O4_31 rf (by decide) rfl (d := (35 : Int32)) rfl (by decide) (by decide)) q36a q36c (g := (mkF m 96 #[.val (.ref ad), .val (.int (5 : Int32)), .unset, .unset, .unset] [(.int (1 : Int32)), (.ref ad)])) rfl (by rw [hml]; rfl) (argsL := [(.int (1 : Int32))]) (rest := []) (lenOf pd_0 rfl) rfl (by show 2 * 0 + _ ≤ _; exact Nat.le_of_eq rfl) (hb hby d2_96) ⟨rfl, e33, (by decide), (by decide)⟩
  rw [hv36] at st36
  have S37 : Steps p.tables e below Ω (T36.setTop (mkF m 99 #[.val (.ref ad), .val (.int (5 : Int32)), .unset, .unset, .unset] [(.int (35 : Int32))])) := S35.trans st36
  have S38 : Steps p.tables e below Ω (T36.setTop (mkF m 114 #[.val (.ref ad), .val (.int (5 : Int32)), .unset, .unset, .unset] [(.int (2 : Int32)), (.ref ad)])) := by
    refine S37.trans ?_
    refine XS.bipush X36.here hx rfl (hb hby d2_99) ?_
    show Steps p.tables e below (T36.setTop (mkF m 101 #[.val (.ref ad), .val (.int (5 : Int32)), .unset, .unset, .unset] [(.int (35 : Int32)), (.int (35 : Int32))])) _
    refine XS.icmpNo X36.here hx rfl (hb hby d2_101) rfl (XT.ii_ne_f (by decide)) ?_
    show Steps p.tables e below (T36.setTop (mkF m 104 #[.val (.ref ad), .val (.int (5 : Int32)), .unset, .unset, .unset] [])) _
    refine XS.iloadN X36.here hx rfl (hb hby d2_104) rfl ?_
    show Steps p.tables e below (T36.setTop (mkF m 105 #[.val (.ref ad), .val (.int (5 : Int32)), .unset, .unset, .unset] [(.int (5 : Int32))])) _
    refine XS.bipush X36.here hx rfl (hb hby d2_105) ?_
    show Steps p.tables e below (T36.setTop (mkF m 107 #[.val (.ref ad), .val (.int (5 : Int32)), .unset, .unset, .unset] [(.int (6 : Int32)), (.int (5 : Int32))])) _
    refine XS.icmpYes X36.here hx rfl (pc0 := 107) (pc' := 112) rfl (hb hby d2_107) rfl (XT.ii_le_t (by decide)) (by decide) (by decide) ?_
    show Steps p.tables e below (T36.setTop (mkF m 112 #[.val (.ref ad), .val (.int (5 : Int32)), .unset, .unset, .unset] [])) _
    refine XS.aloadN X36.here hx rfl (hb hby d2_112) rfl rfl ?_
    show Steps p.tables e below (T36.setTop (mkF m 113 #[.val (.ref ad), .val (.int (5 : Int32)), .unset, .unset, .unset] [(.ref ad)])) _
    refine XS.iconst X36.here hx rfl (hb hby d2_113) ?_
    exact Steps.refl _
  obtain ⟨v39, T39, X39, e39, hv39, st39⟩ := own_callQ X36 hx (y := (⟨"com/example/distill_trees/distilltrees/io/XmlWriterReferencePinLaw", "digit", "(Ljava/lang/String;I)I"⟩ : MethodName)) hown (mvT hZ (hw _ (List.mem_of_getElem? (i := 69) rfl))) (mvT hZ (hw _ (List.mem_of_getElem? (i := 70) rfl))) (mvT hZ (hw _ (List.mem_of_getElem? (i := 15) rfl))) (mvT hZ (hw _ (List.mem_of_getElem? (i := 71) rfl))) (by decide) (Qv := fun v => v = some (.int ((49 : Int32) - 48))) (backOf (W := 0) (rm12 l Z a0 hw [] ad (2 : Int32) ([38, 35, 49, 51, 59] : List Int32) 2 (49 : Int32) z fm h31 n0 (Nat.le_trans (Nat.le_trans (Nat.le_trans (Nat.le_trans (Nat.le_trans Z0 E11.1) E16.1) E21.1) E26.1) E31.1) LS_31 own_hb_cr (by decide) O2_31 hz O4_31 rf (by decide) rfl rfl (by decide) (by decide)) hZ (hw _ (List.mem_of_getElem? (i := 71) rfl)) (hw _ (List.mem_of_getElem? (i := 15) rfl)) (by decide) (by decide)) (g := (mkF m 114 #[.val (.ref ad), .val (.int (5 : Int32)), .unset, .unset, .unset] [(.int (2 : Int32)), (.ref ad)])) rfl (by rw [hml]; rfl) (argsL := [(.ref ad), (.int (2 : Int32))]) (rest := []) (lenOf pd_3 rfl) rfl (by show 2 * 0 + _ ≤ _; exact Nat.le_of_eq rfl) (hb hby d2_114) ⟨rfl, e36, (by decide), (by decide)⟩
  have hv39 : v39 = some (.int (1 : Int32)) := hv39
  rw [hv39] at st39
  have S40 : Steps p.tables e below Ω (T39.setTop (mkF m 117 #[.val (.ref ad), .val (.int (5 : Int32)), .unset, .unset, .unset] [(.int (1 : Int32))])) := S38.trans st39
  have S41 : Steps p.tables e below Ω (T39.setTop (mkF m 133 #[.val (.ref ad), .val (.int (5 : Int32)), .val (.int (1 : Int32)), .val (.int (1 : Int32)), .unset] [(.int (3 : Int32)), (.ref ad)])) := by
    refine S40.trans ?_
    refine XS.istoreN X39.here hx rfl (hb hby d2_117) rfl (l' := #[.val (.ref ad), .val (.int (5 : Int32)), .val (.int (1 : Int32)), .unset, .unset]) rfl ?_
    show Steps p.tables e below (T39.setTop (mkF m 118 #[.val (.ref ad), .val (.int (5 : Int32)), .val (.int (1 : Int32)), .unset, .unset] [])) _
    refine XS.iloadN X39.here hx rfl (hb hby d2_118) rfl ?_
    show Steps p.tables e below (T39.setTop (mkF m 119 #[.val (.ref ad), .val (.int (5 : Int32)), .val (.int (1 : Int32)), .unset, .unset] [(.int (1 : Int32))])) _
    refine XS.ifYes X39.here hx rfl (pc0 := 119) (pc' := 124) rfl (hb hby d2_119) rfl (XT.i0_ge_t (by decide)) (by decide) (by decide) ?_
    show Steps p.tables e below (T39.setTop (mkF m 124 #[.val (.ref ad), .val (.int (5 : Int32)), .val (.int (1 : Int32)), .unset, .unset] [])) _
    refine XS.iloadN X39.here hx rfl (hb hby d2_124) rfl ?_
    show Steps p.tables e below (T39.setTop (mkF m 125 #[.val (.ref ad), .val (.int (5 : Int32)), .val (.int (1 : Int32)), .unset, .unset] [(.int (1 : Int32))])) _
    refine XS.istoreN X39.here hx rfl (hb hby d2_125) rfl (l' := #[.val (.ref ad), .val (.int (5 : Int32)), .val (.int (1 : Int32)), .val (.int (1 : Int32)), .unset]) rfl ?_
    show Steps p.tables e below (T39.setTop (mkF m 126 #[.val (.ref ad), .val (.int (5 : Int32)), .val (.int (1 : Int32)), .val (.int (1 : Int32)), .unset] [])) _
    refine XS.iloadN X39.here hx rfl (hb hby d2_126) rfl ?_
    show Steps p.tables e below (T39.setTop (mkF m 127 #[.val (.ref ad), .val (.int (5 : Int32)), .val (.int (1 : Int32)), .val (.int (1 : Int32)), .unset] [(.int (5 : Int32))])) _
    refine XS.iconst X39.here hx rfl (hb hby d2_127) ?_
    show Steps p.tables e below (T39.setTop (mkF m 128 #[.val (.ref ad), .val (.int (5 : Int32)), .val (.int (1 : Int32)), .val (.int (1 : Int32)), .unset] [(.int (5 : Int32)), (.int (5 : Int32))])) _
    refine XS.icmpNo X39.here hx rfl (hb hby d2_128) rfl (XT.ii_lt_f (by decide)) ?_
    show Steps p.tables e below (T39.setTop (mkF m 131 #[.val (.ref ad), .val (.int (5 : Int32)), .val (.int (1 : Int32)), .val (.int (1 : Int32)), .unset] [])) _
    refine XS.aloadN X39.here hx rfl (hb hby d2_131) rfl rfl ?_
    show Steps p.tables e below (T39.setTop (mkF m 132 #[.val (.ref ad), .val (.int (5 : Int32)), .val (.int (1 : Int32)), .val (.int (1 : Int32)), .unset] [(.ref ad)])) _
    refine XS.iconst X39.here hx rfl (hb hby d2_132) ?_
    exact Steps.refl _
  obtain ⟨v42, T42, X42, e42, hv42, st42⟩ := own_callQ X39 hx (y := (⟨"com/example/distill_trees/distilltrees/io/XmlWriterReferencePinLaw", "digit", "(Ljava/lang/String;I)I"⟩ : MethodName)) hown (mvT hZ (hw _ (List.mem_of_getElem? (i := 69) rfl))) (mvT hZ (hw _ (List.mem_of_getElem? (i := 70) rfl))) (mvT hZ (hw _ (List.mem_of_getElem? (i := 15) rfl))) (mvT hZ (hw _ (List.mem_of_getElem? (i := 71) rfl))) (by decide) (Qv := fun v => v = some (.int ((51 : Int32) - 48))) (backOf (W := 0) (rm12 l Z a0 hw [] ad (3 : Int32) ([38, 35, 49, 51, 59] : List Int32) 3 (51 : Int32) z fm h31 n0 (Nat.le_trans (Nat.le_trans (Nat.le_trans (Nat.le_trans (Nat.le_trans Z0 E11.1) E16.1) E21.1) E26.1) E31.1) LS_31 own_hb_cr (by decide) O2_31 hz O4_31 rf (by decide) rfl rfl (by decide) (by decide)) hZ (hw _ (List.mem_of_getElem? (i := 71) rfl)) (hw _ (List.mem_of_getElem? (i := 15) rfl)) (by decide) (by decide)) (g := (mkF m 133 #[.val (.ref ad), .val (.int (5 : Int32)), .val (.int (1 : Int32)), .val (.int (1 : Int32)), .unset] [(.int (3 : Int32)), (.ref ad)])) rfl (by rw [hml]; rfl) (argsL := [(.ref ad), (.int (3 : Int32))]) (rest := []) (lenOf pd_3 rfl) rfl (by show 2 * 0 + _ ≤ _; exact Nat.le_of_eq rfl) (hb hby d2_133) ⟨rfl, e39, (by decide), (by decide)⟩
  have hv42 : v42 = some (.int (3 : Int32)) := hv42
  rw [hv42] at st42
  have S43 : Steps p.tables e below Ω (T42.setTop (mkF m 136 #[.val (.ref ad), .val (.int (5 : Int32)), .val (.int (1 : Int32)), .val (.int (1 : Int32)), .unset] [(.int (3 : Int32))])) := S41.trans st42
  have S44 : Steps p.tables e below Ω (T42.setTop (mkF m 182 #[.val (.ref ad), .val (.int (5 : Int32)), .val (.int (1 : Int32)), .val (.int (13 : Int32)), .val (.int (3 : Int32))] [(.int (13 : Int32))])) := by
    refine S43.trans ?_
    refine XS.istore X42.here hx rfl (hb hby d2_136) rfl (l' := #[.val (.ref ad), .val (.int (5 : Int32)), .val (.int (1 : Int32)), .val (.int (1 : Int32)), .val (.int (3 : Int32))]) rfl ?_
    show Steps p.tables e below (T42.setTop (mkF m 138 #[.val (.ref ad), .val (.int (5 : Int32)), .val (.int (1 : Int32)), .val (.int (1 : Int32)), .val (.int (3 : Int32))] [])) _
    refine XS.iload X42.here hx rfl (hb hby d2_138) rfl ?_
    show Steps p.tables e below (T42.setTop (mkF m 140 #[.val (.ref ad), .val (.int (5 : Int32)), .val (.int (1 : Int32)), .val (.int (1 : Int32)), .val (.int (3 : Int32))] [(.int (3 : Int32))])) _
    refine XS.ifYes X42.here hx rfl (pc0 := 140) (pc' := 145) rfl (hb hby d2_140) rfl (XT.i0_ge_t (by decide)) (by decide) (by decide) ?_
    show Steps p.tables e below (T42.setTop (mkF m 145 #[.val (.ref ad), .val (.int (5 : Int32)), .val (.int (1 : Int32)), .val (.int (1 : Int32)), .val (.int (3 : Int32))] [])) _
    refine XS.iloadN X42.here hx rfl (hb hby d2_145) rfl ?_
    show Steps p.tables e below (T42.setTop (mkF m 146 #[.val (.ref ad), .val (.int (5 : Int32)), .val (.int (1 : Int32)), .val (.int (1 : Int32)), .val (.int (3 : Int32))] [(.int (1 : Int32))])) _
    refine XS.bipush X42.here hx rfl (hb hby d2_146) ?_
    show Steps p.tables e below (T42.setTop (mkF m 148 #[.val (.ref ad), .val (.int (5 : Int32)), .val (.int (1 : Int32)), .val (.int (1 : Int32)), .val (.int (3 : Int32))] [(.int (10 : Int32)), (.int (1 : Int32))])) _
    refine XS.imul X42.here hx rfl (hb hby d2_148) rfl ?_
    show Steps p.tables e below (T42.setTop (mkF m 149 #[.val (.ref ad), .val (.int (5 : Int32)), .val (.int (1 : Int32)), .val (.int (1 : Int32)), .val (.int (3 : Int32))] [(.int (10 : Int32))])) _
    refine XS.iload X42.here hx rfl (hb hby d2_149) rfl ?_
    show Steps p.tables e below (T42.setTop (mkF m 151 #[.val (.ref ad), .val (.int (5 : Int32)), .val (.int (1 : Int32)), .val (.int (1 : Int32)), .val (.int (3 : Int32))] [(.int (3 : Int32)), (.int (10 : Int32))])) _
    refine XS.iadd X42.here hx rfl (hb hby d2_151) rfl ?_
    show Steps p.tables e below (T42.setTop (mkF m 152 #[.val (.ref ad), .val (.int (5 : Int32)), .val (.int (1 : Int32)), .val (.int (1 : Int32)), .val (.int (3 : Int32))] [(.int (13 : Int32))])) _
    refine XS.istoreN X42.here hx rfl (hb hby d2_152) rfl (l' := #[.val (.ref ad), .val (.int (5 : Int32)), .val (.int (1 : Int32)), .val (.int (13 : Int32)), .val (.int (3 : Int32))]) rfl ?_
    show Steps p.tables e below (T42.setTop (mkF m 153 #[.val (.ref ad), .val (.int (5 : Int32)), .val (.int (1 : Int32)), .val (.int (13 : Int32)), .val (.int (3 : Int32))] [])) _
    refine XS.iloadN X42.here hx rfl (hb hby d2_153) rfl ?_
    show Steps p.tables e below (T42.setTop (mkF m 154 #[.val (.ref ad), .val (.int (5 : Int32)), .val (.int (1 : Int32)), .val (.int (13 : Int32)), .val (.int (3 : Int32))] [(.int (5 : Int32))])) _
    refine XS.bipush X42.here hx rfl (hb hby d2_154) ?_
    show Steps p.tables e below (T42.setTop (mkF m 156 #[.val (.ref ad), .val (.int (5 : Int32)), .val (.int (1 : Int32)), .val (.int (13 : Int32)), .val (.int (3 : Int32))] [(.int (6 : Int32)), (.int (5 : Int32))])) _
    refine XS.icmpYes X42.here hx rfl (pc0 := 156) (pc' := 181) rfl (hb hby d2_156) rfl (XT.ii_ne_t (by decide)) (by decide) (by decide) ?_
    show Steps p.tables e below (T42.setTop (mkF m 181 #[.val (.ref ad), .val (.int (5 : Int32)), .val (.int (1 : Int32)), .val (.int (13 : Int32)), .val (.int (3 : Int32))] [])) _
    refine XS.iloadN X42.here hx rfl (hb hby d2_181) rfl ?_
    exact Steps.refl _
  obtain ⟨fs, hr, hrun, hended, hend⟩ := Stand.leaveW (s := s) (vm₁ := T31.vm) X42 hS31 (by rw [e42]; exact hk31) (v := some (.int (13 : Int32))) (fun h => by rw [Bd.returns] at h; cases h)
  have hfin : Steps p.tables e below Ω (T42.setFrames fs) := by
    refine S44.trans ?_
    exact retI X42 hx Bd.returns (hb hby d2_182) hr
  rw [hΩ] at hfin
  have CHe : CHr Z consts_1 s.vm s.heap T42.vm T42.heap := by
    rw [hh, e42]
    exact CHr.trans CH31 (CHv.at (s := s) (vm0 := T31.vm) X42 hZ (own_lk hw) CH31.1)
  refine ⟨_, _, hfin, hrun, hended, _, _, rfl, ?_, CHe, hend.1, hend.2.1, hend.2.2.1, hend.2.2.2.mono (by decide) (by decide)⟩
  show Q2cr Z ad z fm h0 n0 _ T42.heap _
  rw [e42]
  exact ⟨rfl, N0⟩
theorem d1_0 : decode prog_83_method_3_code 0 = .ok (.iload_n 0, 1) := by decide +kernel
theorem d1_1 : decode prog_83_method_3_code 1 = .ok (.lookupswitch 134 #[(9, 103), (10, 116), (13, 129), (34, 90), (38, 67), (60, 72), (62, 77)], 67) := by decide +kernel
theorem d1_104 : decode prog_83_method_3_code 104 = .ok (.iload_n 1, 1) := by decide +kernel
theorem d1_105 : decode prog_83_method_3_code 105 = .ok (.ifCond .eq 8, 3) := by decide +kernel
theorem d1_108 : decode prog_83_method_3_code 108 = .ok (.ldc 59, 2) := by decide +kernel
theorem d1_110 : decode prog_83_method_3_code 110 = .ok (.goto 26, 3) := by decide +kernel
theorem d1_136 : decode prog_83_method_3_code 136 = .ok (.areturn, 1) := by decide +kernel
theorem d1_113 : decode prog_83_method_3_code 113 = .ok (.aconst_null, 1) := by decide +kernel
theorem d1_114 : decode prog_83_method_3_code 114 = .ok (.goto 22, 3) := by decide +kernel
theorem d1_117 : decode prog_83_method_3_code 117 = .ok (.iload_n 1, 1) := by decide +kernel
theorem d1_118 : decode prog_83_method_3_code 118 = .ok (.ifCond .eq 8, 3) := by decide +kernel
theorem d1_121 : decode prog_83_method_3_code 121 = .ok (.ldc 61, 2) := by decide +kernel
theorem d1_123 : decode prog_83_method_3_code 123 = .ok (.goto 13, 3) := by decide +kernel
theorem d1_126 : decode prog_83_method_3_code 126 = .ok (.aconst_null, 1) := by decide +kernel
theorem d1_127 : decode prog_83_method_3_code 127 = .ok (.goto 9, 3) := by decide +kernel
theorem d1_130 : decode prog_83_method_3_code 130 = .ok (.ldc 63, 2) := by decide +kernel
theorem d1_132 : decode prog_83_method_3_code 132 = .ok (.goto 4, 3) := by decide +kernel
theorem d1_91 : decode prog_83_method_3_code 91 = .ok (.iload_n 1, 1) := by decide +kernel
theorem d1_92 : decode prog_83_method_3_code 92 = .ok (.ifCond .eq 8, 3) := by decide +kernel
theorem d1_95 : decode prog_83_method_3_code 95 = .ok (.ldc 57, 2) := by decide +kernel
theorem d1_97 : decode prog_83_method_3_code 97 = .ok (.goto 39, 3) := by decide +kernel
theorem d1_100 : decode prog_83_method_3_code 100 = .ok (.aconst_null, 1) := by decide +kernel
theorem d1_101 : decode prog_83_method_3_code 101 = .ok (.goto 35, 3) := by decide +kernel
theorem d1_68 : decode prog_83_method_3_code 68 = .ok (.ldc 51, 2) := by decide +kernel
theorem d1_70 : decode prog_83_method_3_code 70 = .ok (.goto 66, 3) := by decide +kernel
theorem d1_73 : decode prog_83_method_3_code 73 = .ok (.ldc 53, 2) := by decide +kernel
theorem d1_75 : decode prog_83_method_3_code 75 = .ok (.goto 61, 3) := by decide +kernel
theorem d1_78 : decode prog_83_method_3_code 78 = .ok (.iload_n 1, 1) := by decide +kernel
theorem d1_79 : decode prog_83_method_3_code 79 = .ok (.ifCond .eq 7, 3) := by decide +kernel
theorem d1_86 : decode prog_83_method_3_code 86 = .ok (.ldc 55, 2) := by decide +kernel
theorem d1_88 : decode prog_83_method_3_code 88 = .ok (.goto 48, 3) := by decide +kernel
theorem d1_82 : decode prog_83_method_3_code 82 = .ok (.aconst_null, 1) := by decide +kernel
theorem d1_83 : decode prog_83_method_3_code 83 = .ok (.goto 53, 3) := by decide +kernel
theorem d1_135 : decode prog_83_method_3_code 135 = .ok (.aconst_null, 1) := by decide +kernel
theorem pn_1 : plainName "com/example/distill_trees/distilltrees/io/XmlWriter" = true := by first | (simp [plainName, overriddenIn]; done) | decide +kernel
theorem ef_rm1 (m : MethodId) (x0 : Int32) (x1 : Int32) : entryFrame m #[(.int x0), (.int x1)] 2 = mkF m 0 #[.val (.int x0), .val (.int x1)] [] := by first | (simp [entryFrame, mkF, argsToLocals, Value.category]; done) | rfl
def Q1 (Z : State) (cx : Int32) (tx : Int32) (h0 : Heap) (n0 : Nat) (v : Option Value) (h : Heap) (L : List Loc) : Prop := Fr n0 L ∧ Ext h0 h ∧ ((v = some .null ∧ ¬ cx = 38 ∧ ¬ cx = 60 ∧ ¬ cx = 13 ∧ (¬ tx = 0 → ¬ cx = 34 ∧ ¬ cx = 9 ∧ ¬ cx = 10) ∧ (tx = 0 → ¬ cx = 62)) ∨ ∃ a, v = some (.ref a) ∧ ((cx = 38 ∧ LS Z h a ([38, 97, 109, 112, 59] : List Int32)) ∨ (cx = 60 ∧ LS Z h a ([38, 108, 116, 59] : List Int32)) ∨ (cx = 13 ∧ LS Z h a ([38, 35, 49, 51, 59] : List Int32)) ∨ (cx = 62 ∧ tx = 0 ∧ LS Z h a ([38, 103, 116, 59] : List Int32)) ∨ (cx = 34 ∧ ¬ tx = 0 ∧ LS Z h a ([38, 113, 117, 111, 116, 59] : List Int32)) ∨ (cx = 9 ∧ ¬ tx = 0 ∧ LS Z h a ([38, 35, 57, 59] : List Int32)) ∨ (cx = 10 ∧ ¬ tx = 0 ∧ LS Z h a ([38, 35, 49, 48, 59] : List Int32))))
set_option maxRecDepth 65536 in
set_option maxHeartbeats 40000000 in
theorem rm1 (l : Launch) (Z : State) (a0 : Array Value) (hw : ∀ d ∈ tables_1, d.before a0 Z = true) (ws : List Jvm.Cond) (cx : Int32) (tx : Int32) (h0 : Heap) (n0 : Nat) (Z0 : n0 ≤ h0.size) :
    MetFree l (⟨"com/example/distill_trees/distilltrees/io/XmlWriter", "reference", "(IZ)Ljava/lang/String;"⟩ : MethodName) (head1 (Jvm.Cond.code (⟨"com/example/distill_trees/distilltrees/io/XmlWriter", "reference", "(IZ)Ljava/lang/String;"⟩ : MethodName) prog_83_method_3_code 2 (some (.object "java/lang/String")) :: ws) ({ frames := 0, cells := 2, slots := 28, locals := 0 } : Room)) (fun aa U => aa = #[(.int cx), (.int tx)] ∧ Z.Warmed39 U.vm ∧ U.heap = h0 ∧ CHv Z consts_1 U.vm h0) (fun _ _ _ _ _ => True) (fun _ U o U' => ∃ v L, o = .returned v ∧ Q1 Z cx tx h0 n0 v U'.heap L ∧ CHr Z consts_1 U.vm U.heap U'.vm U'.heap ∧ ReturnedEndW U o U' L ({ frames := 0, cells := 2, slots := 28, locals := 0 } : Room).cells ({ frames := 0, cells := 2, slots := 28, locals := 0 } : Room).slots) := by
  refine MetFree.of_bodySF (plainFor_of_name pn_1) hisR ?_
  intro p e s m args below meth c s₁ Bd hml0 hP hK
  obtain ⟨rfl, hZ, hh, HS⟩ := hP
  have hZs := hZ
  have hx := Bd.exec
  have hby := Bd.bytes
  have hml : c.maxLocals = 2 := hml0
  have hown : s.vm.findClass "com/example/distill_trees/distilltrees/io/XmlWriter" = some m.cls := findClass_of_methodNamed Bd.named
  have hnm := (name_of_methodNamed Bd.named Bd.method).1
  have X0 : Stand p l e ({ frames := 0, cells := 2, slots := 28, locals := 0 } : Room) s m #[(.int cx), (.int tx)] below meth c s₁ [] 0 0 := Stand.of_body Bd
  have e0 : s₁.heap = h0 := by rw [← hh, Bd.state]; rfl
  have N0 := Fr.nil n0
  obtain ⟨Ω, hΩ⟩ : ∃ z, z = s₁.setTop (entryFrame m #[(.int cx), (.int tx)] 2) := ⟨_, rfl⟩
  have S0 : Steps p.tables e below Ω (s₁.setTop (mkF m 0 #[.val (.int cx), .val (.int tx)] [])) := by rw [hΩ]; exact castTop (ef_rm1 m cx tx) (Steps.refl _)
  have hS0 : s.Since s.vm h0.size := (State.WarmedH.refl s).since _
  have CH0 : CHr Z consts_1 s.vm h0 s.vm h0 := CHr.refl HS
  have S1 : Steps p.tables e below Ω (s₁.setTop (mkF m 1 #[.val (.int cx), .val (.int tx)] [(.int cx)])) := by
    refine S0.trans ?_
    refine XS.iloadN X0.here hx rfl (hb hby d1_0) rfl ?_
    exact Steps.refl _
  by_cases c9 : cx = 9
  · have S2 : Steps p.tables e below Ω (s₁.setTop (mkF m 104 #[.val (.int cx), .val (.int tx)] [])) := S1.trans (X0.lookupswitchHit hx (g := (mkF m 1 #[.val (.int cx), .val (.int tx)] [(.int cx)])) rfl (k := cx) (rest := []) rfl (hb hby d1_1) (by decide) (a := 9) (off := 103) (by rw [c9]; decide) (by show (0 : Int) ≤ ((1 : Nat) : Int) + 103; decide) _ (Steps.refl _))
    have S3 : Steps p.tables e below Ω (s₁.setTop (mkF m 105 #[.val (.int cx), .val (.int tx)] [(.int tx)])) := by
      refine S2.trans ?_
      refine XS.iloadN X0.here hx rfl (hb hby d1_104) rfl ?_
      exact Steps.refl _
    by_cases t0 : tx = (0 : Int32)
    · have qt0 : tx.toInt = 0 := congrArg Int32.toInt t0
      have S8 : Steps p.tables e below Ω (s₁.setTop (mkF m 136 #[.val (.int cx), .val (.int tx)] [.null])) := by
        refine S3.trans ?_
        refine XS.ifYes X0.here hx rfl (pc0 := 105) (pc' := 113) rfl (hb hby d1_105) rfl (XT.i0_eq_t t0) (by decide) (by decide) ?_
        show Steps p.tables e below (s₁.setTop (mkF m 113 #[.val (.int cx), .val (.int tx)] [])) _
        refine XS.aconstNull X0.here hx rfl (hb hby d1_113) ?_
        show Steps p.tables e below (s₁.setTop (mkF m 114 #[.val (.int cx), .val (.int tx)] [.null])) _
        refine XS.goto X0.here hx rfl (pc0 := 114) (pc' := 136) rfl (hb hby d1_114) (by decide) (by decide) ?_
        exact Steps.refl _
      obtain ⟨fs, hr, hrun, hended, hend⟩ := Stand.leaveW (s := s) (vm₁ := s.vm) X0 hS0 (by rw [e0]; exact (Nat.le_refl h0.size)) (v := some .null) (fun h => by rw [Bd.returns] at h; cases h)
      have hfin : Steps p.tables e below Ω (s₁.setFrames fs) := by
        refine S8.trans ?_
        jvm_step X0.here [X0.here.top, hx, (hb hby d1_136), X0.method', Bd.returns, Value.isRef, FieldType.isReference]
        first | (intro acts; rw [hr _ acts rfl rfl rfl]) | rw [hr _ _ rfl rfl rfl]
        exact Steps.refl _
      rw [hΩ] at hfin
      have CHe : CHr Z consts_1 s.vm s.heap s₁.vm s₁.heap := by
        rw [hh, e0]
        exact CHr.trans CH0 (CHv.at (s := s) (vm0 := s.vm) X0 hZ (own_lk hw) CH0.1)
      refine ⟨_, _, hfin, hrun, hended, _, _, rfl, ?_, CHe, hend.1, hend.2.1, hend.2.2.1, hend.2.2.2.mono (by decide) (by decide)⟩
      show Q1 Z cx tx h0 n0 _ s₁.heap _
      rw [e0]
      exact ⟨N0, ⟨Nat.le_refl _, fun _ _ q => q⟩, Or.inl ⟨rfl, fun q => absurd (c9.symm.trans q) (by decide), fun q => absurd (c9.symm.trans q) (by decide), fun q => absurd (c9.symm.trans q) (by decide), fun q => absurd t0 q, fun _ => fun q => absurd (c9.symm.trans q) (by decide)⟩⟩
    · have qt0 : ¬ tx.toInt = 0 := fun q => t0 (Int32.toInt_inj.mp q)
      have S4 : Steps p.tables e below Ω (s₁.setTop (mkF m 108 #[.val (.int cx), .val (.int tx)] [])) := by
        refine S3.trans ?_
        refine XS.ifNo X0.here hx rfl (hb hby d1_105) rfl (XT.i0_eq_f t0) ?_
        exact Steps.refl _
      obtain ⟨a5, T5, h5, kb5, X5, e5, E5, hS5, hk5, hZ, hown, L5, C5, st5⟩ := own_ldcC (s := s) (vm0 := s.vm) X0 hx hZ hown (hw _ (List.mem_of_getElem? (i := 74) rfl)) own_tx_tab (own_wS hw) e0 hS0 (Nat.le_refl h0.size) (own_lk hw) (List.mem_of_getElem? (i := 4) rfl) CH0.1 (g := (mkF m 108 #[.val (.int cx), .val (.int tx)] [])) rfl (hb hby d1_108) (n := 16) (by decide) (by decide) (by decide) (by decide)
      have CH5 := CHr.trans CH0 C5
      have S6 : Steps p.tables e below Ω (T5.setTop (mkF m 110 #[.val (.int cx), .val (.int tx)] [(.ref a5)])) := S4.trans (st5 _ (Steps.refl _))
      have S7 : Steps p.tables e below Ω (T5.setTop (mkF m 136 #[.val (.int cx), .val (.int tx)] [(.ref a5)])) := by
        refine S6.trans ?_
        refine XS.goto X5.here hx rfl (pc0 := 110) (pc' := 136) rfl (hb hby d1_110) (by decide) (by decide) ?_
        exact Steps.refl _
      obtain ⟨fs, hr, hrun, hended, hend⟩ := Stand.leaveW (s := s) (vm₁ := T5.vm) X5 hS5 (by rw [e5]; exact hk5) (v := some (.ref a5)) (fun h => by rw [Bd.returns] at h; cases h)
      have hfin : Steps p.tables e below Ω (T5.setFrames fs) := by
        refine S7.trans ?_
        jvm_step X5.here [X5.here.top, hx, (hb hby d1_136), X5.method', Bd.returns, Value.isRef, FieldType.isReference]
        first | (intro acts; rw [hr _ acts rfl rfl rfl]) | rw [hr _ _ rfl rfl rfl]
        exact Steps.refl _
      rw [hΩ] at hfin
      have CHe : CHr Z consts_1 s.vm s.heap T5.vm T5.heap := by
        rw [hh, e5]
        exact CHr.trans CH5 (CHv.at (s := s) (vm0 := T5.vm) X5 hZ (own_lk hw) CH5.1)
      refine ⟨_, _, hfin, hrun, hended, _, _, rfl, ?_, CHe, hend.1, hend.2.1, hend.2.2.1, hend.2.2.2.mono (by decide) (by decide)⟩
      show Q1 Z cx tx h0 n0 _ T5.heap _
      rw [e5]
      exact ⟨N0, E5, Or.inr ⟨_, rfl, Or.inr (Or.inr (Or.inr (Or.inr (Or.inr (Or.inl (⟨c9, t0, L5⟩))))))⟩⟩
  · by_cases c10 : cx = 10
    · have S9 : Steps p.tables e below Ω (s₁.setTop (mkF m 117 #[.val (.int cx), .val (.int tx)] [])) := S1.trans (X0.lookupswitchHit hx (g := (mkF m 1 #[.val (.int cx), .val (.int tx)] [(.int cx)])) rfl (k := cx) (rest := []) rfl (hb hby d1_1) (by decide) (a := 10) (off := 116) (by rw [c10]; decide) (by show (0 : Int) ≤ ((1 : Nat) : Int) + 116; decide) _ (Steps.refl _))
      have S10 : Steps p.tables e below Ω (s₁.setTop (mkF m 118 #[.val (.int cx), .val (.int tx)] [(.int tx)])) := by
        refine S9.trans ?_
        refine XS.iloadN X0.here hx rfl (hb hby d1_117) rfl ?_
        exact Steps.refl _
      by_cases t0 : tx = (0 : Int32)
      · have qt0 : tx.toInt = 0 := congrArg Int32.toInt t0
        have S15 : Steps p.tables e below Ω (s₁.setTop (mkF m 136 #[.val (.int cx), .val (.int tx)] [.null])) := by
          refine S10.trans ?_
          refine XS.ifYes X0.here hx rfl (pc0 := 118) (pc' := 126) rfl (hb hby d1_118) rfl (XT.i0_eq_t t0) (by decide) (by decide) ?_
          show Steps p.tables e below (s₁.setTop (mkF m 126 #[.val (.int cx), .val (.int tx)] [])) _
          refine XS.aconstNull X0.here hx rfl (hb hby d1_126) ?_
          show Steps p.tables e below (s₁.setTop (mkF m 127 #[.val (.int cx), .val (.int tx)] [.null])) _
          refine XS.goto X0.here hx rfl (pc0 := 127) (pc' := 136) rfl (hb hby d1_127) (by decide) (by decide) ?_
          exact Steps.refl _
        obtain ⟨fs, hr, hrun, hended, hend⟩ := Stand.leaveW (s := s) (vm₁ := s.vm) X0 hS0 (by rw [e0]; exact (Nat.le_refl h0.size)) (v := some .null) (fun h => by rw [Bd.returns] at h; cases h)
        have hfin : Steps p.tables e below Ω (s₁.setFrames fs) := by
          refine S15.trans ?_
          jvm_step X0.here [X0.here.top, hx, (hb hby d1_136), X0.method', Bd.returns, Value.isRef, FieldType.isReference]
          first | (intro acts; rw [hr _ acts rfl rfl rfl]) | rw [hr _ _ rfl rfl rfl]
          exact Steps.refl _
        rw [hΩ] at hfin
        have CHe : CHr Z consts_1 s.vm s.heap s₁.vm s₁.heap := by
          rw [hh, e0]
          exact CHr.trans CH0 (CHv.at (s := s) (vm0 := s.vm) X0 hZ (own_lk hw) CH0.1)
        refine ⟨_, _, hfin, hrun, hended, _, _, rfl, ?_, CHe, hend.1, hend.2.1, hend.2.2.1, hend.2.2.2.mono (by decide) (by decide)⟩
        show Q1 Z cx tx h0 n0 _ s₁.heap _
        rw [e0]
        exact ⟨N0, ⟨Nat.le_refl _, fun _ _ q => q⟩, Or.inl ⟨rfl, fun q => absurd (c10.symm.trans q) (by decide), fun q => absurd (c10.symm.trans q) (by decide), fun q => absurd (c10.symm.trans q) (by decide), fun q => absurd t0 q, fun _ => fun q => absurd (c10.symm.trans q) (by decide)⟩⟩
      · have qt0 : ¬ tx.toInt = 0 := fun q => t0 (Int32.toInt_inj.mp q)
        have S11 : Steps p.tables e below Ω (s₁.setTop (mkF m 121 #[.val (.int cx), .val (.int tx)] [])) := by
          refine S10.trans ?_
          refine XS.ifNo X0.here hx rfl (hb hby d1_118) rfl (XT.i0_eq_f t0) ?_
          exact Steps.refl _
        obtain ⟨a12, T12, h12, kb12, X12, e12, E12, hS12, hk12, hZ, hown, L12, C12, st12⟩ := own_ldcC (s := s) (vm0 := s.vm) X0 hx hZ hown (hw _ (List.mem_of_getElem? (i := 75) rfl)) own_tx_lf (own_wS hw) e0 hS0 (Nat.le_refl h0.size) (own_lk hw) (List.mem_of_getElem? (i := 5) rfl) CH0.1 (g := (mkF m 121 #[.val (.int cx), .val (.int tx)] [])) rfl (hb hby d1_121) (n := 20) (by decide) (by decide) (by decide) (by decide)
        have CH12 := CHr.trans CH0 C12
        have S13 : Steps p.tables e below Ω (T12.setTop (mkF m 123 #[.val (.int cx), .val (.int tx)] [(.ref a12)])) := S11.trans (st12 _ (Steps.refl _))
        have S14 : Steps p.tables e below Ω (T12.setTop (mkF m 136 #[.val (.int cx), .val (.int tx)] [(.ref a12)])) := by
          refine S13.trans ?_
          refine XS.goto X12.here hx rfl (pc0 := 123) (pc' := 136) rfl (hb hby d1_123) (by decide) (by decide) ?_
          exact Steps.refl _
        obtain ⟨fs, hr, hrun, hended, hend⟩ := Stand.leaveW (s := s) (vm₁ := T12.vm) X12 hS12 (by rw [e12]; exact hk12) (v := some (.ref a12)) (fun h => by rw [Bd.returns] at h; cases h)
        have hfin : Steps p.tables e below Ω (T12.setFrames fs) := by
          refine S14.trans ?_
          jvm_step X12.here [X12.here.top, hx, (hb hby d1_136), X12.method', Bd.returns, Value.isRef, FieldType.isReference]
          first | (intro acts; rw [hr _ acts rfl rfl rfl]) | rw [hr _ _ rfl rfl rfl]
          exact Steps.refl _
        rw [hΩ] at hfin
        have CHe : CHr Z consts_1 s.vm s.heap T12.vm T12.heap := by
          rw [hh, e12]
          exact CHr.trans CH12 (CHv.at (s := s) (vm0 := T12.vm) X12 hZ (own_lk hw) CH12.1)
        refine ⟨_, _, hfin, hrun, hended, _, _, rfl, ?_, CHe, hend.1, hend.2.1, hend.2.2.1, hend.2.2.2.mono (by decide) (by decide)⟩
        show Q1 Z cx tx h0 n0 _ T12.heap _
        rw [e12]
        exact ⟨N0, E12, Or.inr ⟨_, rfl, Or.inr (Or.inr (Or.inr (Or.inr (Or.inr (Or.inr (⟨c10, t0, L12⟩))))))⟩⟩
    · by_cases c13 : cx = 13
      · have S16 : Steps p.tables e below Ω (s₁.setTop (mkF m 130 #[.val (.int cx), .val (.int tx)] [])) := S1.trans (X0.lookupswitchHit hx (g := (mkF m 1 #[.val (.int cx), .val (.int tx)] [(.int cx)])) rfl (k := cx) (rest := []) rfl (hb hby d1_1) (by decide) (a := 13) (off := 129) (by rw [c13]; decide) (by show (0 : Int) ≤ ((1 : Nat) : Int) + 129; decide) _ (Steps.refl _))
        obtain ⟨a17, T17, h17, kb17, X17, e17, E17, hS17, hk17, hZ, hown, L17, C17, st17⟩ := own_ldcC (s := s) (vm0 := s.vm) X0 hx hZ hown (hw _ (List.mem_of_getElem? (i := 65) rfl)) own_tx_cr (own_wS hw) e0 hS0 (Nat.le_refl h0.size) (own_lk hw) (List.mem_of_getElem? (i := 6) rfl) CH0.1 (g := (mkF m 130 #[.val (.int cx), .val (.int tx)] [])) rfl (hb hby d1_130) (n := 20) (by decide) (by decide) (by decide) (by decide)
        have CH17 := CHr.trans CH0 C17
        have S18 : Steps p.tables e below Ω (T17.setTop (mkF m 132 #[.val (.int cx), .val (.int tx)] [(.ref a17)])) := S16.trans (st17 _ (Steps.refl _))
        have S19 : Steps p.tables e below Ω (T17.setTop (mkF m 136 #[.val (.int cx), .val (.int tx)] [(.ref a17)])) := by
          refine S18.trans ?_
          refine XS.goto X17.here hx rfl (pc0 := 132) (pc' := 136) rfl (hb hby d1_132) (by decide) (by decide) ?_
          exact Steps.refl _
        obtain ⟨fs, hr, hrun, hended, hend⟩ := Stand.leaveW (s := s) (vm₁ := T17.vm) X17 hS17 (by rw [e17]; exact hk17) (v := some (.ref a17)) (fun h => by rw [Bd.returns] at h; cases h)
        have hfin : Steps p.tables e below Ω (T17.setFrames fs) := by
          refine S19.trans ?_
          jvm_step X17.here [X17.here.top, hx, (hb hby d1_136), X17.method', Bd.returns, Value.isRef, FieldType.isReference]
          first | (intro acts; rw [hr _ acts rfl rfl rfl]) | rw [hr _ _ rfl rfl rfl]
          exact Steps.refl _
        rw [hΩ] at hfin
        have CHe : CHr Z consts_1 s.vm s.heap T17.vm T17.heap := by
          rw [hh, e17]
          exact CHr.trans CH17 (CHv.at (s := s) (vm0 := T17.vm) X17 hZ (own_lk hw) CH17.1)
        refine ⟨_, _, hfin, hrun, hended, _, _, rfl, ?_, CHe, hend.1, hend.2.1, hend.2.2.1, hend.2.2.2.mono (by decide) (by decide)⟩
        show Q1 Z cx tx h0 n0 _ T17.heap _
        rw [e17]
        exact ⟨N0, E17, Or.inr ⟨_, rfl, Or.inr (Or.inr (Or.inl (⟨c13, L17⟩)))⟩⟩
      · by_cases c34 : cx = 34
        · have S20 : Steps p.tables e below Ω (s₁.setTop (mkF m 91 #[.val (.int cx), .val (.int tx)] [])) := S1.trans (X0.lookupswitchHit hx (g := (mkF m 1 #[.val (.int cx), .val (.int tx)] [(.int cx)])) rfl (k := cx) (rest := []) rfl (hb hby d1_1) (by decide) (a := 34) (off := 90) (by rw [c34]; decide) (by show (0 : Int) ≤ ((1 : Nat) : Int) + 90; decide) _ (Steps.refl _))
          have S21 : Steps p.tables e below Ω (s₁.setTop (mkF m 92 #[.val (.int cx), .val (.int tx)] [(.int tx)])) := by
            refine S20.trans ?_
            refine XS.iloadN X0.here hx rfl (hb hby d1_91) rfl ?_
            exact Steps.refl _
          by_cases t0 : tx = (0 : Int32)
          · have qt0 : tx.toInt = 0 := congrArg Int32.toInt t0
            have S26 : Steps p.tables e below Ω (s₁.setTop (mkF m 136 #[.val (.int cx), .val (.int tx)] [.null])) := by
              refine S21.trans ?_
              refine XS.ifYes X0.here hx rfl (pc0 := 92) (pc' := 100) rfl (hb hby d1_92) rfl (XT.i0_eq_t t0) (by decide) (by decide) ?_
              show Steps p.tables e below (s₁.setTop (mkF m 100 #[.val (.int cx), .val (.int tx)] [])) _
              refine XS.aconstNull X0.here hx rfl (hb hby d1_100) ?_
              show Steps p.tables e below (s₁.setTop (mkF m 101 #[.val (.int cx), .val (.int tx)] [.null])) _
              refine XS.goto X0.here hx rfl (pc0 := 101) (pc' := 136) rfl (hb hby d1_101) (by decide) (by decide) ?_
              exact Steps.refl _
            obtain ⟨fs, hr, hrun, hended, hend⟩ := Stand.leaveW (s := s) (vm₁ := s.vm) X0 hS0 (by rw [e0]; exact (Nat.le_refl h0.size)) (v := some .null) (fun h => by rw [Bd.returns] at h; cases h)
            have hfin : Steps p.tables e below Ω (s₁.setFrames fs) := by
              refine S26.trans ?_
              jvm_step X0.here [X0.here.top, hx, (hb hby d1_136), X0.method', Bd.returns, Value.isRef, FieldType.isReference]
              first | (intro acts; rw [hr _ acts rfl rfl rfl]) | rw [hr _ _ rfl rfl rfl]
              exact Steps.refl _
            rw [hΩ] at hfin
            have CHe : CHr Z consts_1 s.vm s.heap s₁.vm s₁.heap := by
              rw [hh, e0]
              exact CHr.trans CH0 (CHv.at (s := s) (vm0 := s.vm) X0 hZ (own_lk hw) CH0.1)
            refine ⟨_, _, hfin, hrun, hended, _, _, rfl, ?_, CHe, hend.1, hend.2.1, hend.2.2.1, hend.2.2.2.mono (by decide) (by decide)⟩
            show Q1 Z cx tx h0 n0 _ s₁.heap _
            rw [e0]
            exact ⟨N0, ⟨Nat.le_refl _, fun _ _ q => q⟩, Or.inl ⟨rfl, fun q => absurd (c34.symm.trans q) (by decide), fun q => absurd (c34.symm.trans q) (by decide), fun q => absurd (c34.symm.trans q) (by decide), fun q => absurd t0 q, fun _ => fun q => absurd (c34.symm.trans q) (by decide)⟩⟩
          · have qt0 : ¬ tx.toInt = 0 := fun q => t0 (Int32.toInt_inj.mp q)
            have S22 : Steps p.tables e below Ω (s₁.setTop (mkF m 95 #[.val (.int cx), .val (.int tx)] [])) := by
              refine S21.trans ?_
              refine XS.ifNo X0.here hx rfl (hb hby d1_92) rfl (XT.i0_eq_f t0) ?_
              exact Steps.refl _
            obtain ⟨a23, T23, h23, kb23, X23, e23, E23, hS23, hk23, hZ, hown, L23, C23, st23⟩ := own_ldcC (s := s) (vm0 := s.vm) X0 hx hZ hown (hw _ (List.mem_of_getElem? (i := 72) rfl)) own_tx_quot (own_wS hw) e0 hS0 (Nat.le_refl h0.size) (own_lk hw) (List.mem_of_getElem? (i := 3) rfl) CH0.1 (g := (mkF m 95 #[.val (.int cx), .val (.int tx)] [])) rfl (hb hby d1_95) (n := 24) (by decide) (by decide) (by decide) (by decide)
            have CH23 := CHr.trans CH0 C23
            have S24 : Steps p.tables e below Ω (T23.setTop (mkF m 97 #[.val (.int cx), .val (.int tx)] [(.ref a23)])) := S22.trans (st23 _ (Steps.refl _))
            have S25 : Steps p.tables e below Ω (T23.setTop (mkF m 136 #[.val (.int cx), .val (.int tx)] [(.ref a23)])) := by
              refine S24.trans ?_
              refine XS.goto X23.here hx rfl (pc0 := 97) (pc' := 136) rfl (hb hby d1_97) (by decide) (by decide) ?_
              exact Steps.refl _
            obtain ⟨fs, hr, hrun, hended, hend⟩ := Stand.leaveW (s := s) (vm₁ := T23.vm) X23 hS23 (by rw [e23]; exact hk23) (v := some (.ref a23)) (fun h => by rw [Bd.returns] at h; cases h)
            have hfin : Steps p.tables e below Ω (T23.setFrames fs) := by
              refine S25.trans ?_
              jvm_step X23.here [X23.here.top, hx, (hb hby d1_136), X23.method', Bd.returns, Value.isRef, FieldType.isReference]
              first | (intro acts; rw [hr _ acts rfl rfl rfl]) | rw [hr _ _ rfl rfl rfl]
              exact Steps.refl _
            rw [hΩ] at hfin
            have CHe : CHr Z consts_1 s.vm s.heap T23.vm T23.heap := by
              rw [hh, e23]
              exact CHr.trans CH23 (CHv.at (s := s) (vm0 := T23.vm) X23 hZ (own_lk hw) CH23.1)
            refine ⟨_, _, hfin, hrun, hended, _, _, rfl, ?_, CHe, hend.1, hend.2.1, hend.2.2.1, hend.2.2.2.mono (by decide) (by decide)⟩
            show Q1 Z cx tx h0 n0 _ T23.heap _
            rw [e23]
            exact ⟨N0, E23, Or.inr ⟨_, rfl, Or.inr (Or.inr (Or.inr (Or.inr (Or.inl (⟨c34, t0, L23⟩)))))⟩⟩
        · by_cases c38 : cx = 38
          · have S27 : Steps p.tables e below Ω (s₁.setTop (mkF m 68 #[.val (.int cx), .val (.int tx)] [])) := S1.trans (X0.lookupswitchHit hx (g := (mkF m 1 #[.val (.int cx), .val (.int tx)] [(.int cx)])) rfl (k := cx) (rest := []) rfl (hb hby d1_1) (by decide) (a := 38) (off := 67) (by rw [c38]; decide) (by show (0 : Int) ≤ ((1 : Nat) : Int) + 67; decide) _ (Steps.refl _))
            obtain ⟨a28, T28, h28, kb28, X28, e28, E28, hS28, hk28, hZ, hown, L28, C28, st28⟩ := own_ldcC (s := s) (vm0 := s.vm) X0 hx hZ hown (hw _ (List.mem_of_getElem? (i := 64) rfl)) own_tx_amp (own_wS hw) e0 hS0 (Nat.le_refl h0.size) (own_lk hw) (List.mem_of_getElem? (i := 0) rfl) CH0.1 (g := (mkF m 68 #[.val (.int cx), .val (.int tx)] [])) rfl (hb hby d1_68) (n := 20) (by decide) (by decide) (by decide) (by decide)
            have CH28 := CHr.trans CH0 C28
            have S29 : Steps p.tables e below Ω (T28.setTop (mkF m 70 #[.val (.int cx), .val (.int tx)] [(.ref a28)])) := S27.trans (st28 _ (Steps.refl _))
            have S30 : Steps p.tables e below Ω (T28.setTop (mkF m 136 #[.val (.int cx), .val (.int tx)] [(.ref a28)])) := by
              refine S29.trans ?_
              refine XS.goto X28.here hx rfl (pc0 := 70) (pc' := 136) rfl (hb hby d1_70) (by decide) (by decide) ?_
              exact Steps.refl _
            obtain ⟨fs, hr, hrun, hended, hend⟩ := Stand.leaveW (s := s) (vm₁ := T28.vm) X28 hS28 (by rw [e28]; exact hk28) (v := some (.ref a28)) (fun h => by rw [Bd.returns] at h; cases h)
            have hfin : Steps p.tables e below Ω (T28.setFrames fs) := by
              refine S30.trans ?_
              jvm_step X28.here [X28.here.top, hx, (hb hby d1_136), X28.method', Bd.returns, Value.isRef, FieldType.isReference]
              first | (intro acts; rw [hr _ acts rfl rfl rfl]) | rw [hr _ _ rfl rfl rfl]
              exact Steps.refl _
            rw [hΩ] at hfin
            have CHe : CHr Z consts_1 s.vm s.heap T28.vm T28.heap := by
              rw [hh, e28]
              exact CHr.trans CH28 (CHv.at (s := s) (vm0 := T28.vm) X28 hZ (own_lk hw) CH28.1)
            refine ⟨_, _, hfin, hrun, hended, _, _, rfl, ?_, CHe, hend.1, hend.2.1, hend.2.2.1, hend.2.2.2.mono (by decide) (by decide)⟩
            show Q1 Z cx tx h0 n0 _ T28.heap _
            rw [e28]
            exact ⟨N0, E28, Or.inr ⟨_, rfl, Or.inl (⟨c38, L28⟩)⟩⟩
          · by_cases c60 : cx = 60
            · have S31 : Steps p.tables e below Ω (s₁.setTop (mkF m 73 #[.val (.int cx), .val (.int tx)] [])) := S1.trans (X0.lookupswitchHit hx (g := (mkF m 1 #[.val (.int cx), .val (.int tx)] [(.int cx)])) rfl (k := cx) (rest := []) rfl (hb hby d1_1) (by decide) (a := 60) (off := 72) (by rw [c60]; decide) (by show (0 : Int) ≤ ((1 : Nat) : Int) + 72; decide) _ (Steps.refl _))
              obtain ⟨a32, T32, h32, kb32, X32, e32, E32, hS32, hk32, hZ, hown, L32, C32, st32⟩ := own_ldcC (s := s) (vm0 := s.vm) X0 hx hZ hown (hw _ (List.mem_of_getElem? (i := 5) rfl)) own_tx_lt (own_wS hw) e0 hS0 (Nat.le_refl h0.size) (own_lk hw) (List.mem_of_getElem? (i := 1) rfl) CH0.1 (g := (mkF m 73 #[.val (.int cx), .val (.int tx)] [])) rfl (hb hby d1_73) (n := 16) (by decide) (by decide) (by decide) (by decide)
              have CH32 := CHr.trans CH0 C32
              have S33 : Steps p.tables e below Ω (T32.setTop (mkF m 75 #[.val (.int cx), .val (.int tx)] [(.ref a32)])) := S31.trans (st32 _ (Steps.refl _))
              have S34 : Steps p.tables e below Ω (T32.setTop (mkF m 136 #[.val (.int cx), .val (.int tx)] [(.ref a32)])) := by
                refine S33.trans ?_
                refine XS.goto X32.here hx rfl (pc0 := 75) (pc' := 136) rfl (hb hby d1_75) (by decide) (by decide) ?_
                exact Steps.refl _
              obtain ⟨fs, hr, hrun, hended, hend⟩ := Stand.leaveW (s := s) (vm₁ := T32.vm) X32 hS32 (by rw [e32]; exact hk32) (v := some (.ref a32)) (fun h => by rw [Bd.returns] at h; cases h)
              have hfin : Steps p.tables e below Ω (T32.setFrames fs) := by
                refine S34.trans ?_
                jvm_step X32.here [X32.here.top, hx, (hb hby d1_136), X32.method', Bd.returns, Value.isRef, FieldType.isReference]
                first | (intro acts; rw [hr _ acts rfl rfl rfl]) | rw [hr _ _ rfl rfl rfl]
                exact Steps.refl _
              rw [hΩ] at hfin
              have CHe : CHr Z consts_1 s.vm s.heap T32.vm T32.heap := by
                rw [hh, e32]
                exact CHr.trans CH32 (CHv.at (s := s) (vm0 := T32.vm) X32 hZ (own_lk hw) CH32.1)
              refine ⟨_, _, hfin, hrun, hended, _, _, rfl, ?_, CHe, hend.1, hend.2.1, hend.2.2.1, hend.2.2.2.mono (by decide) (by decide)⟩
              show Q1 Z cx tx h0 n0 _ T32.heap _
              rw [e32]
              exact ⟨N0, E32, Or.inr ⟨_, rfl, Or.inr (Or.inl (⟨c60, L32⟩))⟩⟩
            · by_cases c62 : cx = 62
              · have S35 : Steps p.tables e below Ω (s₁.setTop (mkF m 78 #[.val (.int cx), .val (.int tx)] [])) := S1.trans (X0.lookupswitchHit hx (g := (mkF m 1 #[.val (.int cx), .val (.int tx)] [(.int cx)])) rfl (k := cx) (rest := []) rfl (hb hby d1_1) (by decide) (a := 62) (off := 77) (by rw [c62]; decide) (by show (0 : Int) ≤ ((1 : Nat) : Int) + 77; decide) _ (Steps.refl _))
                have S36 : Steps p.tables e below Ω (s₁.setTop (mkF m 79 #[.val (.int cx), .val (.int tx)] [(.int tx)])) := by
                  refine S35.trans ?_
                  refine XS.iloadN X0.here hx rfl (hb hby d1_78) rfl ?_
                  exact Steps.refl _
                by_cases t0 : tx = (0 : Int32)
                · have qt0 : tx.toInt = 0 := congrArg Int32.toInt t0
                  have S37 : Steps p.tables e below Ω (s₁.setTop (mkF m 86 #[.val (.int cx), .val (.int tx)] [])) := by
                    refine S36.trans ?_
                    refine XS.ifYes X0.here hx rfl (pc0 := 79) (pc' := 86) rfl (hb hby d1_79) rfl (XT.i0_eq_t t0) (by decide) (by decide) ?_
                    exact Steps.refl _
                  obtain ⟨a38, T38, h38, kb38, X38, e38, E38, hS38, hk38, hZ, hown, L38, C38, st38⟩ := own_ldcC (s := s) (vm0 := s.vm) X0 hx hZ hown (hw _ (List.mem_of_getElem? (i := 73) rfl)) own_tx_gt (own_wS hw) e0 hS0 (Nat.le_refl h0.size) (own_lk hw) (List.mem_of_getElem? (i := 2) rfl) CH0.1 (g := (mkF m 86 #[.val (.int cx), .val (.int tx)] [])) rfl (hb hby d1_86) (n := 16) (by decide) (by decide) (by decide) (by decide)
                  have CH38 := CHr.trans CH0 C38
                  have S39 : Steps p.tables e below Ω (T38.setTop (mkF m 88 #[.val (.int cx), .val (.int tx)] [(.ref a38)])) := S37.trans (st38 _ (Steps.refl _))
                  have S40 : Steps p.tables e below Ω (T38.setTop (mkF m 136 #[.val (.int cx), .val (.int tx)] [(.ref a38)])) := by
                    refine S39.trans ?_
                    refine XS.goto X38.here hx rfl (pc0 := 88) (pc' := 136) rfl (hb hby d1_88) (by decide) (by decide) ?_
                    exact Steps.refl _
                  obtain ⟨fs, hr, hrun, hended, hend⟩ := Stand.leaveW (s := s) (vm₁ := T38.vm) X38 hS38 (by rw [e38]; exact hk38) (v := some (.ref a38)) (fun h => by rw [Bd.returns] at h; cases h)
                  have hfin : Steps p.tables e below Ω (T38.setFrames fs) := by
                    refine S40.trans ?_
                    jvm_step X38.here [X38.here.top, hx, (hb hby d1_136), X38.method', Bd.returns, Value.isRef, FieldType.isReference]
                    first | (intro acts; rw [hr _ acts rfl rfl rfl]) | rw [hr _ _ rfl rfl rfl]
                    exact Steps.refl _
                  rw [hΩ] at hfin
                  have CHe : CHr Z consts_1 s.vm s.heap T38.vm T38.heap := by
                    rw [hh, e38]
                    exact CHr.trans CH38 (CHv.at (s := s) (vm0 := T38.vm) X38 hZ (own_lk hw) CH38.1)
                  refine ⟨_, _, hfin, hrun, hended, _, _, rfl, ?_, CHe, hend.1, hend.2.1, hend.2.2.1, hend.2.2.2.mono (by decide) (by decide)⟩
                  show Q1 Z cx tx h0 n0 _ T38.heap _
                  rw [e38]
                  exact ⟨N0, E38, Or.inr ⟨_, rfl, Or.inr (Or.inr (Or.inr (Or.inl (⟨c62, t0, L38⟩))))⟩⟩
                · have qt0 : ¬ tx.toInt = 0 := fun q => t0 (Int32.toInt_inj.mp q)
                  have S41 : Steps p.tables e below Ω (s₁.setTop (mkF m 136 #[.val (.int cx), .val (.int tx)] [.null])) := by
                    refine S36.trans ?_
                    refine XS.ifNo X0.here hx rfl (hb hby d1_79) rfl (XT.i0_eq_f t0) ?_
                    show Steps p.tables e below (s₁.setTop (mkF m 82 #[.val (.int cx), .val (.int tx)] [])) _
                    refine XS.aconstNull X0.here hx rfl (hb hby d1_82) ?_
                    show Steps p.tables e below (s₁.setTop (mkF m 83 #[.val (.int cx), .val (.int tx)] [.null])) _
                    refine XS.goto X0.here hx rfl (pc0 := 83) (pc' := 136) rfl (hb hby d1_83) (by decide) (by decide) ?_
                    exact Steps.refl _
                  obtain ⟨fs, hr, hrun, hended, hend⟩ := Stand.leaveW (s := s) (vm₁ := s.vm) X0 hS0 (by rw [e0]; exact (Nat.le_refl h0.size)) (v := some .null) (fun h => by rw [Bd.returns] at h; cases h)
                  have hfin : Steps p.tables e below Ω (s₁.setFrames fs) := by
                    refine S41.trans ?_
                    jvm_step X0.here [X0.here.top, hx, (hb hby d1_136), X0.method', Bd.returns, Value.isRef, FieldType.isReference]
                    first | (intro acts; rw [hr _ acts rfl rfl rfl]) | rw [hr _ _ rfl rfl rfl]
                    exact Steps.refl _
                  rw [hΩ] at hfin
                  have CHe : CHr Z consts_1 s.vm s.heap s₁.vm s₁.heap := by
                    rw [hh, e0]
                    exact CHr.trans CH0 (CHv.at (s := s) (vm0 := s.vm) X0 hZ (own_lk hw) CH0.1)
                  refine ⟨_, _, hfin, hrun, hended, _, _, rfl, ?_, CHe, hend.1, hend.2.1, hend.2.2.1, hend.2.2.2.mono (by decide) (by decide)⟩
                  show Q1 Z cx tx h0 n0 _ s₁.heap _
                  rw [e0]
                  exact ⟨N0, ⟨Nat.le_refl _, fun _ _ q => q⟩, Or.inl ⟨rfl, fun q => absurd (c62.symm.trans q) (by decide), fun q => absurd (c62.symm.trans q) (by decide), fun q => absurd (c62.symm.trans q) (by decide), fun _ => ⟨fun q => absurd (c62.symm.trans q) (by decide), fun q => absurd (c62.symm.trans q) (by decide), fun q => absurd (c62.symm.trans q) (by decide)⟩, fun q => absurd q t0⟩⟩
              · have S42 : Steps p.tables e below Ω (s₁.setTop (mkF m 135 #[.val (.int cx), .val (.int tx)] [])) := S1.trans (X0.lookupswitchMiss hx (g := (mkF m 1 #[.val (.int cx), .val (.int tx)] [(.int cx)])) rfl (k := cx) (rest := []) rfl (hb hby d1_1) (by decide) (own_miss c9 c10 c13 c34 c38 c60 c62) (by show (0 : Int) ≤ ((1 : Nat) : Int) + 134; decide) _ (Steps.refl _))
                have S43 : Steps p.tables e below Ω (s₁.setTop (mkF m 136 #[.val (.int cx), .val (.int tx)] [.null])) := by
                  refine S42.trans ?_
                  refine XS.aconstNull X0.here hx rfl (hb hby d1_135) ?_
                  exact Steps.refl _
                obtain ⟨fs, hr, hrun, hended, hend⟩ := Stand.leaveW (s := s) (vm₁ := s.vm) X0 hS0 (by rw [e0]; exact (Nat.le_refl h0.size)) (v := some .null) (fun h => by rw [Bd.returns] at h; cases h)
                have hfin : Steps p.tables e below Ω (s₁.setFrames fs) := by
                  refine S43.trans ?_
                  jvm_step X0.here [X0.here.top, hx, (hb hby d1_136), X0.method', Bd.returns, Value.isRef, FieldType.isReference]
                  first | (intro acts; rw [hr _ acts rfl rfl rfl]) | rw [hr _ _ rfl rfl rfl]
                  exact Steps.refl _
                rw [hΩ] at hfin
                have CHe : CHr Z consts_1 s.vm s.heap s₁.vm s₁.heap := by
                  rw [hh, e0]
                  exact CHr.trans CH0 (CHv.at (s := s) (vm0 := s.vm) X0 hZ (own_lk hw) CH0.1)
                refine ⟨_, _, hfin, hrun, hended, _, _, rfl, ?_, CHe, hend.1, hend.2.1, hend.2.2.1, hend.2.2.2.mono (by decide) (by decide)⟩
                show Q1 Z cx tx h0 n0 _ s₁.heap _
                rw [e0]
                exact ⟨N0, ⟨Nat.le_refl _, fun _ _ q => q⟩, Or.inl ⟨rfl, c38, c60, c13, fun _ => ⟨c34, c9, c10⟩, fun _ => c62⟩⟩
theorem pd_4 : parseMethodDescriptor "(IZ)Ljava/lang/String;" = some ⟨[.int, .boolean], some (.object "java/lang/String")⟩ := by decide +kernel
theorem pd_5 : parseMethodDescriptor "(Ljava/lang/String;)I" = some ⟨[(.object "java/lang/String")], some .int⟩ := by decide +kernel
theorem ef_rm0 (m : MethodId) (x0 : Int32) (x1 : Int32) : entryFrame m #[(.int x0), (.int x1)] maxLocals = mkF m 0 #[.val (.int x0), .val (.int x1), .unset, .unset, .unset, .unset, .unset, .unset] [] := by first | (simp [entryFrame, mkF, argsToLocals, Value.category, maxLocals]; done) | rfl
def Q0 (Z : State) (cd : Int32) (fl : Int32) (z : Int32) (fm : Value) (h0 : Heap) (n0 : Nat) (v : Option Value) (h : Heap) (L : List Loc) : Prop := v = some (.int 1) ∧ Fr n0 L
set_option maxRecDepth 65536 in
set_option maxHeartbeats 40000000 in
theorem rm0 (l : Launch) (Z : State) (a0 : Array Value) (hw : ∀ d ∈ tables_1, d.before a0 Z = true) (ws : List Jvm.Cond) (cd : Int32) (fl : Int32) (z : Int32) (fm : Value) (h0 : Heap) (n0 : Nat) (Z0 : n0 ≤ h0.size) (O2 : Sta Z h0 "java/lang/String" "COMPACT_STRINGS" "Z" (.int z)) (hz : ¬ z = 0) (O4 : Sta Z h0 "jdk/internal/util/Preconditions" "SIOOBE_FORMATTER" "Ljava/util/function/BiFunction;" fm) (rf : fm.isRef = true) :
    MetFree l x (head1 (Jvm.Cond.code x code maxLocals ret :: ws) room_1) (fun aa U => aa = #[(.int cd), (.int fl)] ∧ Z.Warmed39 U.vm ∧ U.heap = h0 ∧ CHv Z consts_1 U.vm h0) (fun _ _ _ _ _ => True) (fun _ U o U' => ∃ v L, o = .returned v ∧ Q0 Z cd fl z fm h0 n0 v U'.heap L ∧ CHr Z consts_1 U.vm U.heap U'.vm U'.heap ∧ ReturnedEndW U o U' L room_1.cells room_1.slots) := by
  refine MetFree.of_bodySF (plainFor_of_name pn_0) hisR ?_
  intro p e s m args below meth c s₁ Bd hml0 hP hK
  obtain ⟨rfl, hZ, hh, HS⟩ := hP
  have hZs := hZ
  have hx := Bd.exec
  have hby := Bd.bytes
  have hml : c.maxLocals = 8 := hml0
  have hown : s.vm.findClass "com/example/distill_trees/distilltrees/io/XmlWriterReferencePinLaw" = some m.cls := findClass_of_methodNamed Bd.named
  have hnm := (name_of_methodNamed Bd.named Bd.method).1
  have X0 : Stand p l e room_1 s m #[(.int cd), (.int fl)] below meth c s₁ [] 0 0 := Stand.of_body Bd
  have e0 : s₁.heap = h0 := by rw [← hh, Bd.state]; rfl
  have N0 := Fr.nil n0
  obtain ⟨Ω, hΩ⟩ : ∃ z, z = s₁.setTop (entryFrame m #[(.int cd), (.int fl)] maxLocals) := ⟨_, rfl⟩
  have S0 : Steps p.tables e below Ω (s₁.setTop (mkF m 0 #[.val (.int cd), .val (.int fl), .unset, .unset, .unset, .unset, .unset, .unset] [])) := by rw [hΩ]; exact castTop (ef_rm0 m cd fl) (Steps.refl _)
  have hS0 : s.Since s.vm h0.size := (State.WarmedH.refl s).since _
  have CH0 : CHr Z consts_1 s.vm h0 s.vm h0 := CHr.refl HS
  obtain ⟨t, h_t, S2⟩ : ∃ (t : Int32), t = (if (fl &&& (1 : Int32)) = (0 : Int32) then (0 : Int32) else (1 : Int32)) ∧ Steps p.tables e below Ω (s₁.setTop (mkF m 11 #[.val (.int cd), .val (.int fl), .unset, .unset, .unset, .unset, .unset, .unset] [(.int t)])) := by
    by_cases cz1 : (fl &&& (1 : Int32)) = (0 : Int32)
    · refine ⟨(0 : Int32), (by rw [if_pos cz1]), S0.trans ?_⟩
      refine XS.iloadN X0.here hx rfl (hb hby at_0) rfl ?_
      show Steps p.tables e below (s₁.setTop (mkF m 1 #[.val (.int cd), .val (.int fl), .unset, .unset, .unset, .unset, .unset, .unset] [(.int fl)])) _
      refine XS.iconst X0.here hx rfl (hb hby at_1) ?_
      show Steps p.tables e below (s₁.setTop (mkF m 2 #[.val (.int cd), .val (.int fl), .unset, .unset, .unset, .unset, .unset, .unset] [(.int (1 : Int32)), (.int fl)])) _
      refine XS.iand X0.here hx rfl (hb hby at_2) rfl ?_
      show Steps p.tables e below (s₁.setTop (mkF m 3 #[.val (.int cd), .val (.int fl), .unset, .unset, .unset, .unset, .unset, .unset] [(.int (fl &&& (1 : Int32)))])) _
      refine XS.ifYes X0.here hx rfl (pc0 := 3) (pc' := 10) rfl (hb hby at_3) rfl (XT.i0_eq_t cz1) (by decide) (by decide) ?_
      show Steps p.tables e below (s₁.setTop (mkF m 10 #[.val (.int cd), .val (.int fl), .unset, .unset, .unset, .unset, .unset, .unset] [])) _
      refine XS.iconst X0.here hx rfl (hb hby at_10) ?_
      exact Steps.refl _
    · refine ⟨(1 : Int32), (by rw [if_neg cz1]), S0.trans ?_⟩
      refine XS.iloadN X0.here hx rfl (hb hby at_0) rfl ?_
      show Steps p.tables e below (s₁.setTop (mkF m 1 #[.val (.int cd), .val (.int fl), .unset, .unset, .unset, .unset, .unset, .unset] [(.int fl)])) _
      refine XS.iconst X0.here hx rfl (hb hby at_1) ?_
      show Steps p.tables e below (s₁.setTop (mkF m 2 #[.val (.int cd), .val (.int fl), .unset, .unset, .unset, .unset, .unset, .unset] [(.int (1 : Int32)), (.int fl)])) _
      refine XS.iand X0.here hx rfl (hb hby at_2) rfl ?_
      show Steps p.tables e below (s₁.setTop (mkF m 3 #[.val (.int cd), .val (.int fl), .unset, .unset, .unset, .unset, .unset, .unset] [(.int (fl &&& (1 : Int32)))])) _
      refine XS.ifNo X0.here hx rfl (hb hby at_3) rfl (XT.i0_eq_f cz1) ?_
      show Steps p.tables e below (s₁.setTop (mkF m 6 #[.val (.int cd), .val (.int fl), .unset, .unset, .unset, .unset, .unset, .unset] [])) _
      refine XS.iconst X0.here hx rfl (hb hby at_6) ?_
      show Steps p.tables e below (s₁.setTop (mkF m 7 #[.val (.int cd), .val (.int fl), .unset, .unset, .unset, .unset, .unset, .unset] [(.int (1 : Int32))])) _
      refine XS.goto X0.here hx rfl (pc0 := 7) (pc' := 11) rfl (hb hby at_7) (by decide) (by decide) ?_
      exact Steps.refl _
  have S3 : Steps p.tables e below Ω (s₁.setTop (mkF m 19 #[.val (.int cd), .val (.int fl), .val (.int t), .val (.int (((fl.toUInt32 >>> ((1 : Int32) &&& 31).toUInt32).toInt32) &&& (15 : Int32))), .unset, .unset, .unset, .unset] [])) := by
    refine S2.trans ?_
    refine XS.istoreN X0.here hx rfl (hb hby at_11) rfl (l' := #[.val (.int cd), .val (.int fl), .val (.int t), .unset, .unset, .unset, .unset, .unset]) rfl ?_
    show Steps p.tables e below (s₁.setTop (mkF m 12 #[.val (.int cd), .val (.int fl), .val (.int t), .unset, .unset, .unset, .unset, .unset] [])) _
    refine XS.iloadN X0.here hx rfl (hb hby at_12) rfl ?_
    show Steps p.tables e below (s₁.setTop (mkF m 13 #[.val (.int cd), .val (.int fl), .val (.int t), .unset, .unset, .unset, .unset, .unset] [(.int fl)])) _
    refine XS.iconst X0.here hx rfl (hb hby at_13) ?_
    show Steps p.tables e below (s₁.setTop (mkF m 14 #[.val (.int cd), .val (.int fl), .val (.int t), .unset, .unset, .unset, .unset, .unset] [(.int (1 : Int32)), (.int fl)])) _
    refine XS.iushr X0.here hx rfl (hb hby at_14) rfl ?_
    show Steps p.tables e below (s₁.setTop (mkF m 15 #[.val (.int cd), .val (.int fl), .val (.int t), .unset, .unset, .unset, .unset, .unset] [(.int ((fl.toUInt32 >>> ((1 : Int32) &&& 31).toUInt32).toInt32))])) _
    refine XS.bipush X0.here hx rfl (hb hby at_15) ?_
    show Steps p.tables e below (s₁.setTop (mkF m 17 #[.val (.int cd), .val (.int fl), .val (.int t), .unset, .unset, .unset, .unset, .unset] [(.int (15 : Int32)), (.int ((fl.toUInt32 >>> ((1 : Int32) &&& 31).toUInt32).toInt32))])) _
    refine XS.iand X0.here hx rfl (hb hby at_17) rfl ?_
    show Steps p.tables e below (s₁.setTop (mkF m 18 #[.val (.int cd), .val (.int fl), .val (.int t), .unset, .unset, .unset, .unset, .unset] [(.int (((fl.toUInt32 >>> ((1 : Int32) &&& 31).toUInt32).toInt32) &&& (15 : Int32)))])) _
    refine XS.istoreN X0.here hx rfl (hb hby at_18) rfl (l' := #[.val (.int cd), .val (.int fl), .val (.int t), .val (.int (((fl.toUInt32 >>> ((1 : Int32) &&& 31).toUInt32).toInt32) &&& (15 : Int32))), .unset, .unset, .unset, .unset]) rfl ?_
    exact Steps.refl _
  obtain ⟨sel, h_sel⟩ : ∃ z : Int32, z = (((fl.toUInt32 >>> ((1 : Int32) &&& 31).toUInt32).toInt32) &&& (15 : Int32)) := ⟨_, rfl⟩
  rw [← h_sel] at S3
  have S4 : Steps p.tables e below Ω (s₁.setTop (mkF m 21 #[.val (.int cd), .val (.int fl), .val (.int t), .val (.int sel), .unset, .unset, .unset, .unset] [(.int (8 : Int32))])) := by
    refine S3.trans ?_
    refine XS.bipush X0.here hx rfl (hb hby at_19) ?_
    exact Steps.refl _
  obtain ⟨T5, h5, k5, X5, e5, E5, A5, st5⟩ := newP X0 hx hZ (hw _ (List.mem_of_getElem? (i := 0) rfl)) e0 (g := (mkF m 21 #[.val (.int cd), .val (.int fl), .val (.int t), .val (.int sel), .unset, .unset, .unset, .unset] [(.int (8 : Int32))])) rfl (hb hby at_21) rfl (by decide) (cap := 8) (by decide) (by decide) (by decide) (by decide)
  obtain ⟨tb, s_tb⟩ : ∃ z, z = h0.size := ⟨_, rfl⟩
  rw [← s_tb] at A5 st5
  have g_tb : n0 ≤ tb := Nat.le_trans Z0 (Nat.le_of_eq s_tb.symm)
  have S6 : Steps p.tables e below Ω (T5.setTop (mkF m 23 #[.val (.int cd), .val (.int fl), .val (.int t), .val (.int sel), .unset, .unset, .unset, .unset] [(.ref tb)])) := S4.trans (st5 _ (Steps.refl _))
  have V_0 : LA Z h5 tb .int [(.int (0 : Int32)), (.int (0 : Int32)), (.int (0 : Int32)), (.int (0 : Int32)), (.int (0 : Int32)), (.int (0 : Int32)), (.int (0 : Int32)), (.int (0 : Int32))] := LA.new A5 8 rfl
  have O2_0 := O2.ext E5
  have O4_0 := O4.ext E5
  have SF_0 := Safe.ext E5 CH0.1 (Safe.new (Nat.le_of_eq s_tb.symm))
  have CH_0 := CHr.trans CH0 (CHr.ext E5 CH0.1)
  have S7 : Steps p.tables e below Ω (T5.setTop (mkF m 27 #[.val (.int cd), .val (.int fl), .val (.int t), .val (.int sel), .unset, .unset, .unset, .unset] [(.int (38 : Int32)), (.int (0 : Int32)), (.ref tb), (.ref tb)])) := by
    refine S6.trans ?_
    refine XS.dup X5.here hx rfl (hb hby at_23) rfl rfl ?_
    show Steps p.tables e below (T5.setTop (mkF m 24 #[.val (.int cd), .val (.int fl), .val (.int t), .val (.int sel), .unset, .unset, .unset, .unset] [(.ref tb), (.ref tb)])) _
    refine XS.iconst X5.here hx rfl (hb hby at_24) ?_
    show Steps p.tables e below (T5.setTop (mkF m 25 #[.val (.int cd), .val (.int fl), .val (.int t), .val (.int sel), .unset, .unset, .unset, .unset] [(.int (0 : Int32)), (.ref tb), (.ref tb)])) _
    refine XS.bipush X5.here hx rfl (hb hby at_25) ?_
    exact Steps.refl _
  obtain ⟨T8, h8, X8, e8, W8, V8', st8⟩ := own_stI X5 hx hZ e5 V_0 (j := (0 : Int32)) (i := 0) rfl ⟨by decide, Nat.le_of_ble_eq_true rfl⟩ (g := (mkF m 27 #[.val (.int cd), .val (.int fl), .val (.int t), .val (.int sel), .unset, .unset, .unset, .unset] [(.int (38 : Int32)), (.int (0 : Int32)), (.ref tb), (.ref tb)])) rfl rfl (hb hby at_27)
  have V8 : LA Z h8 tb .int [(.int (38 : Int32)), (.int (0 : Int32)), (.int (0 : Int32)), (.int (0 : Int32)), (.int (0 : Int32)), (.int (0 : Int32)), (.int (0 : Int32)), (.int (0 : Int32))] := V8'
  have S9 : Steps p.tables e below Ω (T8.setTop (mkF m 28 #[.val (.int cd), .val (.int fl), .val (.int t), .val (.int sel), .unset, .unset, .unset, .unset] [(.ref tb)])) := S7.trans (st8 _ (Steps.refl _))
  have N8 := Fr.snoc X8 N0 g_tb
  have O2_8 := O2_0.wr W8
  have O4_8 := O4_0.wr W8
  have SF_8 := Safe.wr W8 SF_0 CH_0.1 SF_0
  have CH_8 := CHr.trans CH_0 (CHr.wr W8 SF_0 CH_0.1)
  have S10 : Steps p.tables e below Ω (T8.setTop (mkF m 32 #[.val (.int cd), .val (.int fl), .val (.int t), .val (.int sel), .unset, .unset, .unset, .unset] [(.int (60 : Int32)), (.int (1 : Int32)), (.ref tb), (.ref tb)])) := by
    refine S9.trans ?_
    refine XS.dup X8.here hx rfl (hb hby at_28) rfl rfl ?_
    show Steps p.tables e below (T8.setTop (mkF m 29 #[.val (.int cd), .val (.int fl), .val (.int t), .val (.int sel), .unset, .unset, .unset, .unset] [(.ref tb), (.ref tb)])) _
    refine XS.iconst X8.here hx rfl (hb hby at_29) ?_
    show Steps p.tables e below (T8.setTop (mkF m 30 #[.val (.int cd), .val (.int fl), .val (.int t), .val (.int sel), .unset, .unset, .unset, .unset] [(.int (1 : Int32)), (.ref tb), (.ref tb)])) _
    refine XS.bipush X8.here hx rfl (hb hby at_30) ?_
    exact Steps.refl _
  obtain ⟨T11, h11, X11, e11, W11, V11', st11⟩ := own_stI X8 hx hZ e8 V8 (j := (1 : Int32)) (i := 1) rfl ⟨by decide, Nat.le_of_ble_eq_true rfl⟩ (g := (mkF m 32 #[.val (.int cd), .val (.int fl), .val (.int t), .val (.int sel), .unset, .unset, .unset, .unset] [(.int (60 : Int32)), (.int (1 : Int32)), (.ref tb), (.ref tb)])) rfl rfl (hb hby at_32)
  have V11 : LA Z h11 tb .int [(.int (38 : Int32)), (.int (60 : Int32)), (.int (0 : Int32)), (.int (0 : Int32)), (.int (0 : Int32)), (.int (0 : Int32)), (.int (0 : Int32)), (.int (0 : Int32))] := V11'
  have S12 : Steps p.tables e below Ω (T11.setTop (mkF m 33 #[.val (.int cd), .val (.int fl), .val (.int t), .val (.int sel), .unset, .unset, .unset, .unset] [(.ref tb)])) := S10.trans (st11 _ (Steps.refl _))
  have N11 := Fr.snoc X11 N8 g_tb
  have O2_11 := O2_8.wr W11
  have O4_11 := O4_8.wr W11
  have SF_11 := Safe.wr W11 SF_8 CH_8.1 SF_8
  have CH_11 := CHr.trans CH_8 (CHr.wr W11 SF_8 CH_8.1)
  have S13 : Steps p.tables e below Ω (T11.setTop (mkF m 37 #[.val (.int cd), .val (.int fl), .val (.int t), .val (.int sel), .unset, .unset, .unset, .unset] [(.int (62 : Int32)), (.int (2 : Int32)), (.ref tb), (.ref tb)])) := by
    refine S12.trans ?_
    refine XS.dup X11.here hx rfl (hb hby at_33) rfl rfl ?_
    show Steps p.tables e below (T11.setTop (mkF m 34 #[.val (.int cd), .val (.int fl), .val (.int t), .val (.int sel), .unset, .unset, .unset, .unset] [(.ref tb), (.ref tb)])) _
    refine XS.iconst X11.here hx rfl (hb hby at_34) ?_
    show Steps p.tables e below (T11.setTop (mkF m 35 #[.val (.int cd), .val (.int fl), .val (.int t), .val (.int sel), .unset, .unset, .unset, .unset] [(.int (2 : Int32)), (.ref tb), (.ref tb)])) _
    refine XS.bipush X11.here hx rfl (hb hby at_35) ?_
    exact Steps.refl _
  obtain ⟨T14, h14, X14, e14, W14, V14', st14⟩ := own_stI X11 hx hZ e11 V11 (j := (2 : Int32)) (i := 2) rfl ⟨by decide, Nat.le_of_ble_eq_true rfl⟩ (g := (mkF m 37 #[.val (.int cd), .val (.int fl), .val (.int t), .val (.int sel), .unset, .unset, .unset, .unset] [(.int (62 : Int32)), (.int (2 : Int32)), (.ref tb), (.ref tb)])) rfl rfl (hb hby at_37)
  have V14 : LA Z h14 tb .int [(.int (38 : Int32)), (.int (60 : Int32)), (.int (62 : Int32)), (.int (0 : Int32)), (.int (0 : Int32)), (.int (0 : Int32)), (.int (0 : Int32)), (.int (0 : Int32))] := V14'
  have S15 : Steps p.tables e below Ω (T14.setTop (mkF m 38 #[.val (.int cd), .val (.int fl), .val (.int t), .val (.int sel), .unset, .unset, .unset, .unset] [(.ref tb)])) := S13.trans (st14 _ (Steps.refl _))
  have N14 := Fr.snoc X14 N11 g_tb
  have O2_14 := O2_11.wr W14
  have O4_14 := O4_11.wr W14
  have SF_14 := Safe.wr W14 SF_11 CH_11.1 SF_11
  have CH_14 := CHr.trans CH_11 (CHr.wr W14 SF_11 CH_11.1)
  have S16 : Steps p.tables e below Ω (T14.setTop (mkF m 42 #[.val (.int cd), .val (.int fl), .val (.int t), .val (.int sel), .unset, .unset, .unset, .unset] [(.int (34 : Int32)), (.int (3 : Int32)), (.ref tb), (.ref tb)])) := by
    refine S15.trans ?_
    refine XS.dup X14.here hx rfl (hb hby at_38) rfl rfl ?_
    show Steps p.tables e below (T14.setTop (mkF m 39 #[.val (.int cd), .val (.int fl), .val (.int t), .val (.int sel), .unset, .unset, .unset, .unset] [(.ref tb), (.ref tb)])) _
    refine XS.iconst X14.here hx rfl (hb hby at_39) ?_
    show Steps p.tables e below (T14.setTop (mkF m 40 #[.val (.int cd), .val (.int fl), .val (.int t), .val (.int sel), .unset, .unset, .unset, .unset] [(.int (3 : Int32)), (.ref tb), (.ref tb)])) _
    refine XS.bipush X14.here hx rfl (hb hby at_40) ?_
    exact Steps.refl _
  obtain ⟨T17, h17, X17, e17, W17, V17', st17⟩ := own_stI X14 hx hZ e14 V14 (j := (3 : Int32)) (i := 3) rfl ⟨by decide, Nat.le_of_ble_eq_true rfl⟩ (g := (mkF m 42 #[.val (.int cd), .val (.int fl), .val (.int t), .val (.int sel), .unset, .unset, .unset, .unset] [(.int (34 : Int32)), (.int (3 : Int32)), (.ref tb), (.ref tb)])) rfl rfl (hb hby at_42)
  have V17 : LA Z h17 tb .int [(.int (38 : Int32)), (.int (60 : Int32)), (.int (62 : Int32)), (.int (34 : Int32)), (.int (0 : Int32)), (.int (0 : Int32)), (.int (0 : Int32)), (.int (0 : Int32))] := V17'
  have S18 : Steps p.tables e below Ω (T17.setTop (mkF m 43 #[.val (.int cd), .val (.int fl), .val (.int t), .val (.int sel), .unset, .unset, .unset, .unset] [(.ref tb)])) := S16.trans (st17 _ (Steps.refl _))
  have N17 := Fr.snoc X17 N14 g_tb
  have O2_17 := O2_14.wr W17
  have O4_17 := O4_14.wr W17
  have SF_17 := Safe.wr W17 SF_14 CH_14.1 SF_14
  have CH_17 := CHr.trans CH_14 (CHr.wr W17 SF_14 CH_14.1)
  have S19 : Steps p.tables e below Ω (T17.setTop (mkF m 47 #[.val (.int cd), .val (.int fl), .val (.int t), .val (.int sel), .unset, .unset, .unset, .unset] [(.int (9 : Int32)), (.int (4 : Int32)), (.ref tb), (.ref tb)])) := by
    refine S18.trans ?_
    refine XS.dup X17.here hx rfl (hb hby at_43) rfl rfl ?_
    show Steps p.tables e below (T17.setTop (mkF m 44 #[.val (.int cd), .val (.int fl), .val (.int t), .val (.int sel), .unset, .unset, .unset, .unset] [(.ref tb), (.ref tb)])) _
    refine XS.iconst X17.here hx rfl (hb hby at_44) ?_
    show Steps p.tables e below (T17.setTop (mkF m 45 #[.val (.int cd), .val (.int fl), .val (.int t), .val (.int sel), .unset, .unset, .unset, .unset] [(.int (4 : Int32)), (.ref tb), (.ref tb)])) _
    refine XS.bipush X17.here hx rfl (hb hby at_45) ?_
    exact Steps.refl _
  obtain ⟨T20, h20, X20, e20, W20, V20', st20⟩ := own_stI X17 hx hZ e17 V17 (j := (4 : Int32)) (i := 4) rfl ⟨by decide, Nat.le_of_ble_eq_true rfl⟩ (g := (mkF m 47 #[.val (.int cd), .val (.int fl), .val (.int t), .val (.int sel), .unset, .unset, .unset, .unset] [(.int (9 : Int32)), (.int (4 : Int32)), (.ref tb), (.ref tb)])) rfl rfl (hb hby at_47)
  have V20 : LA Z h20 tb .int [(.int (38 : Int32)), (.int (60 : Int32)), (.int (62 : Int32)), (.int (34 : Int32)), (.int (9 : Int32)), (.int (0 : Int32)), (.int (0 : Int32)), (.int (0 : Int32))] := V20'
  have S21 : Steps p.tables e below Ω (T20.setTop (mkF m 48 #[.val (.int cd), .val (.int fl), .val (.int t), .val (.int sel), .unset, .unset, .unset, .unset] [(.ref tb)])) := S19.trans (st20 _ (Steps.refl _))
  have N20 := Fr.snoc X20 N17 g_tb
  have O2_20 := O2_17.wr W20
  have O4_20 := O4_17.wr W20
  have SF_20 := Safe.wr W20 SF_17 CH_17.1 SF_17
  have CH_20 := CHr.trans CH_17 (CHr.wr W20 SF_17 CH_17.1)
  have S22 : Steps p.tables e below Ω (T20.setTop (mkF m 52 #[.val (.int cd), .val (.int fl), .val (.int t), .val (.int sel), .unset, .unset, .unset, .unset] [(.int (10 : Int32)), (.int (5 : Int32)), (.ref tb), (.ref tb)])) := by
    refine S21.trans ?_
    refine XS.dup X20.here hx rfl (hb hby at_48) rfl rfl ?_
    show Steps p.tables e below (T20.setTop (mkF m 49 #[.val (.int cd), .val (.int fl), .val (.int t), .val (.int sel), .unset, .unset, .unset, .unset] [(.ref tb), (.ref tb)])) _
    refine XS.iconst X20.here hx rfl (hb hby at_49) ?_
    show Steps p.tables e below (T20.setTop (mkF m 50 #[.val (.int cd), .val (.int fl), .val (.int t), .val (.int sel), .unset, .unset, .unset, .unset] [(.int (5 : Int32)), (.ref tb), (.ref tb)])) _
    refine XS.bipush X20.here hx rfl (hb hby at_50) ?_
    exact Steps.refl _
  obtain ⟨T23, h23, X23, e23, W23, V23', st23⟩ := own_stI X20 hx hZ e20 V20 (j := (5 : Int32)) (i := 5) rfl ⟨by decide, Nat.le_of_ble_eq_true rfl⟩ (g := (mkF m 52 #[.val (.int cd), .val (.int fl), .val (.int t), .val (.int sel), .unset, .unset, .unset, .unset] [(.int (10 : Int32)), (.int (5 : Int32)), (.ref tb), (.ref tb)])) rfl rfl (hb hby at_52)
  have V23 : LA Z h23 tb .int [(.int (38 : Int32)), (.int (60 : Int32)), (.int (62 : Int32)), (.int (34 : Int32)), (.int (9 : Int32)), (.int (10 : Int32)), (.int (0 : Int32)), (.int (0 : Int32))] := V23'
  have S24 : Steps p.tables e below Ω (T23.setTop (mkF m 53 #[.val (.int cd), .val (.int fl), .val (.int t), .val (.int sel), .unset, .unset, .unset, .unset] [(.ref tb)])) := S22.trans (st23 _ (Steps.refl _))
  have N23 := Fr.snoc X23 N20 g_tb
  have O2_23 := O2_20.wr W23
  have O4_23 := O4_20.wr W23
  have SF_23 := Safe.wr W23 SF_20 CH_20.1 SF_20
  have CH_23 := CHr.trans CH_20 (CHr.wr W23 SF_20 CH_20.1)
  have S25 : Steps p.tables e below Ω (T23.setTop (mkF m 58 #[.val (.int cd), .val (.int fl), .val (.int t), .val (.int sel), .unset, .unset, .unset, .unset] [(.int (13 : Int32)), (.int (6 : Int32)), (.ref tb), (.ref tb)])) := by
    refine S24.trans ?_
    refine XS.dup X23.here hx rfl (hb hby at_53) rfl rfl ?_
    show Steps p.tables e below (T23.setTop (mkF m 54 #[.val (.int cd), .val (.int fl), .val (.int t), .val (.int sel), .unset, .unset, .unset, .unset] [(.ref tb), (.ref tb)])) _
    refine XS.bipush X23.here hx rfl (hb hby at_54) ?_
    show Steps p.tables e below (T23.setTop (mkF m 56 #[.val (.int cd), .val (.int fl), .val (.int t), .val (.int sel), .unset, .unset, .unset, .unset] [(.int (6 : Int32)), (.ref tb), (.ref tb)])) _
    refine XS.bipush X23.here hx rfl (hb hby at_56) ?_
    exact Steps.refl _
  obtain ⟨T26, h26, X26, e26, W26, V26', st26⟩ := own_stI X23 hx hZ e23 V23 (j := (6 : Int32)) (i := 6) rfl ⟨by decide, Nat.le_of_ble_eq_true rfl⟩ (g := (mkF m 58 #[.val (.int cd), .val (.int fl), .val (.int t), .val (.int sel), .unset, .unset, .unset, .unset] [(.int (13 : Int32)), (.int (6 : Int32)), (.ref tb), (.ref tb)])) rfl rfl (hb hby at_58)
  have V26 : LA Z h26 tb .int [(.int (38 : Int32)), (.int (60 : Int32)), (.int (62 : Int32)), (.int (34 : Int32)), (.int (9 : Int32)), (.int (10 : Int32)), (.int (13 : Int32)), (.int (0 : Int32))] := V26'
  have S27 : Steps p.tables e below Ω (T26.setTop (mkF m 59 #[.val (.int cd), .val (.int fl), .val (.int t), .val (.int sel), .unset, .unset, .unset, .unset] [(.ref tb)])) := S25.trans (st26 _ (Steps.refl _))
  have N26 := Fr.snoc X26 N23 g_tb
  have O2_26 := O2_23.wr W26
  have O4_26 := O4_23.wr W26
  have SF_26 := Safe.wr W26 SF_23 CH_23.1 SF_23
  have CH_26 := CHr.trans CH_23 (CHr.wr W26 SF_23 CH_23.1)
  have S28 : Steps p.tables e below Ω (T26.setTop (mkF m 64 #[.val (.int cd), .val (.int fl), .val (.int t), .val (.int sel), .unset, .unset, .unset, .unset] [(.int (32 : Int32)), (.int (7 : Int32)), (.ref tb), (.ref tb)])) := by
    refine S27.trans ?_
    refine XS.dup X26.here hx rfl (hb hby at_59) rfl rfl ?_
    show Steps p.tables e below (T26.setTop (mkF m 60 #[.val (.int cd), .val (.int fl), .val (.int t), .val (.int sel), .unset, .unset, .unset, .unset] [(.ref tb), (.ref tb)])) _
    refine XS.bipush X26.here hx rfl (hb hby at_60) ?_
    show Steps p.tables e below (T26.setTop (mkF m 62 #[.val (.int cd), .val (.int fl), .val (.int t), .val (.int sel), .unset, .unset, .unset, .unset] [(.int (7 : Int32)), (.ref tb), (.ref tb)])) _
    refine XS.bipush X26.here hx rfl (hb hby at_62) ?_
    exact Steps.refl _
  obtain ⟨T29, h29, X29, e29, W29, V29', st29⟩ := own_stI X26 hx hZ e26 V26 (j := (7 : Int32)) (i := 7) rfl ⟨by decide, Nat.le_of_ble_eq_true rfl⟩ (g := (mkF m 64 #[.val (.int cd), .val (.int fl), .val (.int t), .val (.int sel), .unset, .unset, .unset, .unset] [(.int (32 : Int32)), (.int (7 : Int32)), (.ref tb), (.ref tb)])) rfl rfl (hb hby at_64)
  have V29 : LA Z h29 tb .int [(.int (38 : Int32)), (.int (60 : Int32)), (.int (62 : Int32)), (.int (34 : Int32)), (.int (9 : Int32)), (.int (10 : Int32)), (.int (13 : Int32)), (.int (32 : Int32))] := V29'
  have S30 : Steps p.tables e below Ω (T29.setTop (mkF m 65 #[.val (.int cd), .val (.int fl), .val (.int t), .val (.int sel), .unset, .unset, .unset, .unset] [(.ref tb)])) := S28.trans (st29 _ (Steps.refl _))
  have N29 := Fr.snoc X29 N26 g_tb
  have O2_29 := O2_26.wr W29
  have O4_29 := O4_26.wr W29
  have SF_29 := Safe.wr W29 SF_26 CH_26.1 SF_26
  have CH_29 := CHr.trans CH_26 (CHr.wr W29 SF_26 CH_26.1)
  have S31 : Steps p.tables e below Ω (T29.setTop (mkF m 70 #[.val (.int cd), .val (.int fl), .val (.int t), .val (.int sel), .val (.ref tb), .unset, .unset, .unset] [(.int (8 : Int32)), (.int sel)])) := by
    refine S30.trans ?_
    refine XS.astore X29.here hx rfl (hb hby at_65) rfl rfl (l' := #[.val (.int cd), .val (.int fl), .val (.int t), .val (.int sel), .val (.ref tb), .unset, .unset, .unset]) rfl ?_
    show Steps p.tables e below (T29.setTop (mkF m 67 #[.val (.int cd), .val (.int fl), .val (.int t), .val (.int sel), .val (.ref tb), .unset, .unset, .unset] [])) _
    refine XS.iloadN X29.here hx rfl (hb hby at_67) rfl ?_
    show Steps p.tables e below (T29.setTop (mkF m 68 #[.val (.int cd), .val (.int fl), .val (.int t), .val (.int sel), .val (.ref tb), .unset, .unset, .unset] [(.int sel)])) _
    refine XS.bipush X29.here hx rfl (hb hby at_68) ?_
    exact Steps.refl _
  obtain ⟨cc, S32⟩ : ∃ z9 : Int32, Steps p.tables e below Ω (T29.setTop (mkF m 81 #[.val (.int cd), .val (.int fl), .val (.int t), .val (.int sel), .val (.ref tb), .unset, .unset, .unset] [(.int z9)])) := by
    by_cases h8 : sel < (8 : Int32)
    · have qh8 : sel.toInt < 8 := Int32.lt_iff_toInt_lt.mp h8
      have S33 : Steps p.tables e below Ω (T29.setTop (mkF m 76 #[.val (.int cd), .val (.int fl), .val (.int t), .val (.int sel), .val (.ref tb), .unset, .unset, .unset] [(.int sel), (.ref tb)])) := by
        refine S31.trans ?_
        refine XS.icmpNo X29.here hx rfl (hb hby at_70) rfl (XT.ii_ge_f h8) ?_
        show Steps p.tables e below (T29.setTop (mkF m 73 #[.val (.int cd), .val (.int fl), .val (.int t), .val (.int sel), .val (.ref tb), .unset, .unset, .unset] [])) _
        refine XS.aload X29.here hx rfl (hb hby at_73) rfl rfl ?_
        show Steps p.tables e below (T29.setTop (mkF m 75 #[.val (.int cd), .val (.int fl), .val (.int t), .val (.int sel), .val (.ref tb), .unset, .unset, .unset] [(.ref tb)])) _
        refine XS.iloadN X29.here hx rfl (hb hby at_75) rfl ?_
        exact Steps.refl _
      obtain ⟨y9, hy9⟩ := own_tab (x := sel) (by rw [h_sel]; exact own_and15 _) h8 [(38 : Int32), (60 : Int32), (62 : Int32), (34 : Int32), (9 : Int32), (10 : Int32), (13 : Int32), (32 : Int32)] rfl
      have S34 : Steps p.tables e below Ω (T29.setTop (mkF m 77 #[.val (.int cd), .val (.int fl), .val (.int t), .val (.int sel), .val (.ref tb), .unset, .unset, .unset] [(.int y9)])) := S33.trans (own_ldI X29 hx hZ e29 V29 (j := sel) (x := y9) (by rw [h_sel]; exact own_and15 _) hy9 (g := (mkF m 76 #[.val (.int cd), .val (.int fl), .val (.int t), .val (.int sel), .val (.ref tb), .unset, .unset, .unset] [(.int sel), (.ref tb)])) rfl rfl (hb hby at_76) _ (Steps.refl _))
      have S35 : Steps p.tables e below Ω (T29.setTop (mkF m 81 #[.val (.int cd), .val (.int fl), .val (.int t), .val (.int sel), .val (.ref tb), .unset, .unset, .unset] [(.int y9)])) := by
        refine S34.trans ?_
        refine XS.goto X29.here hx rfl (pc0 := 77) (pc' := 81) rfl (hb hby at_77) (by decide) (by decide) ?_
        exact Steps.refl _
      exact ⟨y9, S35⟩
    · have qh8 : ¬ sel.toInt < 8 := fun q => h8 (Int32.lt_iff_toInt_lt.mpr q)
      have S36 : Steps p.tables e below Ω (T29.setTop (mkF m 81 #[.val (.int cd), .val (.int fl), .val (.int t), .val (.int sel), .val (.ref tb), .unset, .unset, .unset] [(.int cd)])) := by
        refine S31.trans ?_
        refine XS.icmpYes X29.here hx rfl (pc0 := 70) (pc' := 80) rfl (hb hby at_70) rfl (XT.ii_ge_t h8) (by decide) (by decide) ?_
        show Steps p.tables e below (T29.setTop (mkF m 80 #[.val (.int cd), .val (.int fl), .val (.int t), .val (.int sel), .val (.ref tb), .unset, .unset, .unset] [])) _
        refine XS.iloadN X29.here hx rfl (hb hby at_80) rfl ?_
        exact Steps.refl _
      exact ⟨cd, S36⟩
  have S37 : Steps p.tables e below Ω (T29.setTop (mkF m 86 #[.val (.int cd), .val (.int fl), .val (.int t), .val (.int sel), .val (.ref tb), .val (.int cc), .unset, .unset] [(.int t), (.int cc)])) := by
    refine S32.trans ?_
    refine XS.istore X29.here hx rfl (hb hby at_81) rfl (l' := #[.val (.int cd), .val (.int fl), .val (.int t), .val (.int sel), .val (.ref tb), .val (.int cc), .unset, .unset]) rfl ?_
    show Steps p.tables e below (T29.setTop (mkF m 83 #[.val (.int cd), .val (.int fl), .val (.int t), .val (.int sel), .val (.ref tb), .val (.int cc), .unset, .unset] [])) _
    refine XS.iload X29.here hx rfl (hb hby at_83) rfl ?_
    show Steps p.tables e below (T29.setTop (mkF m 85 #[.val (.int cd), .val (.int fl), .val (.int t), .val (.int sel), .val (.ref tb), .val (.int cc), .unset, .unset] [(.int cc)])) _
    refine XS.iloadN X29.here hx rfl (hb hby at_85) rfl ?_
    exact Steps.refl _
  obtain ⟨v38, T38, L38, X38, hS38, hZ, hown, hg38, hQ38, C38, st38⟩ := own_callH (R := room_1) (s := s) (vm0 := s.vm) X29 hx hS0 (by rw [e29]; exact (Nat.le_trans (Nat.le_trans (Nat.le_trans (Nat.le_trans (Nat.le_trans (Nat.le_trans (Nat.le_trans (Nat.le_trans (Nat.le_trans (Nat.le_refl h0.size) E5.1) (Keep.of_wr W8).1) (Keep.of_wr W11).1) (Keep.of_wr W14).1) (Keep.of_wr W17).1) (Keep.of_wr W20).1) (Keep.of_wr W23).1) (Keep.of_wr W26).1) (Keep.of_wr W29).1)) hZ (y := (⟨"com/example/distill_trees/distilltrees/io/XmlWriter", "reference", "(IZ)Ljava/lang/String;"⟩ : MethodName)) hown (mvT hZ (hw _ (List.mem_of_getElem? (i := 1) rfl))) (mvT hZ (hw _ (List.mem_of_getElem? (i := 2) rfl))) (mvT hZ (hw _ (List.mem_of_getElem? (i := 3) rfl))) (mvT hZ (hw _ (List.mem_of_getElem? (i := 4) rfl))) (by decide) (backOfSH (R := room_1) (s := s) (vm0 := s.vm) (W := 0) (rm1 l Z a0 hw [] cc t  h29 n0 (Nat.le_trans (Nat.le_trans (Nat.le_trans (Nat.le_trans (Nat.le_trans (Nat.le_trans (Nat.le_trans (Nat.le_trans (Nat.le_trans Z0 E5.1) (Keep.of_wr W8).1) (Keep.of_wr W11).1) (Keep.of_wr W14).1) (Keep.of_wr W17).1) (Keep.of_wr W20).1) (Keep.of_wr W23).1) (Keep.of_wr W26).1) (Keep.of_wr W29).1) ) hZ (hw _ (List.mem_of_getElem? (i := 4) rfl)) (hw _ (List.mem_of_getElem? (i := 3) rfl)) (by decide) (by decide) (own_lk hw) CH_29.1) (g := (mkF m 86 #[.val (.int cd), .val (.int fl), .val (.int t), .val (.int sel), .val (.ref tb), .val (.int cc), .unset, .unset] [(.int t), (.int cc)])) rfl (by rw [hml]; rfl) (argsL := [(.int cc), (.int t)]) (rest := []) (lenOf pd_4 rfl) rfl (by show 2 * 0 + _ ≤ _; exact Nat.le_of_eq rfl) (hb hby at_86) ⟨rfl, e29, (by decide : 1 + 2 ≤ room_1.cells), (by decide : 8 + 28 ≤ room_1.slots)⟩
  have CH38 := CHr.trans CH_29 C38
  obtain ⟨N38q, EX, hr⟩ := hQ38
  have N38 := Fr.app N29 N38q
  have O2x := O2_29.ext EX
  have O4x := O4_29.ext EX
  rcases hr with ⟨hv, n38, n60, n13, n3, n4⟩ | ⟨ra, hv, hr⟩
  · rw [hv] at st38
    have S39 : Steps p.tables e below Ω (T38.setTop (mkF m 89 #[.val (.int cd), .val (.int fl), .val (.int t), .val (.int sel), .val (.ref tb), .val (.int cc), .unset, .unset] [.null])) := S37.trans st38
    have S40 : Steps p.tables e below Ω (T38.setTop (mkF m 95 #[.val (.int cd), .val (.int fl), .val (.int t), .val (.int sel), .val (.ref tb), .val (.int cc), .val .null, .unset] [(.int (38 : Int32)), (.int cc)])) := by
      refine S39.trans ?_
      refine XS.astore X38.here hx rfl (hb hby at_89) rfl rfl (l' := #[.val (.int cd), .val (.int fl), .val (.int t), .val (.int sel), .val (.ref tb), .val (.int cc), .val .null, .unset]) rfl ?_
      show Steps p.tables e below (T38.setTop (mkF m 91 #[.val (.int cd), .val (.int fl), .val (.int t), .val (.int sel), .val (.ref tb), .val (.int cc), .val .null, .unset] [])) _
      refine XS.iload X38.here hx rfl (hb hby at_91) rfl ?_
      show Steps p.tables e below (T38.setTop (mkF m 93 #[.val (.int cd), .val (.int fl), .val (.int t), .val (.int sel), .val (.ref tb), .val (.int cc), .val .null, .unset] [(.int cc)])) _
      refine XS.bipush X38.here hx rfl (hb hby at_93) ?_
      exact Steps.refl _
    have S41 : Steps p.tables e below Ω (T38.setTop (mkF m 102 #[.val (.int cd), .val (.int fl), .val (.int t), .val (.int sel), .val (.ref tb), .val (.int cc), .val .null, .unset] [(.int (60 : Int32)), (.int cc)])) := by
      refine S40.trans ?_
      refine XS.icmpNo X38.here hx rfl (hb hby at_95) rfl (XT.ii_eq_f n38) ?_
      show Steps p.tables e below (T38.setTop (mkF m 98 #[.val (.int cd), .val (.int fl), .val (.int t), .val (.int sel), .val (.ref tb), .val (.int cc), .val .null, .unset] [])) _
      refine XS.iload X38.here hx rfl (hb hby at_98) rfl ?_
      show Steps p.tables e below (T38.setTop (mkF m 100 #[.val (.int cd), .val (.int fl), .val (.int t), .val (.int sel), .val (.ref tb), .val (.int cc), .val .null, .unset] [(.int cc)])) _
      refine XS.bipush X38.here hx rfl (hb hby at_100) ?_
      exact Steps.refl _
    have S42 : Steps p.tables e below Ω (T38.setTop (mkF m 109 #[.val (.int cd), .val (.int fl), .val (.int t), .val (.int sel), .val (.ref tb), .val (.int cc), .val .null, .unset] [(.int (13 : Int32)), (.int cc)])) := by
      refine S41.trans ?_
      refine XS.icmpNo X38.here hx rfl (hb hby at_102) rfl (XT.ii_eq_f n60) ?_
      show Steps p.tables e below (T38.setTop (mkF m 105 #[.val (.int cd), .val (.int fl), .val (.int t), .val (.int sel), .val (.ref tb), .val (.int cc), .val .null, .unset] [])) _
      refine XS.iload X38.here hx rfl (hb hby at_105) rfl ?_
      show Steps p.tables e below (T38.setTop (mkF m 107 #[.val (.int cd), .val (.int fl), .val (.int t), .val (.int sel), .val (.ref tb), .val (.int cc), .val .null, .unset] [(.int cc)])) _
      refine XS.bipush X38.here hx rfl (hb hby at_107) ?_
      exact Steps.refl _
    have S43 : Steps p.tables e below Ω (T38.setTop (mkF m 113 #[.val (.int cd), .val (.int fl), .val (.int t), .val (.int sel), .val (.ref tb), .val (.int cc), .val .null, .unset] [(.int t)])) := by
      refine S42.trans ?_
      refine XS.icmpNo X38.here hx rfl (hb hby at_109) rfl (XT.ii_eq_f n13) ?_
      show Steps p.tables e below (T38.setTop (mkF m 112 #[.val (.int cd), .val (.int fl), .val (.int t), .val (.int sel), .val (.ref tb), .val (.int cc), .val .null, .unset] [])) _
      refine XS.iloadN X38.here hx rfl (hb hby at_112) rfl ?_
      exact Steps.refl _
    by_cases t0 : t = (0 : Int32)
    · have qt0 : t.toInt = 0 := congrArg Int32.toInt t0
      have S44 : Steps p.tables e below Ω (T38.setTop (mkF m 144 #[.val (.int cd), .val (.int fl), .val (.int t), .val (.int sel), .val (.ref tb), .val (.int cc), .val .null, .unset] [(.int (62 : Int32)), (.int cc)])) := by
        refine S43.trans ?_
        refine XS.ifYes X38.here hx rfl (pc0 := 113) (pc' := 140) rfl (hb hby at_113) rfl (XT.i0_eq_t t0) (by decide) (by decide) ?_
        show Steps p.tables e below (T38.setTop (mkF m 140 #[.val (.int cd), .val (.int fl), .val (.int t), .val (.int sel), .val (.ref tb), .val (.int cc), .val .null, .unset] [])) _
        refine XS.iload X38.here hx rfl (hb hby at_140) rfl ?_
        show Steps p.tables e below (T38.setTop (mkF m 142 #[.val (.int cd), .val (.int fl), .val (.int t), .val (.int sel), .val (.ref tb), .val (.int cc), .val .null, .unset] [(.int cc)])) _
        refine XS.bipush X38.here hx rfl (hb hby at_142) ?_
        exact Steps.refl _
      have S45 : Steps p.tables e below Ω (T38.setTop (mkF m 169 #[.val (.int cd), .val (.int fl), .val (.int t), .val (.int sel), .val (.ref tb), .val (.int cc), .val .null, .val (.int (0 : Int32))] [(.int (1 : Int32))])) := by
        refine S44.trans ?_
        refine XS.icmpYes X38.here hx rfl (pc0 := 144) (pc' := 151) rfl (hb hby at_144) rfl (XT.ii_ne_t (n4 t0)) (by decide) (by decide) ?_
        show Steps p.tables e below (T38.setTop (mkF m 151 #[.val (.int cd), .val (.int fl), .val (.int t), .val (.int sel), .val (.ref tb), .val (.int cc), .val .null, .unset] [])) _
        refine XS.iconst X38.here hx rfl (hb hby at_151) ?_
        show Steps p.tables e below (T38.setTop (mkF m 152 #[.val (.int cd), .val (.int fl), .val (.int t), .val (.int sel), .val (.ref tb), .val (.int cc), .val .null, .unset] [(.int (0 : Int32))])) _
        refine XS.istore X38.here hx rfl (hb hby at_152) rfl (l' := #[.val (.int cd), .val (.int fl), .val (.int t), .val (.int sel), .val (.ref tb), .val (.int cc), .val .null, .val (.int (0 : Int32))]) rfl ?_
        show Steps p.tables e below (T38.setTop (mkF m 154 #[.val (.int cd), .val (.int fl), .val (.int t), .val (.int sel), .val (.ref tb), .val (.int cc), .val .null, .val (.int (0 : Int32))] [])) _
        refine XS.iload X38.here hx rfl (hb hby at_154) rfl ?_
        show Steps p.tables e below (T38.setTop (mkF m 156 #[.val (.int cd), .val (.int fl), .val (.int t), .val (.int sel), .val (.ref tb), .val (.int cc), .val .null, .val (.int (0 : Int32))] [(.int (0 : Int32))])) _
        refine XS.ifNo X38.here hx rfl (hb hby at_156) rfl (XT.i0_ne_f (by decide)) ?_
        show Steps p.tables e below (T38.setTop (mkF m 159 #[.val (.int cd), .val (.int fl), .val (.int t), .val (.int sel), .val (.ref tb), .val (.int cc), .val .null, .val (.int (0 : Int32))] [])) _
        refine XS.aload X38.here hx rfl (hb hby at_159) rfl rfl ?_
        show Steps p.tables e below (T38.setTop (mkF m 161 #[.val (.int cd), .val (.int fl), .val (.int t), .val (.int sel), .val (.ref tb), .val (.int cc), .val .null, .val (.int (0 : Int32))] [.null])) _
        refine XS.ifnonnullNo X38.here hx rfl (hb hby at_161) rfl ?_
        show Steps p.tables e below (T38.setTop (mkF m 164 #[.val (.int cd), .val (.int fl), .val (.int t), .val (.int sel), .val (.ref tb), .val (.int cc), .val .null, .val (.int (0 : Int32))] [])) _
        refine XS.iconst X38.here hx rfl (hb hby at_164) ?_
        show Steps p.tables e below (T38.setTop (mkF m 165 #[.val (.int cd), .val (.int fl), .val (.int t), .val (.int sel), .val (.ref tb), .val (.int cc), .val .null, .val (.int (0 : Int32))] [(.int (1 : Int32))])) _
        refine XS.goto X38.here hx rfl (pc0 := 165) (pc' := 169) rfl (hb hby at_165) (by decide) (by decide) ?_
        exact Steps.refl _
      obtain ⟨fs, hr, hrun, hended, hend⟩ := Stand.leaveW (s := s) (vm₁ := T38.vm) X38 hS38 (by rw [(rfl : T38.heap = T38.heap)]; exact (Nat.le_refl _)) (v := some (.int (1 : Int32))) (fun h => by rw [Bd.returns] at h; cases h)
      have hfin : Steps p.tables e below Ω (T38.setFrames fs) := by
        refine S45.trans ?_
        exact own_retZ X38 hx Bd.returns (by decide) (hb hby at_169) hr
      rw [hΩ] at hfin
      have CHe : CHr Z consts_1 s.vm s.heap T38.vm T38.heap := by
        rw [hh]
        exact CHr.trans CH38 (CHv.at (s := s) (vm0 := T38.vm) X38 hZ (own_lk hw) CH38.1)
      refine ⟨_, _, hfin, hrun, hended, _, _, rfl, ?_, CHe, hend.1, hend.2.1, hend.2.2.1, hend.2.2.2.mono (by decide) (by decide)⟩
      show Q0 Z cd fl z fm h0 n0 _ T38.heap _
      exact ⟨rfl, N38⟩
    · have qt0 : ¬ t.toInt = 0 := fun q => t0 (Int32.toInt_inj.mp q)
      have S46 : Steps p.tables e below Ω (T38.setTop (mkF m 120 #[.val (.int cd), .val (.int fl), .val (.int t), .val (.int sel), .val (.ref tb), .val (.int cc), .val .null, .unset] [(.int (34 : Int32)), (.int cc)])) := by
        refine S43.trans ?_
        refine XS.ifNo X38.here hx rfl (hb hby at_113) rfl (XT.i0_eq_f t0) ?_
        show Steps p.tables e below (T38.setTop (mkF m 116 #[.val (.int cd), .val (.int fl), .val (.int t), .val (.int sel), .val (.ref tb), .val (.int cc), .val .null, .unset] [])) _
        refine XS.iload X38.here hx rfl (hb hby at_116) rfl ?_
        show Steps p.tables e below (T38.setTop (mkF m 118 #[.val (.int cd), .val (.int fl), .val (.int t), .val (.int sel), .val (.ref tb), .val (.int cc), .val .null, .unset] [(.int cc)])) _
        refine XS.bipush X38.here hx rfl (hb hby at_118) ?_
        exact Steps.refl _
      have S47 : Steps p.tables e below Ω (T38.setTop (mkF m 127 #[.val (.int cd), .val (.int fl), .val (.int t), .val (.int sel), .val (.ref tb), .val (.int cc), .val .null, .unset] [(.int (9 : Int32)), (.int cc)])) := by
        refine S46.trans ?_
        refine XS.icmpNo X38.here hx rfl (hb hby at_120) rfl (XT.ii_eq_f (n3 t0).1) ?_
        show Steps p.tables e below (T38.setTop (mkF m 123 #[.val (.int cd), .val (.int fl), .val (.int t), .val (.int sel), .val (.ref tb), .val (.int cc), .val .null, .unset] [])) _
        refine XS.iload X38.here hx rfl (hb hby at_123) rfl ?_
        show Steps p.tables e below (T38.setTop (mkF m 125 #[.val (.int cd), .val (.int fl), .val (.int t), .val (.int sel), .val (.ref tb), .val (.int cc), .val .null, .unset] [(.int cc)])) _
        refine XS.bipush X38.here hx rfl (hb hby at_125) ?_
        exact Steps.refl _
      have S48 : Steps p.tables e below Ω (T38.setTop (mkF m 134 #[.val (.int cd), .val (.int fl), .val (.int t), .val (.int sel), .val (.ref tb), .val (.int cc), .val .null, .unset] [(.int (10 : Int32)), (.int cc)])) := by
        refine S47.trans ?_
        refine XS.icmpNo X38.here hx rfl (hb hby at_127) rfl (XT.ii_eq_f (n3 t0).2.1) ?_
        show Steps p.tables e below (T38.setTop (mkF m 130 #[.val (.int cd), .val (.int fl), .val (.int t), .val (.int sel), .val (.ref tb), .val (.int cc), .val .null, .unset] [])) _
        refine XS.iload X38.here hx rfl (hb hby at_130) rfl ?_
        show Steps p.tables e below (T38.setTop (mkF m 132 #[.val (.int cd), .val (.int fl), .val (.int t), .val (.int sel), .val (.ref tb), .val (.int cc), .val .null, .unset] [(.int cc)])) _
        refine XS.bipush X38.here hx rfl (hb hby at_132) ?_
        exact Steps.refl _
      have S49 : Steps p.tables e below Ω (T38.setTop (mkF m 169 #[.val (.int cd), .val (.int fl), .val (.int t), .val (.int sel), .val (.ref tb), .val (.int cc), .val .null, .val (.int (0 : Int32))] [(.int (1 : Int32))])) := by
        refine S48.trans ?_
        refine XS.icmpYes X38.here hx rfl (pc0 := 134) (pc' := 151) rfl (hb hby at_134) rfl (XT.ii_ne_t (n3 t0).2.2) (by decide) (by decide) ?_
        show Steps p.tables e below (T38.setTop (mkF m 151 #[.val (.int cd), .val (.int fl), .val (.int t), .val (.int sel), .val (.ref tb), .val (.int cc), .val .null, .unset] [])) _
        refine XS.iconst X38.here hx rfl (hb hby at_151) ?_
        show Steps p.tables e below (T38.setTop (mkF m 152 #[.val (.int cd), .val (.int fl), .val (.int t), .val (.int sel), .val (.ref tb), .val (.int cc), .val .null, .unset] [(.int (0 : Int32))])) _
        refine XS.istore X38.here hx rfl (hb hby at_152) rfl (l' := #[.val (.int cd), .val (.int fl), .val (.int t), .val (.int sel), .val (.ref tb), .val (.int cc), .val .null, .val (.int (0 : Int32))]) rfl ?_
        show Steps p.tables e below (T38.setTop (mkF m 154 #[.val (.int cd), .val (.int fl), .val (.int t), .val (.int sel), .val (.ref tb), .val (.int cc), .val .null, .val (.int (0 : Int32))] [])) _
        refine XS.iload X38.here hx rfl (hb hby at_154) rfl ?_
        show Steps p.tables e below (T38.setTop (mkF m 156 #[.val (.int cd), .val (.int fl), .val (.int t), .val (.int sel), .val (.ref tb), .val (.int cc), .val .null, .val (.int (0 : Int32))] [(.int (0 : Int32))])) _
        refine XS.ifNo X38.here hx rfl (hb hby at_156) rfl (XT.i0_ne_f (by decide)) ?_
        show Steps p.tables e below (T38.setTop (mkF m 159 #[.val (.int cd), .val (.int fl), .val (.int t), .val (.int sel), .val (.ref tb), .val (.int cc), .val .null, .val (.int (0 : Int32))] [])) _
        refine XS.aload X38.here hx rfl (hb hby at_159) rfl rfl ?_
        show Steps p.tables e below (T38.setTop (mkF m 161 #[.val (.int cd), .val (.int fl), .val (.int t), .val (.int sel), .val (.ref tb), .val (.int cc), .val .null, .val (.int (0 : Int32))] [.null])) _
        refine XS.ifnonnullNo X38.here hx rfl (hb hby at_161) rfl ?_
        show Steps p.tables e below (T38.setTop (mkF m 164 #[.val (.int cd), .val (.int fl), .val (.int t), .val (.int sel), .val (.ref tb), .val (.int cc), .val .null, .val (.int (0 : Int32))] [])) _
        refine XS.iconst X38.here hx rfl (hb hby at_164) ?_
        show Steps p.tables e below (T38.setTop (mkF m 165 #[.val (.int cd), .val (.int fl), .val (.int t), .val (.int sel), .val (.ref tb), .val (.int cc), .val .null, .val (.int (0 : Int32))] [(.int (1 : Int32))])) _
        refine XS.goto X38.here hx rfl (pc0 := 165) (pc' := 169) rfl (hb hby at_165) (by decide) (by decide) ?_
        exact Steps.refl _
      obtain ⟨fs, hr, hrun, hended, hend⟩ := Stand.leaveW (s := s) (vm₁ := T38.vm) X38 hS38 (by rw [(rfl : T38.heap = T38.heap)]; exact (Nat.le_refl _)) (v := some (.int (1 : Int32))) (fun h => by rw [Bd.returns] at h; cases h)
      have hfin : Steps p.tables e below Ω (T38.setFrames fs) := by
        refine S49.trans ?_
        exact own_retZ X38 hx Bd.returns (by decide) (hb hby at_169) hr
      rw [hΩ] at hfin
      have CHe : CHr Z consts_1 s.vm s.heap T38.vm T38.heap := by
        rw [hh]
        exact CHr.trans CH38 (CHv.at (s := s) (vm0 := T38.vm) X38 hZ (own_lk hw) CH38.1)
      refine ⟨_, _, hfin, hrun, hended, _, _, rfl, ?_, CHe, hend.1, hend.2.1, hend.2.2.1, hend.2.2.2.mono (by decide) (by decide)⟩
      show Q0 Z cd fl z fm h0 n0 _ T38.heap _
      exact ⟨rfl, N38⟩
  · rcases hr with ⟨hcc, Lr⟩ | ⟨hcc, Lr⟩ | ⟨hcc, Lr⟩ | ⟨hcc, t0, Lr⟩ | ⟨hcc, t0, Lr⟩ | ⟨hcc, t0, Lr⟩ | ⟨hcc, t0, Lr⟩
    · subst hcc
      rw [hv] at st38
      have S50 : Steps p.tables e below Ω (T38.setTop (mkF m 89 #[.val (.int cd), .val (.int fl), .val (.int t), .val (.int sel), .val (.ref tb), .val (.int (38 : Int32)), .unset, .unset] [(.ref ra)])) := S37.trans st38
      have S51 : Steps p.tables e below Ω (T38.setTop (mkF m 177 #[.val (.int cd), .val (.int fl), .val (.int t), .val (.int sel), .val (.ref tb), .val (.int (38 : Int32)), .val (.ref ra), .val (.int (1 : Int32))] [(.ref ra)])) := by
        refine S50.trans ?_
        refine XS.astore X38.here hx rfl (hb hby at_89) rfl rfl (l' := #[.val (.int cd), .val (.int fl), .val (.int t), .val (.int sel), .val (.ref tb), .val (.int (38 : Int32)), .val (.ref ra), .unset]) rfl ?_
        show Steps p.tables e below (T38.setTop (mkF m 91 #[.val (.int cd), .val (.int fl), .val (.int t), .val (.int sel), .val (.ref tb), .val (.int (38 : Int32)), .val (.ref ra), .unset] [])) _
        refine XS.iload X38.here hx rfl (hb hby at_91) rfl ?_
        show Steps p.tables e below (T38.setTop (mkF m 93 #[.val (.int cd), .val (.int fl), .val (.int t), .val (.int sel), .val (.ref tb), .val (.int (38 : Int32)), .val (.ref ra), .unset] [(.int (38 : Int32))])) _
        refine XS.bipush X38.here hx rfl (hb hby at_93) ?_
        show Steps p.tables e below (T38.setTop (mkF m 95 #[.val (.int cd), .val (.int fl), .val (.int t), .val (.int sel), .val (.ref tb), .val (.int (38 : Int32)), .val (.ref ra), .unset] [(.int (38 : Int32)), (.int (38 : Int32))])) _
        refine XS.icmpYes X38.here hx rfl (pc0 := 95) (pc' := 147) rfl (hb hby at_95) rfl (XT.ii_eq_t (by decide)) (by decide) (by decide) ?_
        show Steps p.tables e below (T38.setTop (mkF m 147 #[.val (.int cd), .val (.int fl), .val (.int t), .val (.int sel), .val (.ref tb), .val (.int (38 : Int32)), .val (.ref ra), .unset] [])) _
        refine XS.iconst X38.here hx rfl (hb hby at_147) ?_
        show Steps p.tables e below (T38.setTop (mkF m 148 #[.val (.int cd), .val (.int fl), .val (.int t), .val (.int sel), .val (.ref tb), .val (.int (38 : Int32)), .val (.ref ra), .unset] [(.int (1 : Int32))])) _
        refine XS.goto X38.here hx rfl (pc0 := 148) (pc' := 152) rfl (hb hby at_148) (by decide) (by decide) ?_
        show Steps p.tables e below (T38.setTop (mkF m 152 #[.val (.int cd), .val (.int fl), .val (.int t), .val (.int sel), .val (.ref tb), .val (.int (38 : Int32)), .val (.ref ra), .unset] [(.int (1 : Int32))])) _
        refine XS.istore X38.here hx rfl (hb hby at_152) rfl (l' := #[.val (.int cd), .val (.int fl), .val (.int t), .val (.int sel), .val (.ref tb), .val (.int (38 : Int32)), .val (.ref ra), .val (.int (1 : Int32))]) rfl ?_
        show Steps p.tables e below (T38.setTop (mkF m 154 #[.val (.int cd), .val (.int fl), .val (.int t), .val (.int sel), .val (.ref tb), .val (.int (38 : Int32)), .val (.ref ra), .val (.int (1 : Int32))] [])) _
        refine XS.iload X38.here hx rfl (hb hby at_154) rfl ?_
        show Steps p.tables e below (T38.setTop (mkF m 156 #[.val (.int cd), .val (.int fl), .val (.int t), .val (.int sel), .val (.ref tb), .val (.int (38 : Int32)), .val (.ref ra), .val (.int (1 : Int32))] [(.int (1 : Int32))])) _
        refine XS.ifYes X38.here hx rfl (pc0 := 156) (pc' := 170) rfl (hb hby at_156) rfl (XT.i0_ne_t (by decide)) (by decide) (by decide) ?_
        show Steps p.tables e below (T38.setTop (mkF m 170 #[.val (.int cd), .val (.int fl), .val (.int t), .val (.int sel), .val (.ref tb), .val (.int (38 : Int32)), .val (.ref ra), .val (.int (1 : Int32))] [])) _
        refine XS.aload X38.here hx rfl (hb hby at_170) rfl rfl ?_
        show Steps p.tables e below (T38.setTop (mkF m 172 #[.val (.int cd), .val (.int fl), .val (.int t), .val (.int sel), .val (.ref tb), .val (.int (38 : Int32)), .val (.ref ra), .val (.int (1 : Int32))] [(.ref ra)])) _
        refine XS.ifnullNo X38.here hx rfl (hb hby at_172) rfl ?_
        show Steps p.tables e below (T38.setTop (mkF m 175 #[.val (.int cd), .val (.int fl), .val (.int t), .val (.int sel), .val (.ref tb), .val (.int (38 : Int32)), .val (.ref ra), .val (.int (1 : Int32))] [])) _
        refine XS.aload X38.here hx rfl (hb hby at_175) rfl rfl ?_
        exact Steps.refl _
      obtain ⟨v52, T52, L52, X52, hS52, hZ, hown, hg52, hQ52, C52, st52⟩ := own_callH (R := room_1) (s := s) (vm0 := T38.vm) X38 hx hS38 (by rw [(rfl : T38.heap = T38.heap)]; exact (Nat.le_refl _)) hZ (y := (⟨"com/example/distill_trees/distilltrees/io/XmlWriterReferencePinLaw", "decode", "(Ljava/lang/String;)I"⟩ : MethodName)) hown (mvT hZ (hw _ (List.mem_of_getElem? (i := 13) rfl))) (mvT hZ (hw _ (List.mem_of_getElem? (i := 14) rfl))) (mvT hZ (hw _ (List.mem_of_getElem? (i := 15) rfl))) (mvT hZ (hw _ (List.mem_of_getElem? (i := 16) rfl))) (by decide) (backOfSH (R := room_1) (s := s) (vm0 := T38.vm) (W := 0) (rm2amp l Z a0 hw [] ra z fm T38.heap n0 (Nat.le_trans (Nat.le_trans (Nat.le_trans (Nat.le_trans (Nat.le_trans (Nat.le_trans (Nat.le_trans (Nat.le_trans (Nat.le_trans (Nat.le_trans Z0 E5.1) (Keep.of_wr W8).1) (Keep.of_wr W11).1) (Keep.of_wr W14).1) (Keep.of_wr W17).1) (Keep.of_wr W20).1) (Keep.of_wr W23).1) (Keep.of_wr W26).1) (Keep.of_wr W29).1) (Nat.le_trans (Nat.le_of_eq (congrArg Array.size e29.symm)) hg38)) Lr O2x hz O4x rf) hZ (hw _ (List.mem_of_getElem? (i := 16) rfl)) (hw _ (List.mem_of_getElem? (i := 15) rfl)) (by decide) (by decide) (own_lk hw) CH38.1) (g := (mkF m 177 #[.val (.int cd), .val (.int fl), .val (.int t), .val (.int sel), .val (.ref tb), .val (.int (38 : Int32)), .val (.ref ra), .val (.int (1 : Int32))] [(.ref ra)])) rfl (by rw [hml]; rfl) (argsL := [(.ref ra)]) (rest := []) (lenOf pd_5 rfl) rfl (by show 2 * 0 + _ ≤ _; exact Nat.le_of_eq rfl) (hb hby at_177) ⟨rfl, rfl, (by decide : 3 + 2 ≤ room_1.cells), (by decide : 36 + 24 ≤ room_1.slots)⟩
      have CH52 := CHr.trans CH38 C52
      obtain ⟨hv52, N52q⟩ := hQ52
      rw [hv52] at st52
      have N52 := Fr.app N38 N52q
      have S53 : Steps p.tables e below Ω (T52.setTop (mkF m 180 #[.val (.int cd), .val (.int fl), .val (.int t), .val (.int sel), .val (.ref tb), .val (.int (38 : Int32)), .val (.ref ra), .val (.int (1 : Int32))] [(.int (38 : Int32))])) := S51.trans st52
      have S54 : Steps p.tables e below Ω (T52.setTop (mkF m 190 #[.val (.int cd), .val (.int fl), .val (.int t), .val (.int sel), .val (.ref tb), .val (.int (38 : Int32)), .val (.ref ra), .val (.int (1 : Int32))] [(.int (1 : Int32))])) := by
        refine S53.trans ?_
        refine XS.iload X52.here hx rfl (hb hby at_180) rfl ?_
        show Steps p.tables e below (T52.setTop (mkF m 182 #[.val (.int cd), .val (.int fl), .val (.int t), .val (.int sel), .val (.ref tb), .val (.int (38 : Int32)), .val (.ref ra), .val (.int (1 : Int32))] [(.int (38 : Int32)), (.int (38 : Int32))])) _
        refine XS.icmpNo X52.here hx rfl (hb hby at_182) rfl (XT.ii_ne_f (by decide)) ?_
        show Steps p.tables e below (T52.setTop (mkF m 185 #[.val (.int cd), .val (.int fl), .val (.int t), .val (.int sel), .val (.ref tb), .val (.int (38 : Int32)), .val (.ref ra), .val (.int (1 : Int32))] [])) _
        refine XS.iconst X52.here hx rfl (hb hby at_185) ?_
        show Steps p.tables e below (T52.setTop (mkF m 186 #[.val (.int cd), .val (.int fl), .val (.int t), .val (.int sel), .val (.ref tb), .val (.int (38 : Int32)), .val (.ref ra), .val (.int (1 : Int32))] [(.int (1 : Int32))])) _
        refine XS.goto X52.here hx rfl (pc0 := 186) (pc' := 190) rfl (hb hby at_186) (by decide) (by decide) ?_
        exact Steps.refl _
      obtain ⟨fs, hr, hrun, hended, hend⟩ := Stand.leaveW (s := s) (vm₁ := T52.vm) X52 hS52 (by rw [(rfl : T52.heap = T52.heap)]; exact (Nat.le_refl _)) (v := some (.int (1 : Int32))) (fun h => by rw [Bd.returns] at h; cases h)
      have hfin : Steps p.tables e below Ω (T52.setFrames fs) := by
        refine S54.trans ?_
        exact own_retZ X52 hx Bd.returns (by decide) (hb hby at_190) hr
      rw [hΩ] at hfin
      have CHe : CHr Z consts_1 s.vm s.heap T52.vm T52.heap := by
        rw [hh]
        exact CHr.trans CH52 (CHv.at (s := s) (vm0 := T52.vm) X52 hZ (own_lk hw) CH52.1)
      refine ⟨_, _, hfin, hrun, hended, _, _, rfl, ?_, CHe, hend.1, hend.2.1, hend.2.2.1, hend.2.2.2.mono (by decide) (by decide)⟩
      show Q0 Z cd fl z fm h0 n0 _ T52.heap _
      exact ⟨rfl, N52⟩
    · subst hcc
      rw [hv] at st38
      have S55 : Steps p.tables e below Ω (T38.setTop (mkF m 89 #[.val (.int cd), .val (.int fl), .val (.int t), .val (.int sel), .val (.ref tb), .val (.int (60 : Int32)), .unset, .unset] [(.ref ra)])) := S37.trans st38
      have S56 : Steps p.tables e below Ω (T38.setTop (mkF m 177 #[.val (.int cd), .val (.int fl), .val (.int t), .val (.int sel), .val (.ref tb), .val (.int (60 : Int32)), .val (.ref ra), .val (.int (1 : Int32))] [(.ref ra)])) := by
        refine S55.trans ?_
        refine XS.astore X38.here hx rfl (hb hby at_89) rfl rfl (l' := #[.val (.int cd), .val (.int fl), .val (.int t), .val (.int sel), .val (.ref tb), .val (.int (60 : Int32)), .val (.ref ra), .unset]) rfl ?_
        show Steps p.tables e below (T38.setTop (mkF m 91 #[.val (.int cd), .val (.int fl), .val (.int t), .val (.int sel), .val (.ref tb), .val (.int (60 : Int32)), .val (.ref ra), .unset] [])) _
        refine XS.iload X38.here hx rfl (hb hby at_91) rfl ?_
        show Steps p.tables e below (T38.setTop (mkF m 93 #[.val (.int cd), .val (.int fl), .val (.int t), .val (.int sel), .val (.ref tb), .val (.int (60 : Int32)), .val (.ref ra), .unset] [(.int (60 : Int32))])) _
        refine XS.bipush X38.here hx rfl (hb hby at_93) ?_
        show Steps p.tables e below (T38.setTop (mkF m 95 #[.val (.int cd), .val (.int fl), .val (.int t), .val (.int sel), .val (.ref tb), .val (.int (60 : Int32)), .val (.ref ra), .unset] [(.int (38 : Int32)), (.int (60 : Int32))])) _
        refine XS.icmpNo X38.here hx rfl (hb hby at_95) rfl (XT.ii_eq_f (by decide)) ?_
        show Steps p.tables e below (T38.setTop (mkF m 98 #[.val (.int cd), .val (.int fl), .val (.int t), .val (.int sel), .val (.ref tb), .val (.int (60 : Int32)), .val (.ref ra), .unset] [])) _
        refine XS.iload X38.here hx rfl (hb hby at_98) rfl ?_
        show Steps p.tables e below (T38.setTop (mkF m 100 #[.val (.int cd), .val (.int fl), .val (.int t), .val (.int sel), .val (.ref tb), .val (.int (60 : Int32)), .val (.ref ra), .unset] [(.int (60 : Int32))])) _
        refine XS.bipush X38.here hx rfl (hb hby at_100) ?_
        show Steps p.tables e below (T38.setTop (mkF m 102 #[.val (.int cd), .val (.int fl), .val (.int t), .val (.int sel), .val (.ref tb), .val (.int (60 : Int32)), .val (.ref ra), .unset] [(.int (60 : Int32)), (.int (60 : Int32))])) _
        refine XS.icmpYes X38.here hx rfl (pc0 := 102) (pc' := 147) rfl (hb hby at_102) rfl (XT.ii_eq_t (by decide)) (by decide) (by decide) ?_
        show Steps p.tables e below (T38.setTop (mkF m 147 #[.val (.int cd), .val (.int fl), .val (.int t), .val (.int sel), .val (.ref tb), .val (.int (60 : Int32)), .val (.ref ra), .unset] [])) _
        refine XS.iconst X38.here hx rfl (hb hby at_147) ?_
        show Steps p.tables e below (T38.setTop (mkF m 148 #[.val (.int cd), .val (.int fl), .val (.int t), .val (.int sel), .val (.ref tb), .val (.int (60 : Int32)), .val (.ref ra), .unset] [(.int (1 : Int32))])) _
        refine XS.goto X38.here hx rfl (pc0 := 148) (pc' := 152) rfl (hb hby at_148) (by decide) (by decide) ?_
        show Steps p.tables e below (T38.setTop (mkF m 152 #[.val (.int cd), .val (.int fl), .val (.int t), .val (.int sel), .val (.ref tb), .val (.int (60 : Int32)), .val (.ref ra), .unset] [(.int (1 : Int32))])) _
        refine XS.istore X38.here hx rfl (hb hby at_152) rfl (l' := #[.val (.int cd), .val (.int fl), .val (.int t), .val (.int sel), .val (.ref tb), .val (.int (60 : Int32)), .val (.ref ra), .val (.int (1 : Int32))]) rfl ?_
        show Steps p.tables e below (T38.setTop (mkF m 154 #[.val (.int cd), .val (.int fl), .val (.int t), .val (.int sel), .val (.ref tb), .val (.int (60 : Int32)), .val (.ref ra), .val (.int (1 : Int32))] [])) _
        refine XS.iload X38.here hx rfl (hb hby at_154) rfl ?_
        show Steps p.tables e below (T38.setTop (mkF m 156 #[.val (.int cd), .val (.int fl), .val (.int t), .val (.int sel), .val (.ref tb), .val (.int (60 : Int32)), .val (.ref ra), .val (.int (1 : Int32))] [(.int (1 : Int32))])) _
        refine XS.ifYes X38.here hx rfl (pc0 := 156) (pc' := 170) rfl (hb hby at_156) rfl (XT.i0_ne_t (by decide)) (by decide) (by decide) ?_
        show Steps p.tables e below (T38.setTop (mkF m 170 #[.val (.int cd), .val (.int fl), .val (.int t), .val (.int sel), .val (.ref tb), .val (.int (60 : Int32)), .val (.ref ra), .val (.int (1 : Int32))] [])) _
        refine XS.aload X38.here hx rfl (hb hby at_170) rfl rfl ?_
        show Steps p.tables e below (T38.setTop (mkF m 172 #[.val (.int cd), .val (.int fl), .val (.int t), .val (.int sel), .val (.ref tb), .val (.int (60 : Int32)), .val (.ref ra), .val (.int (1 : Int32))] [(.ref ra)])) _
        refine XS.ifnullNo X38.here hx rfl (hb hby at_172) rfl ?_
        show Steps p.tables e below (T38.setTop (mkF m 175 #[.val (.int cd), .val (.int fl), .val (.int t), .val (.int sel), .val (.ref tb), .val (.int (60 : Int32)), .val (.ref ra), .val (.int (1 : Int32))] [])) _
        refine XS.aload X38.here hx rfl (hb hby at_175) rfl rfl ?_
        exact Steps.refl _
      obtain ⟨v57, T57, L57, X57, hS57, hZ, hown, hg57, hQ57, C57, st57⟩ := own_callH (R := room_1) (s := s) (vm0 := T38.vm) X38 hx hS38 (by rw [(rfl : T38.heap = T38.heap)]; exact (Nat.le_refl _)) hZ (y := (⟨"com/example/distill_trees/distilltrees/io/XmlWriterReferencePinLaw", "decode", "(Ljava/lang/String;)I"⟩ : MethodName)) hown (mvT hZ (hw _ (List.mem_of_getElem? (i := 13) rfl))) (mvT hZ (hw _ (List.mem_of_getElem? (i := 14) rfl))) (mvT hZ (hw _ (List.mem_of_getElem? (i := 15) rfl))) (mvT hZ (hw _ (List.mem_of_getElem? (i := 16) rfl))) (by decide) (backOfSH (R := room_1) (s := s) (vm0 := T38.vm) (W := 0) (rm2lt l Z a0 hw [] ra z fm T38.heap n0 (Nat.le_trans (Nat.le_trans (Nat.le_trans (Nat.le_trans (Nat.le_trans (Nat.le_trans (Nat.le_trans (Nat.le_trans (Nat.le_trans (Nat.le_trans Z0 E5.1) (Keep.of_wr W8).1) (Keep.of_wr W11).1) (Keep.of_wr W14).1) (Keep.of_wr W17).1) (Keep.of_wr W20).1) (Keep.of_wr W23).1) (Keep.of_wr W26).1) (Keep.of_wr W29).1) (Nat.le_trans (Nat.le_of_eq (congrArg Array.size e29.symm)) hg38)) Lr O2x hz O4x rf) hZ (hw _ (List.mem_of_getElem? (i := 16) rfl)) (hw _ (List.mem_of_getElem? (i := 15) rfl)) (by decide) (by decide) (own_lk hw) CH38.1) (g := (mkF m 177 #[.val (.int cd), .val (.int fl), .val (.int t), .val (.int sel), .val (.ref tb), .val (.int (60 : Int32)), .val (.ref ra), .val (.int (1 : Int32))] [(.ref ra)])) rfl (by rw [hml]; rfl) (argsL := [(.ref ra)]) (rest := []) (lenOf pd_5 rfl) rfl (by show 2 * 0 + _ ≤ _; exact Nat.le_of_eq rfl) (hb hby at_177) ⟨rfl, rfl, (by decide : 3 + 4 ≤ room_1.cells), (by decide : 36 + 44 ≤ room_1.slots)⟩
      have CH57 := CHr.trans CH38 C57
      obtain ⟨hv57, N57q⟩ := hQ57
      rw [hv57] at st57
      have N57 := Fr.app N38 N57q
      have S58 : Steps p.tables e below Ω (T57.setTop (mkF m 180 #[.val (.int cd), .val (.int fl), .val (.int t), .val (.int sel), .val (.ref tb), .val (.int (60 : Int32)), .val (.ref ra), .val (.int (1 : Int32))] [(.int (60 : Int32))])) := S56.trans st57
      have S59 : Steps p.tables e below Ω (T57.setTop (mkF m 190 #[.val (.int cd), .val (.int fl), .val (.int t), .val (.int sel), .val (.ref tb), .val (.int (60 : Int32)), .val (.ref ra), .val (.int (1 : Int32))] [(.int (1 : Int32))])) := by
        refine S58.trans ?_
        refine XS.iload X57.here hx rfl (hb hby at_180) rfl ?_
        show Steps p.tables e below (T57.setTop (mkF m 182 #[.val (.int cd), .val (.int fl), .val (.int t), .val (.int sel), .val (.ref tb), .val (.int (60 : Int32)), .val (.ref ra), .val (.int (1 : Int32))] [(.int (60 : Int32)), (.int (60 : Int32))])) _
        refine XS.icmpNo X57.here hx rfl (hb hby at_182) rfl (XT.ii_ne_f (by decide)) ?_
        show Steps p.tables e below (T57.setTop (mkF m 185 #[.val (.int cd), .val (.int fl), .val (.int t), .val (.int sel), .val (.ref tb), .val (.int (60 : Int32)), .val (.ref ra), .val (.int (1 : Int32))] [])) _
        refine XS.iconst X57.here hx rfl (hb hby at_185) ?_
        show Steps p.tables e below (T57.setTop (mkF m 186 #[.val (.int cd), .val (.int fl), .val (.int t), .val (.int sel), .val (.ref tb), .val (.int (60 : Int32)), .val (.ref ra), .val (.int (1 : Int32))] [(.int (1 : Int32))])) _
        refine XS.goto X57.here hx rfl (pc0 := 186) (pc' := 190) rfl (hb hby at_186) (by decide) (by decide) ?_
        exact Steps.refl _
      obtain ⟨fs, hr, hrun, hended, hend⟩ := Stand.leaveW (s := s) (vm₁ := T57.vm) X57 hS57 (by rw [(rfl : T57.heap = T57.heap)]; exact (Nat.le_refl _)) (v := some (.int (1 : Int32))) (fun h => by rw [Bd.returns] at h; cases h)
      have hfin : Steps p.tables e below Ω (T57.setFrames fs) := by
        refine S59.trans ?_
        exact own_retZ X57 hx Bd.returns (by decide) (hb hby at_190) hr
      rw [hΩ] at hfin
      have CHe : CHr Z consts_1 s.vm s.heap T57.vm T57.heap := by
        rw [hh]
        exact CHr.trans CH57 (CHv.at (s := s) (vm0 := T57.vm) X57 hZ (own_lk hw) CH57.1)
      refine ⟨_, _, hfin, hrun, hended, _, _, rfl, ?_, CHe, hend.1, hend.2.1, hend.2.2.1, hend.2.2.2.mono (by decide) (by decide)⟩
      show Q0 Z cd fl z fm h0 n0 _ T57.heap _
      exact ⟨rfl, N57⟩
    · subst hcc
      rw [hv] at st38
      have S60 : Steps p.tables e below Ω (T38.setTop (mkF m 89 #[.val (.int cd), .val (.int fl), .val (.int t), .val (.int sel), .val (.ref tb), .val (.int (13 : Int32)), .unset, .unset] [(.ref ra)])) := S37.trans st38
      have S61 : Steps p.tables e below Ω (T38.setTop (mkF m 177 #[.val (.int cd), .val (.int fl), .val (.int t), .val (.int sel), .val (.ref tb), .val (.int (13 : Int32)), .val (.ref ra), .val (.int (1 : Int32))] [(.ref ra)])) := by
        refine S60.trans ?_
        refine XS.astore X38.here hx rfl (hb hby at_89) rfl rfl (l' := #[.val (.int cd), .val (.int fl), .val (.int t), .val (.int sel), .val (.ref tb), .val (.int (13 : Int32)), .val (.ref ra), .unset]) rfl ?_
        show Steps p.tables e below (T38.setTop (mkF m 91 #[.val (.int cd), .val (.int fl), .val (.int t), .val (.int sel), .val (.ref tb), .val (.int (13 : Int32)), .val (.ref ra), .unset] [])) _
        refine XS.iload X38.here hx rfl (hb hby at_91) rfl ?_
        show Steps p.tables e below (T38.setTop (mkF m 93 #[.val (.int cd), .val (.int fl), .val (.int t), .val (.int sel), .val (.ref tb), .val (.int (13 : Int32)), .val (.ref ra), .unset] [(.int (13 : Int32))])) _
        refine XS.bipush X38.here hx rfl (hb hby at_93) ?_
        show Steps p.tables e below (T38.setTop (mkF m 95 #[.val (.int cd), .val (.int fl), .val (.int t), .val (.int sel), .val (.ref tb), .val (.int (13 : Int32)), .val (.ref ra), .unset] [(.int (38 : Int32)), (.int (13 : Int32))])) _
        refine XS.icmpNo X38.here hx rfl (hb hby at_95) rfl (XT.ii_eq_f (by decide)) ?_
        show Steps p.tables e below (T38.setTop (mkF m 98 #[.val (.int cd), .val (.int fl), .val (.int t), .val (.int sel), .val (.ref tb), .val (.int (13 : Int32)), .val (.ref ra), .unset] [])) _
        refine XS.iload X38.here hx rfl (hb hby at_98) rfl ?_
        show Steps p.tables e below (T38.setTop (mkF m 100 #[.val (.int cd), .val (.int fl), .val (.int t), .val (.int sel), .val (.ref tb), .val (.int (13 : Int32)), .val (.ref ra), .unset] [(.int (13 : Int32))])) _
        refine XS.bipush X38.here hx rfl (hb hby at_100) ?_
        show Steps p.tables e below (T38.setTop (mkF m 102 #[.val (.int cd), .val (.int fl), .val (.int t), .val (.int sel), .val (.ref tb), .val (.int (13 : Int32)), .val (.ref ra), .unset] [(.int (60 : Int32)), (.int (13 : Int32))])) _
        refine XS.icmpNo X38.here hx rfl (hb hby at_102) rfl (XT.ii_eq_f (by decide)) ?_
        show Steps p.tables e below (T38.setTop (mkF m 105 #[.val (.int cd), .val (.int fl), .val (.int t), .val (.int sel), .val (.ref tb), .val (.int (13 : Int32)), .val (.ref ra), .unset] [])) _
        refine XS.iload X38.here hx rfl (hb hby at_105) rfl ?_
        show Steps p.tables e below (T38.setTop (mkF m 107 #[.val (.int cd), .val (.int fl), .val (.int t), .val (.int sel), .val (.ref tb), .val (.int (13 : Int32)), .val (.ref ra), .unset] [(.int (13 : Int32))])) _
        refine XS.bipush X38.here hx rfl (hb hby at_107) ?_
        show Steps p.tables e below (T38.setTop (mkF m 109 #[.val (.int cd), .val (.int fl), .val (.int t), .val (.int sel), .val (.ref tb), .val (.int (13 : Int32)), .val (.ref ra), .unset] [(.int (13 : Int32)), (.int (13 : Int32))])) _
        refine XS.icmpYes X38.here hx rfl (pc0 := 109) (pc' := 147) rfl (hb hby at_109) rfl (XT.ii_eq_t (by decide)) (by decide) (by decide) ?_
        show Steps p.tables e below (T38.setTop (mkF m 147 #[.val (.int cd), .val (.int fl), .val (.int t), .val (.int sel), .val (.ref tb), .val (.int (13 : Int32)), .val (.ref ra), .unset] [])) _
        refine XS.iconst X38.here hx rfl (hb hby at_147) ?_
        show Steps p.tables e below (T38.setTop (mkF m 148 #[.val (.int cd), .val (.int fl), .val (.int t), .val (.int sel), .val (.ref tb), .val (.int (13 : Int32)), .val (.ref ra), .unset] [(.int (1 : Int32))])) _
        refine XS.goto X38.here hx rfl (pc0 := 148) (pc' := 152) rfl (hb hby at_148) (by decide) (by decide) ?_
        show Steps p.tables e below (T38.setTop (mkF m 152 #[.val (.int cd), .val (.int fl), .val (.int t), .val (.int sel), .val (.ref tb), .val (.int (13 : Int32)), .val (.ref ra), .unset] [(.int (1 : Int32))])) _
        refine XS.istore X38.here hx rfl (hb hby at_152) rfl (l' := #[.val (.int cd), .val (.int fl), .val (.int t), .val (.int sel), .val (.ref tb), .val (.int (13 : Int32)), .val (.ref ra), .val (.int (1 : Int32))]) rfl ?_
        show Steps p.tables e below (T38.setTop (mkF m 154 #[.val (.int cd), .val (.int fl), .val (.int t), .val (.int sel), .val (.ref tb), .val (.int (13 : Int32)), .val (.ref ra), .val (.int (1 : Int32))] [])) _
        refine XS.iload X38.here hx rfl (hb hby at_154) rfl ?_
        show Steps p.tables e below (T38.setTop (mkF m 156 #[.val (.int cd), .val (.int fl), .val (.int t), .val (.int sel), .val (.ref tb), .val (.int (13 : Int32)), .val (.ref ra), .val (.int (1 : Int32))] [(.int (1 : Int32))])) _
        refine XS.ifYes X38.here hx rfl (pc0 := 156) (pc' := 170) rfl (hb hby at_156) rfl (XT.i0_ne_t (by decide)) (by decide) (by decide) ?_
        show Steps p.tables e below (T38.setTop (mkF m 170 #[.val (.int cd), .val (.int fl), .val (.int t), .val (.int sel), .val (.ref tb), .val (.int (13 : Int32)), .val (.ref ra), .val (.int (1 : Int32))] [])) _
        refine XS.aload X38.here hx rfl (hb hby at_170) rfl rfl ?_
        show Steps p.tables e below (T38.setTop (mkF m 172 #[.val (.int cd), .val (.int fl), .val (.int t), .val (.int sel), .val (.ref tb), .val (.int (13 : Int32)), .val (.ref ra), .val (.int (1 : Int32))] [(.ref ra)])) _
        refine XS.ifnullNo X38.here hx rfl (hb hby at_172) rfl ?_
        show Steps p.tables e below (T38.setTop (mkF m 175 #[.val (.int cd), .val (.int fl), .val (.int t), .val (.int sel), .val (.ref tb), .val (.int (13 : Int32)), .val (.ref ra), .val (.int (1 : Int32))] [])) _
        refine XS.aload X38.here hx rfl (hb hby at_175) rfl rfl ?_
        exact Steps.refl _
      obtain ⟨v62, T62, L62, X62, hS62, hZ, hown, hg62, hQ62, C62, st62⟩ := own_callH (R := room_1) (s := s) (vm0 := T38.vm) X38 hx hS38 (by rw [(rfl : T38.heap = T38.heap)]; exact (Nat.le_refl _)) hZ (y := (⟨"com/example/distill_trees/distilltrees/io/XmlWriterReferencePinLaw", "decode", "(Ljava/lang/String;)I"⟩ : MethodName)) hown (mvT hZ (hw _ (List.mem_of_getElem? (i := 13) rfl))) (mvT hZ (hw _ (List.mem_of_getElem? (i := 14) rfl))) (mvT hZ (hw _ (List.mem_of_getElem? (i := 15) rfl))) (mvT hZ (hw _ (List.mem_of_getElem? (i := 16) rfl))) (by decide) (backOfSH (R := room_1) (s := s) (vm0 := T38.vm) (W := 0) (rm2cr l Z a0 hw [] ra z fm T38.heap n0 (Nat.le_trans (Nat.le_trans (Nat.le_trans (Nat.le_trans (Nat.le_trans (Nat.le_trans (Nat.le_trans (Nat.le_trans (Nat.le_trans (Nat.le_trans Z0 E5.1) (Keep.of_wr W8).1) (Keep.of_wr W11).1) (Keep.of_wr W14).1) (Keep.of_wr W17).1) (Keep.of_wr W20).1) (Keep.of_wr W23).1) (Keep.of_wr W26).1) (Keep.of_wr W29).1) (Nat.le_trans (Nat.le_of_eq (congrArg Array.size e29.symm)) hg38)) Lr O2x hz O4x rf) hZ (hw _ (List.mem_of_getElem? (i := 16) rfl)) (hw _ (List.mem_of_getElem? (i := 15) rfl)) (by decide) (by decide) (own_lk hw) CH38.1) (g := (mkF m 177 #[.val (.int cd), .val (.int fl), .val (.int t), .val (.int sel), .val (.ref tb), .val (.int (13 : Int32)), .val (.ref ra), .val (.int (1 : Int32))] [(.ref ra)])) rfl (by rw [hml]; rfl) (argsL := [(.ref ra)]) (rest := []) (lenOf pd_5 rfl) rfl (by show 2 * 0 + _ ≤ _; exact Nat.le_of_eq rfl) (hb hby at_177) ⟨rfl, rfl, (by decide : 3 + 10 ≤ room_1.cells), (by decide : 36 + 120 ≤ room_1.slots)⟩
      have CH62 := CHr.trans CH38 C62
      obtain ⟨hv62, N62q⟩ := hQ62
      rw [hv62] at st62
      have N62 := Fr.app N38 N62q
      have S63 : Steps p.tables e below Ω (T62.setTop (mkF m 180 #[.val (.int cd), .val (.int fl), .val (.int t), .val (.int sel), .val (.ref tb), .val (.int (13 : Int32)), .val (.ref ra), .val (.int (1 : Int32))] [(.int (13 : Int32))])) := S61.trans st62
      have S64 : Steps p.tables e below Ω (T62.setTop (mkF m 190 #[.val (.int cd), .val (.int fl), .val (.int t), .val (.int sel), .val (.ref tb), .val (.int (13 : Int32)), .val (.ref ra), .val (.int (1 : Int32))] [(.int (1 : Int32))])) := by
        refine S63.trans ?_
        refine XS.iload X62.here hx rfl (hb hby at_180) rfl ?_
        show Steps p.tables e below (T62.setTop (mkF m 182 #[.val (.int cd), .val (.int fl), .val (.int t), .val (.int sel), .val (.ref tb), .val (.int (13 : Int32)), .val (.ref ra), .val (.int (1 : Int32))] [(.int (13 : Int32)), (.int (13 : Int32))])) _
        refine XS.icmpNo X62.here hx rfl (hb hby at_182) rfl (XT.ii_ne_f (by decide)) ?_
        show Steps p.tables e below (T62.setTop (mkF m 185 #[.val (.int cd), .val (.int fl), .val (.int t), .val (.int sel), .val (.ref tb), .val (.int (13 : Int32)), .val (.ref ra), .val (.int (1 : Int32))] [])) _
        refine XS.iconst X62.here hx rfl (hb hby at_185) ?_
        show Steps p.tables e below (T62.setTop (mkF m 186 #[.val (.int cd), .val (.int fl), .val (.int t), .val (.int sel), .val (.ref tb), .val (.int (13 : Int32)), .val (.ref ra), .val (.int (1 : Int32))] [(.int (1 : Int32))])) _
        refine XS.goto X62.here hx rfl (pc0 := 186) (pc' := 190) rfl (hb hby at_186) (by decide) (by decide) ?_
        exact Steps.refl _
      obtain ⟨fs, hr, hrun, hended, hend⟩ := Stand.leaveW (s := s) (vm₁ := T62.vm) X62 hS62 (by rw [(rfl : T62.heap = T62.heap)]; exact (Nat.le_refl _)) (v := some (.int (1 : Int32))) (fun h => by rw [Bd.returns] at h; cases h)
      have hfin : Steps p.tables e below Ω (T62.setFrames fs) := by
        refine S64.trans ?_
        exact own_retZ X62 hx Bd.returns (by decide) (hb hby at_190) hr
      rw [hΩ] at hfin
      have CHe : CHr Z consts_1 s.vm s.heap T62.vm T62.heap := by
        rw [hh]
        exact CHr.trans CH62 (CHv.at (s := s) (vm0 := T62.vm) X62 hZ (own_lk hw) CH62.1)
      refine ⟨_, _, hfin, hrun, hended, _, _, rfl, ?_, CHe, hend.1, hend.2.1, hend.2.2.1, hend.2.2.2.mono (by decide) (by decide)⟩
      show Q0 Z cd fl z fm h0 n0 _ T62.heap _
      exact ⟨rfl, N62⟩
    · subst hcc
      rw [hv] at st38
      have S65 : Steps p.tables e below Ω (T38.setTop (mkF m 89 #[.val (.int cd), .val (.int fl), .val (.int t), .val (.int sel), .val (.ref tb), .val (.int (62 : Int32)), .unset, .unset] [(.ref ra)])) := S37.trans st38
      have S66 : Steps p.tables e below Ω (T38.setTop (mkF m 113 #[.val (.int cd), .val (.int fl), .val (.int t), .val (.int sel), .val (.ref tb), .val (.int (62 : Int32)), .val (.ref ra), .unset] [(.int t)])) := by
        refine S65.trans ?_
        refine XS.astore X38.here hx rfl (hb hby at_89) rfl rfl (l' := #[.val (.int cd), .val (.int fl), .val (.int t), .val (.int sel), .val (.ref tb), .val (.int (62 : Int32)), .val (.ref ra), .unset]) rfl ?_
        show Steps p.tables e below (T38.setTop (mkF m 91 #[.val (.int cd), .val (.int fl), .val (.int t), .val (.int sel), .val (.ref tb), .val (.int (62 : Int32)), .val (.ref ra), .unset] [])) _
        refine XS.iload X38.here hx rfl (hb hby at_91) rfl ?_
        show Steps p.tables e below (T38.setTop (mkF m 93 #[.val (.int cd), .val (.int fl), .val (.int t), .val (.int sel), .val (.ref tb), .val (.int (62 : Int32)), .val (.ref ra), .unset] [(.int (62 : Int32))])) _
        refine XS.bipush X38.here hx rfl (hb hby at_93) ?_
        show Steps p.tables e below (T38.setTop (mkF m 95 #[.val (.int cd), .val (.int fl), .val (.int t), .val (.int sel), .val (.ref tb), .val (.int (62 : Int32)), .val (.ref ra), .unset] [(.int (38 : Int32)), (.int (62 : Int32))])) _
        refine XS.icmpNo X38.here hx rfl (hb hby at_95) rfl (XT.ii_eq_f (by decide)) ?_
        show Steps p.tables e below (T38.setTop (mkF m 98 #[.val (.int cd), .val (.int fl), .val (.int t), .val (.int sel), .val (.ref tb), .val (.int (62 : Int32)), .val (.ref ra), .unset] [])) _
        refine XS.iload X38.here hx rfl (hb hby at_98) rfl ?_
        show Steps p.tables e below (T38.setTop (mkF m 100 #[.val (.int cd), .val (.int fl), .val (.int t), .val (.int sel), .val (.ref tb), .val (.int (62 : Int32)), .val (.ref ra), .unset] [(.int (62 : Int32))])) _
        refine XS.bipush X38.here hx rfl (hb hby at_100) ?_
        show Steps p.tables e below (T38.setTop (mkF m 102 #[.val (.int cd), .val (.int fl), .val (.int t), .val (.int sel), .val (.ref tb), .val (.int (62 : Int32)), .val (.ref ra), .unset] [(.int (60 : Int32)), (.int (62 : Int32))])) _
        refine XS.icmpNo X38.here hx rfl (hb hby at_102) rfl (XT.ii_eq_f (by decide)) ?_
        show Steps p.tables e below (T38.setTop (mkF m 105 #[.val (.int cd), .val (.int fl), .val (.int t), .val (.int sel), .val (.ref tb), .val (.int (62 : Int32)), .val (.ref ra), .unset] [])) _
        refine XS.iload X38.here hx rfl (hb hby at_105) rfl ?_
        show Steps p.tables e below (T38.setTop (mkF m 107 #[.val (.int cd), .val (.int fl), .val (.int t), .val (.int sel), .val (.ref tb), .val (.int (62 : Int32)), .val (.ref ra), .unset] [(.int (62 : Int32))])) _
        refine XS.bipush X38.here hx rfl (hb hby at_107) ?_
        show Steps p.tables e below (T38.setTop (mkF m 109 #[.val (.int cd), .val (.int fl), .val (.int t), .val (.int sel), .val (.ref tb), .val (.int (62 : Int32)), .val (.ref ra), .unset] [(.int (13 : Int32)), (.int (62 : Int32))])) _
        refine XS.icmpNo X38.here hx rfl (hb hby at_109) rfl (XT.ii_eq_f (by decide)) ?_
        show Steps p.tables e below (T38.setTop (mkF m 112 #[.val (.int cd), .val (.int fl), .val (.int t), .val (.int sel), .val (.ref tb), .val (.int (62 : Int32)), .val (.ref ra), .unset] [])) _
        refine XS.iloadN X38.here hx rfl (hb hby at_112) rfl ?_
        exact Steps.refl _
      have S67 : Steps p.tables e below Ω (T38.setTop (mkF m 177 #[.val (.int cd), .val (.int fl), .val (.int t), .val (.int sel), .val (.ref tb), .val (.int (62 : Int32)), .val (.ref ra), .val (.int (1 : Int32))] [(.ref ra)])) := by
        refine S66.trans ?_
        refine XS.ifYes X38.here hx rfl (pc0 := 113) (pc' := 140) rfl (hb hby at_113) rfl (XT.i0_eq_t t0) (by decide) (by decide) ?_
        show Steps p.tables e below (T38.setTop (mkF m 140 #[.val (.int cd), .val (.int fl), .val (.int t), .val (.int sel), .val (.ref tb), .val (.int (62 : Int32)), .val (.ref ra), .unset] [])) _
        refine XS.iload X38.here hx rfl (hb hby at_140) rfl ?_
        show Steps p.tables e below (T38.setTop (mkF m 142 #[.val (.int cd), .val (.int fl), .val (.int t), .val (.int sel), .val (.ref tb), .val (.int (62 : Int32)), .val (.ref ra), .unset] [(.int (62 : Int32))])) _
        refine XS.bipush X38.here hx rfl (hb hby at_142) ?_
        show Steps p.tables e below (T38.setTop (mkF m 144 #[.val (.int cd), .val (.int fl), .val (.int t), .val (.int sel), .val (.ref tb), .val (.int (62 : Int32)), .val (.ref ra), .unset] [(.int (62 : Int32)), (.int (62 : Int32))])) _
        refine XS.icmpNo X38.here hx rfl (hb hby at_144) rfl (XT.ii_ne_f (by decide)) ?_
        show Steps p.tables e below (T38.setTop (mkF m 147 #[.val (.int cd), .val (.int fl), .val (.int t), .val (.int sel), .val (.ref tb), .val (.int (62 : Int32)), .val (.ref ra), .unset] [])) _
        refine XS.iconst X38.here hx rfl (hb hby at_147) ?_
        show Steps p.tables e below (T38.setTop (mkF m 148 #[.val (.int cd), .val (.int fl), .val (.int t), .val (.int sel), .val (.ref tb), .val (.int (62 : Int32)), .val (.ref ra), .unset] [(.int (1 : Int32))])) _
        refine XS.goto X38.here hx rfl (pc0 := 148) (pc' := 152) rfl (hb hby at_148) (by decide) (by decide) ?_
        show Steps p.tables e below (T38.setTop (mkF m 152 #[.val (.int cd), .val (.int fl), .val (.int t), .val (.int sel), .val (.ref tb), .val (.int (62 : Int32)), .val (.ref ra), .unset] [(.int (1 : Int32))])) _
        refine XS.istore X38.here hx rfl (hb hby at_152) rfl (l' := #[.val (.int cd), .val (.int fl), .val (.int t), .val (.int sel), .val (.ref tb), .val (.int (62 : Int32)), .val (.ref ra), .val (.int (1 : Int32))]) rfl ?_
        show Steps p.tables e below (T38.setTop (mkF m 154 #[.val (.int cd), .val (.int fl), .val (.int t), .val (.int sel), .val (.ref tb), .val (.int (62 : Int32)), .val (.ref ra), .val (.int (1 : Int32))] [])) _
        refine XS.iload X38.here hx rfl (hb hby at_154) rfl ?_
        show Steps p.tables e below (T38.setTop (mkF m 156 #[.val (.int cd), .val (.int fl), .val (.int t), .val (.int sel), .val (.ref tb), .val (.int (62 : Int32)), .val (.ref ra), .val (.int (1 : Int32))] [(.int (1 : Int32))])) _
        refine XS.ifYes X38.here hx rfl (pc0 := 156) (pc' := 170) rfl (hb hby at_156) rfl (XT.i0_ne_t (by decide)) (by decide) (by decide) ?_
        show Steps p.tables e below (T38.setTop (mkF m 170 #[.val (.int cd), .val (.int fl), .val (.int t), .val (.int sel), .val (.ref tb), .val (.int (62 : Int32)), .val (.ref ra), .val (.int (1 : Int32))] [])) _
        refine XS.aload X38.here hx rfl (hb hby at_170) rfl rfl ?_
        show Steps p.tables e below (T38.setTop (mkF m 172 #[.val (.int cd), .val (.int fl), .val (.int t), .val (.int sel), .val (.ref tb), .val (.int (62 : Int32)), .val (.ref ra), .val (.int (1 : Int32))] [(.ref ra)])) _
        refine XS.ifnullNo X38.here hx rfl (hb hby at_172) rfl ?_
        show Steps p.tables e below (T38.setTop (mkF m 175 #[.val (.int cd), .val (.int fl), .val (.int t), .val (.int sel), .val (.ref tb), .val (.int (62 : Int32)), .val (.ref ra), .val (.int (1 : Int32))] [])) _
        refine XS.aload X38.here hx rfl (hb hby at_175) rfl rfl ?_
        exact Steps.refl _
      obtain ⟨v68, T68, L68, X68, hS68, hZ, hown, hg68, hQ68, C68, st68⟩ := own_callH (R := room_1) (s := s) (vm0 := T38.vm) X38 hx hS38 (by rw [(rfl : T38.heap = T38.heap)]; exact (Nat.le_refl _)) hZ (y := (⟨"com/example/distill_trees/distilltrees/io/XmlWriterReferencePinLaw", "decode", "(Ljava/lang/String;)I"⟩ : MethodName)) hown (mvT hZ (hw _ (List.mem_of_getElem? (i := 13) rfl))) (mvT hZ (hw _ (List.mem_of_getElem? (i := 14) rfl))) (mvT hZ (hw _ (List.mem_of_getElem? (i := 15) rfl))) (mvT hZ (hw _ (List.mem_of_getElem? (i := 16) rfl))) (by decide) (backOfSH (R := room_1) (s := s) (vm0 := T38.vm) (W := 0) (rm2gt l Z a0 hw [] ra z fm T38.heap n0 (Nat.le_trans (Nat.le_trans (Nat.le_trans (Nat.le_trans (Nat.le_trans (Nat.le_trans (Nat.le_trans (Nat.le_trans (Nat.le_trans (Nat.le_trans Z0 E5.1) (Keep.of_wr W8).1) (Keep.of_wr W11).1) (Keep.of_wr W14).1) (Keep.of_wr W17).1) (Keep.of_wr W20).1) (Keep.of_wr W23).1) (Keep.of_wr W26).1) (Keep.of_wr W29).1) (Nat.le_trans (Nat.le_of_eq (congrArg Array.size e29.symm)) hg38)) Lr O2x hz O4x rf) hZ (hw _ (List.mem_of_getElem? (i := 16) rfl)) (hw _ (List.mem_of_getElem? (i := 15) rfl)) (by decide) (by decide) (own_lk hw) CH38.1) (g := (mkF m 177 #[.val (.int cd), .val (.int fl), .val (.int t), .val (.int sel), .val (.ref tb), .val (.int (62 : Int32)), .val (.ref ra), .val (.int (1 : Int32))] [(.ref ra)])) rfl (by rw [hml]; rfl) (argsL := [(.ref ra)]) (rest := []) (lenOf pd_5 rfl) rfl (by show 2 * 0 + _ ≤ _; exact Nat.le_of_eq rfl) (hb hby at_177) ⟨rfl, rfl, (by decide : 3 + 6 ≤ room_1.cells), (by decide : 36 + 64 ≤ room_1.slots)⟩
      have CH68 := CHr.trans CH38 C68
      obtain ⟨hv68, N68q⟩ := hQ68
      rw [hv68] at st68
      have N68 := Fr.app N38 N68q
      have S69 : Steps p.tables e below Ω (T68.setTop (mkF m 180 #[.val (.int cd), .val (.int fl), .val (.int t), .val (.int sel), .val (.ref tb), .val (.int (62 : Int32)), .val (.ref ra), .val (.int (1 : Int32))] [(.int (62 : Int32))])) := S67.trans st68
      have S70 : Steps p.tables e below Ω (T68.setTop (mkF m 190 #[.val (.int cd), .val (.int fl), .val (.int t), .val (.int sel), .val (.ref tb), .val (.int (62 : Int32)), .val (.ref ra), .val (.int (1 : Int32))] [(.int (1 : Int32))])) := by
        refine S69.trans ?_
        refine XS.iload X68.here hx rfl (hb hby at_180) rfl ?_
        show Steps p.tables e below (T68.setTop (mkF m 182 #[.val (.int cd), .val (.int fl), .val (.int t), .val (.int sel), .val (.ref tb), .val (.int (62 : Int32)), .val (.ref ra), .val (.int (1 : Int32))] [(.int (62 : Int32)), (.int (62 : Int32))])) _
        refine XS.icmpNo X68.here hx rfl (hb hby at_182) rfl (XT.ii_ne_f (by decide)) ?_
        show Steps p.tables e below (T68.setTop (mkF m 185 #[.val (.int cd), .val (.int fl), .val (.int t), .val (.int sel), .val (.ref tb), .val (.int (62 : Int32)), .val (.ref ra), .val (.int (1 : Int32))] [])) _
        refine XS.iconst X68.here hx rfl (hb hby at_185) ?_
        show Steps p.tables e below (T68.setTop (mkF m 186 #[.val (.int cd), .val (.int fl), .val (.int t), .val (.int sel), .val (.ref tb), .val (.int (62 : Int32)), .val (.ref ra), .val (.int (1 : Int32))] [(.int (1 : Int32))])) _
        refine XS.goto X68.here hx rfl (pc0 := 186) (pc' := 190) rfl (hb hby at_186) (by decide) (by decide) ?_
        exact Steps.refl _
      obtain ⟨fs, hr, hrun, hended, hend⟩ := Stand.leaveW (s := s) (vm₁ := T68.vm) X68 hS68 (by rw [(rfl : T68.heap = T68.heap)]; exact (Nat.le_refl _)) (v := some (.int (1 : Int32))) (fun h => by rw [Bd.returns] at h; cases h)
      have hfin : Steps p.tables e below Ω (T68.setFrames fs) := by
        refine S70.trans ?_
        exact own_retZ X68 hx Bd.returns (by decide) (hb hby at_190) hr
      rw [hΩ] at hfin
      have CHe : CHr Z consts_1 s.vm s.heap T68.vm T68.heap := by
        rw [hh]
        exact CHr.trans CH68 (CHv.at (s := s) (vm0 := T68.vm) X68 hZ (own_lk hw) CH68.1)
      refine ⟨_, _, hfin, hrun, hended, _, _, rfl, ?_, CHe, hend.1, hend.2.1, hend.2.2.1, hend.2.2.2.mono (by decide) (by decide)⟩
      show Q0 Z cd fl z fm h0 n0 _ T68.heap _
      exact ⟨rfl, N68⟩
    · subst hcc
      rw [hv] at st38
      have S71 : Steps p.tables e below Ω (T38.setTop (mkF m 89 #[.val (.int cd), .val (.int fl), .val (.int t), .val (.int sel), .val (.ref tb), .val (.int (34 : Int32)), .unset, .unset] [(.ref ra)])) := S37.trans st38
      have S72 : Steps p.tables e below Ω (T38.setTop (mkF m 113 #[.val (.int cd), .val (.int fl), .val (.int t), .val (.int sel), .val (.ref tb), .val (.int (34 : Int32)), .val (.ref ra), .unset] [(.int t)])) := by
        refine S71.trans ?_
        refine XS.astore X38.here hx rfl (hb hby at_89) rfl rfl (l' := #[.val (.int cd), .val (.int fl), .val (.int t), .val (.int sel), .val (.ref tb), .val (.int (34 : Int32)), .val (.ref ra), .unset]) rfl ?_
        show Steps p.tables e below (T38.setTop (mkF m 91 #[.val (.int cd), .val (.int fl), .val (.int t), .val (.int sel), .val (.ref tb), .val (.int (34 : Int32)), .val (.ref ra), .unset] [])) _
        refine XS.iload X38.here hx rfl (hb hby at_91) rfl ?_
        show Steps p.tables e below (T38.setTop (mkF m 93 #[.val (.int cd), .val (.int fl), .val (.int t), .val (.int sel), .val (.ref tb), .val (.int (34 : Int32)), .val (.ref ra), .unset] [(.int (34 : Int32))])) _
        refine XS.bipush X38.here hx rfl (hb hby at_93) ?_
        show Steps p.tables e below (T38.setTop (mkF m 95 #[.val (.int cd), .val (.int fl), .val (.int t), .val (.int sel), .val (.ref tb), .val (.int (34 : Int32)), .val (.ref ra), .unset] [(.int (38 : Int32)), (.int (34 : Int32))])) _
        refine XS.icmpNo X38.here hx rfl (hb hby at_95) rfl (XT.ii_eq_f (by decide)) ?_
        show Steps p.tables e below (T38.setTop (mkF m 98 #[.val (.int cd), .val (.int fl), .val (.int t), .val (.int sel), .val (.ref tb), .val (.int (34 : Int32)), .val (.ref ra), .unset] [])) _
        refine XS.iload X38.here hx rfl (hb hby at_98) rfl ?_
        show Steps p.tables e below (T38.setTop (mkF m 100 #[.val (.int cd), .val (.int fl), .val (.int t), .val (.int sel), .val (.ref tb), .val (.int (34 : Int32)), .val (.ref ra), .unset] [(.int (34 : Int32))])) _
        refine XS.bipush X38.here hx rfl (hb hby at_100) ?_
        show Steps p.tables e below (T38.setTop (mkF m 102 #[.val (.int cd), .val (.int fl), .val (.int t), .val (.int sel), .val (.ref tb), .val (.int (34 : Int32)), .val (.ref ra), .unset] [(.int (60 : Int32)), (.int (34 : Int32))])) _
        refine XS.icmpNo X38.here hx rfl (hb hby at_102) rfl (XT.ii_eq_f (by decide)) ?_
        show Steps p.tables e below (T38.setTop (mkF m 105 #[.val (.int cd), .val (.int fl), .val (.int t), .val (.int sel), .val (.ref tb), .val (.int (34 : Int32)), .val (.ref ra), .unset] [])) _
        refine XS.iload X38.here hx rfl (hb hby at_105) rfl ?_
        show Steps p.tables e below (T38.setTop (mkF m 107 #[.val (.int cd), .val (.int fl), .val (.int t), .val (.int sel), .val (.ref tb), .val (.int (34 : Int32)), .val (.ref ra), .unset] [(.int (34 : Int32))])) _
        refine XS.bipush X38.here hx rfl (hb hby at_107) ?_
        show Steps p.tables e below (T38.setTop (mkF m 109 #[.val (.int cd), .val (.int fl), .val (.int t), .val (.int sel), .val (.ref tb), .val (.int (34 : Int32)), .val (.ref ra), .unset] [(.int (13 : Int32)), (.int (34 : Int32))])) _
        refine XS.icmpNo X38.here hx rfl (hb hby at_109) rfl (XT.ii_eq_f (by decide)) ?_
        show Steps p.tables e below (T38.setTop (mkF m 112 #[.val (.int cd), .val (.int fl), .val (.int t), .val (.int sel), .val (.ref tb), .val (.int (34 : Int32)), .val (.ref ra), .unset] [])) _
        refine XS.iloadN X38.here hx rfl (hb hby at_112) rfl ?_
        exact Steps.refl _
      have S73 : Steps p.tables e below Ω (T38.setTop (mkF m 177 #[.val (.int cd), .val (.int fl), .val (.int t), .val (.int sel), .val (.ref tb), .val (.int (34 : Int32)), .val (.ref ra), .val (.int (1 : Int32))] [(.ref ra)])) := by
        refine S72.trans ?_
        refine XS.ifNo X38.here hx rfl (hb hby at_113) rfl (XT.i0_eq_f t0) ?_
        show Steps p.tables e below (T38.setTop (mkF m 116 #[.val (.int cd), .val (.int fl), .val (.int t), .val (.int sel), .val (.ref tb), .val (.int (34 : Int32)), .val (.ref ra), .unset] [])) _
        refine XS.iload X38.here hx rfl (hb hby at_116) rfl ?_
        show Steps p.tables e below (T38.setTop (mkF m 118 #[.val (.int cd), .val (.int fl), .val (.int t), .val (.int sel), .val (.ref tb), .val (.int (34 : Int32)), .val (.ref ra), .unset] [(.int (34 : Int32))])) _
        refine XS.bipush X38.here hx rfl (hb hby at_118) ?_
        show Steps p.tables e below (T38.setTop (mkF m 120 #[.val (.int cd), .val (.int fl), .val (.int t), .val (.int sel), .val (.ref tb), .val (.int (34 : Int32)), .val (.ref ra), .unset] [(.int (34 : Int32)), (.int (34 : Int32))])) _
        refine XS.icmpYes X38.here hx rfl (pc0 := 120) (pc' := 147) rfl (hb hby at_120) rfl (XT.ii_eq_t (by decide)) (by decide) (by decide) ?_
        show Steps p.tables e below (T38.setTop (mkF m 147 #[.val (.int cd), .val (.int fl), .val (.int t), .val (.int sel), .val (.ref tb), .val (.int (34 : Int32)), .val (.ref ra), .unset] [])) _
        refine XS.iconst X38.here hx rfl (hb hby at_147) ?_
        show Steps p.tables e below (T38.setTop (mkF m 148 #[.val (.int cd), .val (.int fl), .val (.int t), .val (.int sel), .val (.ref tb), .val (.int (34 : Int32)), .val (.ref ra), .unset] [(.int (1 : Int32))])) _
        refine XS.goto X38.here hx rfl (pc0 := 148) (pc' := 152) rfl (hb hby at_148) (by decide) (by decide) ?_
        show Steps p.tables e below (T38.setTop (mkF m 152 #[.val (.int cd), .val (.int fl), .val (.int t), .val (.int sel), .val (.ref tb), .val (.int (34 : Int32)), .val (.ref ra), .unset] [(.int (1 : Int32))])) _
        refine XS.istore X38.here hx rfl (hb hby at_152) rfl (l' := #[.val (.int cd), .val (.int fl), .val (.int t), .val (.int sel), .val (.ref tb), .val (.int (34 : Int32)), .val (.ref ra), .val (.int (1 : Int32))]) rfl ?_
        show Steps p.tables e below (T38.setTop (mkF m 154 #[.val (.int cd), .val (.int fl), .val (.int t), .val (.int sel), .val (.ref tb), .val (.int (34 : Int32)), .val (.ref ra), .val (.int (1 : Int32))] [])) _
        refine XS.iload X38.here hx rfl (hb hby at_154) rfl ?_
        show Steps p.tables e below (T38.setTop (mkF m 156 #[.val (.int cd), .val (.int fl), .val (.int t), .val (.int sel), .val (.ref tb), .val (.int (34 : Int32)), .val (.ref ra), .val (.int (1 : Int32))] [(.int (1 : Int32))])) _
        refine XS.ifYes X38.here hx rfl (pc0 := 156) (pc' := 170) rfl (hb hby at_156) rfl (XT.i0_ne_t (by decide)) (by decide) (by decide) ?_
        show Steps p.tables e below (T38.setTop (mkF m 170 #[.val (.int cd), .val (.int fl), .val (.int t), .val (.int sel), .val (.ref tb), .val (.int (34 : Int32)), .val (.ref ra), .val (.int (1 : Int32))] [])) _
        refine XS.aload X38.here hx rfl (hb hby at_170) rfl rfl ?_
        show Steps p.tables e below (T38.setTop (mkF m 172 #[.val (.int cd), .val (.int fl), .val (.int t), .val (.int sel), .val (.ref tb), .val (.int (34 : Int32)), .val (.ref ra), .val (.int (1 : Int32))] [(.ref ra)])) _
        refine XS.ifnullNo X38.here hx rfl (hb hby at_172) rfl ?_
        show Steps p.tables e below (T38.setTop (mkF m 175 #[.val (.int cd), .val (.int fl), .val (.int t), .val (.int sel), .val (.ref tb), .val (.int (34 : Int32)), .val (.ref ra), .val (.int (1 : Int32))] [])) _
        refine XS.aload X38.here hx rfl (hb hby at_175) rfl rfl ?_
        exact Steps.refl _
      obtain ⟨v74, T74, L74, X74, hS74, hZ, hown, hg74, hQ74, C74, st74⟩ := own_callH (R := room_1) (s := s) (vm0 := T38.vm) X38 hx hS38 (by rw [(rfl : T38.heap = T38.heap)]; exact (Nat.le_refl _)) hZ (y := (⟨"com/example/distill_trees/distilltrees/io/XmlWriterReferencePinLaw", "decode", "(Ljava/lang/String;)I"⟩ : MethodName)) hown (mvT hZ (hw _ (List.mem_of_getElem? (i := 13) rfl))) (mvT hZ (hw _ (List.mem_of_getElem? (i := 14) rfl))) (mvT hZ (hw _ (List.mem_of_getElem? (i := 15) rfl))) (mvT hZ (hw _ (List.mem_of_getElem? (i := 16) rfl))) (by decide) (backOfSH (R := room_1) (s := s) (vm0 := T38.vm) (W := 0) (rm2quot l Z a0 hw [] ra z fm T38.heap n0 (Nat.le_trans (Nat.le_trans (Nat.le_trans (Nat.le_trans (Nat.le_trans (Nat.le_trans (Nat.le_trans (Nat.le_trans (Nat.le_trans (Nat.le_trans Z0 E5.1) (Keep.of_wr W8).1) (Keep.of_wr W11).1) (Keep.of_wr W14).1) (Keep.of_wr W17).1) (Keep.of_wr W20).1) (Keep.of_wr W23).1) (Keep.of_wr W26).1) (Keep.of_wr W29).1) (Nat.le_trans (Nat.le_of_eq (congrArg Array.size e29.symm)) hg38)) Lr O2x hz O4x rf) hZ (hw _ (List.mem_of_getElem? (i := 16) rfl)) (hw _ (List.mem_of_getElem? (i := 15) rfl)) (by decide) (by decide) (own_lk hw) CH38.1) (g := (mkF m 177 #[.val (.int cd), .val (.int fl), .val (.int t), .val (.int sel), .val (.ref tb), .val (.int (34 : Int32)), .val (.ref ra), .val (.int (1 : Int32))] [(.ref ra)])) rfl (by rw [hml]; rfl) (argsL := [(.ref ra)]) (rest := []) (lenOf pd_5 rfl) rfl (by show 2 * 0 + _ ≤ _; exact Nat.le_of_eq rfl) (hb hby at_177) ⟨rfl, rfl, (by decide : 3 + 8 ≤ room_1.cells), (by decide : 36 + 92 ≤ room_1.slots)⟩
      have CH74 := CHr.trans CH38 C74
      obtain ⟨hv74, N74q⟩ := hQ74
      rw [hv74] at st74
      have N74 := Fr.app N38 N74q
      have S75 : Steps p.tables e below Ω (T74.setTop (mkF m 180 #[.val (.int cd), .val (.int fl), .val (.int t), .val (.int sel), .val (.ref tb), .val (.int (34 : Int32)), .val (.ref ra), .val (.int (1 : Int32))] [(.int (34 : Int32))])) := S73.trans st74
      have S76 : Steps p.tables e below Ω (T74.setTop (mkF m 190 #[.val (.int cd), .val (.int fl), .val (.int t), .val (.int sel), .val (.ref tb), .val (.int (34 : Int32)), .val (.ref ra), .val (.int (1 : Int32))] [(.int (1 : Int32))])) := by
        refine S75.trans ?_
        refine XS.iload X74.here hx rfl (hb hby at_180) rfl ?_
        show Steps p.tables e below (T74.setTop (mkF m 182 #[.val (.int cd), .val (.int fl), .val (.int t), .val (.int sel), .val (.ref tb), .val (.int (34 : Int32)), .val (.ref ra), .val (.int (1 : Int32))] [(.int (34 : Int32)), (.int (34 : Int32))])) _
        refine XS.icmpNo X74.here hx rfl (hb hby at_182) rfl (XT.ii_ne_f (by decide)) ?_
        show Steps p.tables e below (T74.setTop (mkF m 185 #[.val (.int cd), .val (.int fl), .val (.int t), .val (.int sel), .val (.ref tb), .val (.int (34 : Int32)), .val (.ref ra), .val (.int (1 : Int32))] [])) _
        refine XS.iconst X74.here hx rfl (hb hby at_185) ?_
        show Steps p.tables e below (T74.setTop (mkF m 186 #[.val (.int cd), .val (.int fl), .val (.int t), .val (.int sel), .val (.ref tb), .val (.int (34 : Int32)), .val (.ref ra), .val (.int (1 : Int32))] [(.int (1 : Int32))])) _
        refine XS.goto X74.here hx rfl (pc0 := 186) (pc' := 190) rfl (hb hby at_186) (by decide) (by decide) ?_
        exact Steps.refl _
      obtain ⟨fs, hr, hrun, hended, hend⟩ := Stand.leaveW (s := s) (vm₁ := T74.vm) X74 hS74 (by rw [(rfl : T74.heap = T74.heap)]; exact (Nat.le_refl _)) (v := some (.int (1 : Int32))) (fun h => by rw [Bd.returns] at h; cases h)
      have hfin : Steps p.tables e below Ω (T74.setFrames fs) := by
        refine S76.trans ?_
        exact own_retZ X74 hx Bd.returns (by decide) (hb hby at_190) hr
      rw [hΩ] at hfin
      have CHe : CHr Z consts_1 s.vm s.heap T74.vm T74.heap := by
        rw [hh]
        exact CHr.trans CH74 (CHv.at (s := s) (vm0 := T74.vm) X74 hZ (own_lk hw) CH74.1)
      refine ⟨_, _, hfin, hrun, hended, _, _, rfl, ?_, CHe, hend.1, hend.2.1, hend.2.2.1, hend.2.2.2.mono (by decide) (by decide)⟩
      show Q0 Z cd fl z fm h0 n0 _ T74.heap _
      exact ⟨rfl, N74⟩
    · subst hcc
      rw [hv] at st38
      have S77 : Steps p.tables e below Ω (T38.setTop (mkF m 89 #[.val (.int cd), .val (.int fl), .val (.int t), .val (.int sel), .val (.ref tb), .val (.int (9 : Int32)), .unset, .unset] [(.ref ra)])) := S37.trans st38
      have S78 : Steps p.tables e below Ω (T38.setTop (mkF m 113 #[.val (.int cd), .val (.int fl), .val (.int t), .val (.int sel), .val (.ref tb), .val (.int (9 : Int32)), .val (.ref ra), .unset] [(.int t)])) := by
        refine S77.trans ?_
        refine XS.astore X38.here hx rfl (hb hby at_89) rfl rfl (l' := #[.val (.int cd), .val (.int fl), .val (.int t), .val (.int sel), .val (.ref tb), .val (.int (9 : Int32)), .val (.ref ra), .unset]) rfl ?_
        show Steps p.tables e below (T38.setTop (mkF m 91 #[.val (.int cd), .val (.int fl), .val (.int t), .val (.int sel), .val (.ref tb), .val (.int (9 : Int32)), .val (.ref ra), .unset] [])) _
        refine XS.iload X38.here hx rfl (hb hby at_91) rfl ?_
        show Steps p.tables e below (T38.setTop (mkF m 93 #[.val (.int cd), .val (.int fl), .val (.int t), .val (.int sel), .val (.ref tb), .val (.int (9 : Int32)), .val (.ref ra), .unset] [(.int (9 : Int32))])) _
        refine XS.bipush X38.here hx rfl (hb hby at_93) ?_
        show Steps p.tables e below (T38.setTop (mkF m 95 #[.val (.int cd), .val (.int fl), .val (.int t), .val (.int sel), .val (.ref tb), .val (.int (9 : Int32)), .val (.ref ra), .unset] [(.int (38 : Int32)), (.int (9 : Int32))])) _
        refine XS.icmpNo X38.here hx rfl (hb hby at_95) rfl (XT.ii_eq_f (by decide)) ?_
        show Steps p.tables e below (T38.setTop (mkF m 98 #[.val (.int cd), .val (.int fl), .val (.int t), .val (.int sel), .val (.ref tb), .val (.int (9 : Int32)), .val (.ref ra), .unset] [])) _
        refine XS.iload X38.here hx rfl (hb hby at_98) rfl ?_
        show Steps p.tables e below (T38.setTop (mkF m 100 #[.val (.int cd), .val (.int fl), .val (.int t), .val (.int sel), .val (.ref tb), .val (.int (9 : Int32)), .val (.ref ra), .unset] [(.int (9 : Int32))])) _
        refine XS.bipush X38.here hx rfl (hb hby at_100) ?_
        show Steps p.tables e below (T38.setTop (mkF m 102 #[.val (.int cd), .val (.int fl), .val (.int t), .val (.int sel), .val (.ref tb), .val (.int (9 : Int32)), .val (.ref ra), .unset] [(.int (60 : Int32)), (.int (9 : Int32))])) _
        refine XS.icmpNo X38.here hx rfl (hb hby at_102) rfl (XT.ii_eq_f (by decide)) ?_
        show Steps p.tables e below (T38.setTop (mkF m 105 #[.val (.int cd), .val (.int fl), .val (.int t), .val (.int sel), .val (.ref tb), .val (.int (9 : Int32)), .val (.ref ra), .unset] [])) _
        refine XS.iload X38.here hx rfl (hb hby at_105) rfl ?_
        show Steps p.tables e below (T38.setTop (mkF m 107 #[.val (.int cd), .val (.int fl), .val (.int t), .val (.int sel), .val (.ref tb), .val (.int (9 : Int32)), .val (.ref ra), .unset] [(.int (9 : Int32))])) _
        refine XS.bipush X38.here hx rfl (hb hby at_107) ?_
        show Steps p.tables e below (T38.setTop (mkF m 109 #[.val (.int cd), .val (.int fl), .val (.int t), .val (.int sel), .val (.ref tb), .val (.int (9 : Int32)), .val (.ref ra), .unset] [(.int (13 : Int32)), (.int (9 : Int32))])) _
        refine XS.icmpNo X38.here hx rfl (hb hby at_109) rfl (XT.ii_eq_f (by decide)) ?_
        show Steps p.tables e below (T38.setTop (mkF m 112 #[.val (.int cd), .val (.int fl), .val (.int t), .val (.int sel), .val (.ref tb), .val (.int (9 : Int32)), .val (.ref ra), .unset] [])) _
        refine XS.iloadN X38.here hx rfl (hb hby at_112) rfl ?_
        exact Steps.refl _
      have S79 : Steps p.tables e below Ω (T38.setTop (mkF m 177 #[.val (.int cd), .val (.int fl), .val (.int t), .val (.int sel), .val (.ref tb), .val (.int (9 : Int32)), .val (.ref ra), .val (.int (1 : Int32))] [(.ref ra)])) := by
        refine S78.trans ?_
        refine XS.ifNo X38.here hx rfl (hb hby at_113) rfl (XT.i0_eq_f t0) ?_
        show Steps p.tables e below (T38.setTop (mkF m 116 #[.val (.int cd), .val (.int fl), .val (.int t), .val (.int sel), .val (.ref tb), .val (.int (9 : Int32)), .val (.ref ra), .unset] [])) _
        refine XS.iload X38.here hx rfl (hb hby at_116) rfl ?_
        show Steps p.tables e below (T38.setTop (mkF m 118 #[.val (.int cd), .val (.int fl), .val (.int t), .val (.int sel), .val (.ref tb), .val (.int (9 : Int32)), .val (.ref ra), .unset] [(.int (9 : Int32))])) _
        refine XS.bipush X38.here hx rfl (hb hby at_118) ?_
        show Steps p.tables e below (T38.setTop (mkF m 120 #[.val (.int cd), .val (.int fl), .val (.int t), .val (.int sel), .val (.ref tb), .val (.int (9 : Int32)), .val (.ref ra), .unset] [(.int (34 : Int32)), (.int (9 : Int32))])) _
        refine XS.icmpNo X38.here hx rfl (hb hby at_120) rfl (XT.ii_eq_f (by decide)) ?_
        show Steps p.tables e below (T38.setTop (mkF m 123 #[.val (.int cd), .val (.int fl), .val (.int t), .val (.int sel), .val (.ref tb), .val (.int (9 : Int32)), .val (.ref ra), .unset] [])) _
        refine XS.iload X38.here hx rfl (hb hby at_123) rfl ?_
        show Steps p.tables e below (T38.setTop (mkF m 125 #[.val (.int cd), .val (.int fl), .val (.int t), .val (.int sel), .val (.ref tb), .val (.int (9 : Int32)), .val (.ref ra), .unset] [(.int (9 : Int32))])) _
        refine XS.bipush X38.here hx rfl (hb hby at_125) ?_
        show Steps p.tables e below (T38.setTop (mkF m 127 #[.val (.int cd), .val (.int fl), .val (.int t), .val (.int sel), .val (.ref tb), .val (.int (9 : Int32)), .val (.ref ra), .unset] [(.int (9 : Int32)), (.int (9 : Int32))])) _
        refine XS.icmpYes X38.here hx rfl (pc0 := 127) (pc' := 147) rfl (hb hby at_127) rfl (XT.ii_eq_t (by decide)) (by decide) (by decide) ?_
        show Steps p.tables e below (T38.setTop (mkF m 147 #[.val (.int cd), .val (.int fl), .val (.int t), .val (.int sel), .val (.ref tb), .val (.int (9 : Int32)), .val (.ref ra), .unset] [])) _
        refine XS.iconst X38.here hx rfl (hb hby at_147) ?_
        show Steps p.tables e below (T38.setTop (mkF m 148 #[.val (.int cd), .val (.int fl), .val (.int t), .val (.int sel), .val (.ref tb), .val (.int (9 : Int32)), .val (.ref ra), .unset] [(.int (1 : Int32))])) _
        refine XS.goto X38.here hx rfl (pc0 := 148) (pc' := 152) rfl (hb hby at_148) (by decide) (by decide) ?_
        show Steps p.tables e below (T38.setTop (mkF m 152 #[.val (.int cd), .val (.int fl), .val (.int t), .val (.int sel), .val (.ref tb), .val (.int (9 : Int32)), .val (.ref ra), .unset] [(.int (1 : Int32))])) _
        refine XS.istore X38.here hx rfl (hb hby at_152) rfl (l' := #[.val (.int cd), .val (.int fl), .val (.int t), .val (.int sel), .val (.ref tb), .val (.int (9 : Int32)), .val (.ref ra), .val (.int (1 : Int32))]) rfl ?_
        show Steps p.tables e below (T38.setTop (mkF m 154 #[.val (.int cd), .val (.int fl), .val (.int t), .val (.int sel), .val (.ref tb), .val (.int (9 : Int32)), .val (.ref ra), .val (.int (1 : Int32))] [])) _
        refine XS.iload X38.here hx rfl (hb hby at_154) rfl ?_
        show Steps p.tables e below (T38.setTop (mkF m 156 #[.val (.int cd), .val (.int fl), .val (.int t), .val (.int sel), .val (.ref tb), .val (.int (9 : Int32)), .val (.ref ra), .val (.int (1 : Int32))] [(.int (1 : Int32))])) _
        refine XS.ifYes X38.here hx rfl (pc0 := 156) (pc' := 170) rfl (hb hby at_156) rfl (XT.i0_ne_t (by decide)) (by decide) (by decide) ?_
        show Steps p.tables e below (T38.setTop (mkF m 170 #[.val (.int cd), .val (.int fl), .val (.int t), .val (.int sel), .val (.ref tb), .val (.int (9 : Int32)), .val (.ref ra), .val (.int (1 : Int32))] [])) _
        refine XS.aload X38.here hx rfl (hb hby at_170) rfl rfl ?_
        show Steps p.tables e below (T38.setTop (mkF m 172 #[.val (.int cd), .val (.int fl), .val (.int t), .val (.int sel), .val (.ref tb), .val (.int (9 : Int32)), .val (.ref ra), .val (.int (1 : Int32))] [(.ref ra)])) _
        refine XS.ifnullNo X38.here hx rfl (hb hby at_172) rfl ?_
        show Steps p.tables e below (T38.setTop (mkF m 175 #[.val (.int cd), .val (.int fl), .val (.int t), .val (.int sel), .val (.ref tb), .val (.int (9 : Int32)), .val (.ref ra), .val (.int (1 : Int32))] [])) _
        refine XS.aload X38.here hx rfl (hb hby at_175) rfl rfl ?_
        exact Steps.refl _
      obtain ⟨v80, T80, L80, X80, hS80, hZ, hown, hg80, hQ80, C80, st80⟩ := own_callH (R := room_1) (s := s) (vm0 := T38.vm) X38 hx hS38 (by rw [(rfl : T38.heap = T38.heap)]; exact (Nat.le_refl _)) hZ (y := (⟨"com/example/distill_trees/distilltrees/io/XmlWriterReferencePinLaw", "decode", "(Ljava/lang/String;)I"⟩ : MethodName)) hown (mvT hZ (hw _ (List.mem_of_getElem? (i := 13) rfl))) (mvT hZ (hw _ (List.mem_of_getElem? (i := 14) rfl))) (mvT hZ (hw _ (List.mem_of_getElem? (i := 15) rfl))) (mvT hZ (hw _ (List.mem_of_getElem? (i := 16) rfl))) (by decide) (backOfSH (R := room_1) (s := s) (vm0 := T38.vm) (W := 0) (rm2tab l Z a0 hw [] ra z fm T38.heap n0 (Nat.le_trans (Nat.le_trans (Nat.le_trans (Nat.le_trans (Nat.le_trans (Nat.le_trans (Nat.le_trans (Nat.le_trans (Nat.le_trans (Nat.le_trans Z0 E5.1) (Keep.of_wr W8).1) (Keep.of_wr W11).1) (Keep.of_wr W14).1) (Keep.of_wr W17).1) (Keep.of_wr W20).1) (Keep.of_wr W23).1) (Keep.of_wr W26).1) (Keep.of_wr W29).1) (Nat.le_trans (Nat.le_of_eq (congrArg Array.size e29.symm)) hg38)) Lr O2x hz O4x rf) hZ (hw _ (List.mem_of_getElem? (i := 16) rfl)) (hw _ (List.mem_of_getElem? (i := 15) rfl)) (by decide) (by decide) (own_lk hw) CH38.1) (g := (mkF m 177 #[.val (.int cd), .val (.int fl), .val (.int t), .val (.int sel), .val (.ref tb), .val (.int (9 : Int32)), .val (.ref ra), .val (.int (1 : Int32))] [(.ref ra)])) rfl (by rw [hml]; rfl) (argsL := [(.ref ra)]) (rest := []) (lenOf pd_5 rfl) rfl (by show 2 * 0 + _ ≤ _; exact Nat.le_of_eq rfl) (hb hby at_177) ⟨rfl, rfl, (by decide : 3 + 10 ≤ room_1.cells), (by decide : 36 + 120 ≤ room_1.slots)⟩
      have CH80 := CHr.trans CH38 C80
      obtain ⟨hv80, N80q⟩ := hQ80
      rw [hv80] at st80
      have N80 := Fr.app N38 N80q
      have S81 : Steps p.tables e below Ω (T80.setTop (mkF m 180 #[.val (.int cd), .val (.int fl), .val (.int t), .val (.int sel), .val (.ref tb), .val (.int (9 : Int32)), .val (.ref ra), .val (.int (1 : Int32))] [(.int (9 : Int32))])) := S79.trans st80
      have S82 : Steps p.tables e below Ω (T80.setTop (mkF m 190 #[.val (.int cd), .val (.int fl), .val (.int t), .val (.int sel), .val (.ref tb), .val (.int (9 : Int32)), .val (.ref ra), .val (.int (1 : Int32))] [(.int (1 : Int32))])) := by
        refine S81.trans ?_
        refine XS.iload X80.here hx rfl (hb hby at_180) rfl ?_
        show Steps p.tables e below (T80.setTop (mkF m 182 #[.val (.int cd), .val (.int fl), .val (.int t), .val (.int sel), .val (.ref tb), .val (.int (9 : Int32)), .val (.ref ra), .val (.int (1 : Int32))] [(.int (9 : Int32)), (.int (9 : Int32))])) _
        refine XS.icmpNo X80.here hx rfl (hb hby at_182) rfl (XT.ii_ne_f (by decide)) ?_
        show Steps p.tables e below (T80.setTop (mkF m 185 #[.val (.int cd), .val (.int fl), .val (.int t), .val (.int sel), .val (.ref tb), .val (.int (9 : Int32)), .val (.ref ra), .val (.int (1 : Int32))] [])) _
        refine XS.iconst X80.here hx rfl (hb hby at_185) ?_
        show Steps p.tables e below (T80.setTop (mkF m 186 #[.val (.int cd), .val (.int fl), .val (.int t), .val (.int sel), .val (.ref tb), .val (.int (9 : Int32)), .val (.ref ra), .val (.int (1 : Int32))] [(.int (1 : Int32))])) _
        refine XS.goto X80.here hx rfl (pc0 := 186) (pc' := 190) rfl (hb hby at_186) (by decide) (by decide) ?_
        exact Steps.refl _
      obtain ⟨fs, hr, hrun, hended, hend⟩ := Stand.leaveW (s := s) (vm₁ := T80.vm) X80 hS80 (by rw [(rfl : T80.heap = T80.heap)]; exact (Nat.le_refl _)) (v := some (.int (1 : Int32))) (fun h => by rw [Bd.returns] at h; cases h)
      have hfin : Steps p.tables e below Ω (T80.setFrames fs) := by
        refine S82.trans ?_
        exact own_retZ X80 hx Bd.returns (by decide) (hb hby at_190) hr
      rw [hΩ] at hfin
      have CHe : CHr Z consts_1 s.vm s.heap T80.vm T80.heap := by
        rw [hh]
        exact CHr.trans CH80 (CHv.at (s := s) (vm0 := T80.vm) X80 hZ (own_lk hw) CH80.1)
      refine ⟨_, _, hfin, hrun, hended, _, _, rfl, ?_, CHe, hend.1, hend.2.1, hend.2.2.1, hend.2.2.2.mono (by decide) (by decide)⟩
      show Q0 Z cd fl z fm h0 n0 _ T80.heap _
      exact ⟨rfl, N80⟩
    · subst hcc
      rw [hv] at st38
      have S83 : Steps p.tables e below Ω (T38.setTop (mkF m 89 #[.val (.int cd), .val (.int fl), .val (.int t), .val (.int sel), .val (.ref tb), .val (.int (10 : Int32)), .unset, .unset] [(.ref ra)])) := S37.trans st38
      have S84 : Steps p.tables e below Ω (T38.setTop (mkF m 113 #[.val (.int cd), .val (.int fl), .val (.int t), .val (.int sel), .val (.ref tb), .val (.int (10 : Int32)), .val (.ref ra), .unset] [(.int t)])) := by
        refine S83.trans ?_
        refine XS.astore X38.here hx rfl (hb hby at_89) rfl rfl (l' := #[.val (.int cd), .val (.int fl), .val (.int t), .val (.int sel), .val (.ref tb), .val (.int (10 : Int32)), .val (.ref ra), .unset]) rfl ?_
        show Steps p.tables e below (T38.setTop (mkF m 91 #[.val (.int cd), .val (.int fl), .val (.int t), .val (.int sel), .val (.ref tb), .val (.int (10 : Int32)), .val (.ref ra), .unset] [])) _
        refine XS.iload X38.here hx rfl (hb hby at_91) rfl ?_
        show Steps p.tables e below (T38.setTop (mkF m 93 #[.val (.int cd), .val (.int fl), .val (.int t), .val (.int sel), .val (.ref tb), .val (.int (10 : Int32)), .val (.ref ra), .unset] [(.int (10 : Int32))])) _
        refine XS.bipush X38.here hx rfl (hb hby at_93) ?_
        show Steps p.tables e below (T38.setTop (mkF m 95 #[.val (.int cd), .val (.int fl), .val (.int t), .val (.int sel), .val (.ref tb), .val (.int (10 : Int32)), .val (.ref ra), .unset] [(.int (38 : Int32)), (.int (10 : Int32))])) _
        refine XS.icmpNo X38.here hx rfl (hb hby at_95) rfl (XT.ii_eq_f (by decide)) ?_
        show Steps p.tables e below (T38.setTop (mkF m 98 #[.val (.int cd), .val (.int fl), .val (.int t), .val (.int sel), .val (.ref tb), .val (.int (10 : Int32)), .val (.ref ra), .unset] [])) _
        refine XS.iload X38.here hx rfl (hb hby at_98) rfl ?_
        show Steps p.tables e below (T38.setTop (mkF m 100 #[.val (.int cd), .val (.int fl), .val (.int t), .val (.int sel), .val (.ref tb), .val (.int (10 : Int32)), .val (.ref ra), .unset] [(.int (10 : Int32))])) _
        refine XS.bipush X38.here hx rfl (hb hby at_100) ?_
        show Steps p.tables e below (T38.setTop (mkF m 102 #[.val (.int cd), .val (.int fl), .val (.int t), .val (.int sel), .val (.ref tb), .val (.int (10 : Int32)), .val (.ref ra), .unset] [(.int (60 : Int32)), (.int (10 : Int32))])) _
        refine XS.icmpNo X38.here hx rfl (hb hby at_102) rfl (XT.ii_eq_f (by decide)) ?_
        show Steps p.tables e below (T38.setTop (mkF m 105 #[.val (.int cd), .val (.int fl), .val (.int t), .val (.int sel), .val (.ref tb), .val (.int (10 : Int32)), .val (.ref ra), .unset] [])) _
        refine XS.iload X38.here hx rfl (hb hby at_105) rfl ?_
        show Steps p.tables e below (T38.setTop (mkF m 107 #[.val (.int cd), .val (.int fl), .val (.int t), .val (.int sel), .val (.ref tb), .val (.int (10 : Int32)), .val (.ref ra), .unset] [(.int (10 : Int32))])) _
        refine XS.bipush X38.here hx rfl (hb hby at_107) ?_
        show Steps p.tables e below (T38.setTop (mkF m 109 #[.val (.int cd), .val (.int fl), .val (.int t), .val (.int sel), .val (.ref tb), .val (.int (10 : Int32)), .val (.ref ra), .unset] [(.int (13 : Int32)), (.int (10 : Int32))])) _
        refine XS.icmpNo X38.here hx rfl (hb hby at_109) rfl (XT.ii_eq_f (by decide)) ?_
        show Steps p.tables e below (T38.setTop (mkF m 112 #[.val (.int cd), .val (.int fl), .val (.int t), .val (.int sel), .val (.ref tb), .val (.int (10 : Int32)), .val (.ref ra), .unset] [])) _
        refine XS.iloadN X38.here hx rfl (hb hby at_112) rfl ?_
        exact Steps.refl _
      have S85 : Steps p.tables e below Ω (T38.setTop (mkF m 177 #[.val (.int cd), .val (.int fl), .val (.int t), .val (.int sel), .val (.ref tb), .val (.int (10 : Int32)), .val (.ref ra), .val (.int (1 : Int32))] [(.ref ra)])) := by
        refine S84.trans ?_
        refine XS.ifNo X38.here hx rfl (hb hby at_113) rfl (XT.i0_eq_f t0) ?_
        show Steps p.tables e below (T38.setTop (mkF m 116 #[.val (.int cd), .val (.int fl), .val (.int t), .val (.int sel), .val (.ref tb), .val (.int (10 : Int32)), .val (.ref ra), .unset] [])) _
        refine XS.iload X38.here hx rfl (hb hby at_116) rfl ?_
        show Steps p.tables e below (T38.setTop (mkF m 118 #[.val (.int cd), .val (.int fl), .val (.int t), .val (.int sel), .val (.ref tb), .val (.int (10 : Int32)), .val (.ref ra), .unset] [(.int (10 : Int32))])) _
        refine XS.bipush X38.here hx rfl (hb hby at_118) ?_
        show Steps p.tables e below (T38.setTop (mkF m 120 #[.val (.int cd), .val (.int fl), .val (.int t), .val (.int sel), .val (.ref tb), .val (.int (10 : Int32)), .val (.ref ra), .unset] [(.int (34 : Int32)), (.int (10 : Int32))])) _
        refine XS.icmpNo X38.here hx rfl (hb hby at_120) rfl (XT.ii_eq_f (by decide)) ?_
        show Steps p.tables e below (T38.setTop (mkF m 123 #[.val (.int cd), .val (.int fl), .val (.int t), .val (.int sel), .val (.ref tb), .val (.int (10 : Int32)), .val (.ref ra), .unset] [])) _
        refine XS.iload X38.here hx rfl (hb hby at_123) rfl ?_
        show Steps p.tables e below (T38.setTop (mkF m 125 #[.val (.int cd), .val (.int fl), .val (.int t), .val (.int sel), .val (.ref tb), .val (.int (10 : Int32)), .val (.ref ra), .unset] [(.int (10 : Int32))])) _
        refine XS.bipush X38.here hx rfl (hb hby at_125) ?_
        show Steps p.tables e below (T38.setTop (mkF m 127 #[.val (.int cd), .val (.int fl), .val (.int t), .val (.int sel), .val (.ref tb), .val (.int (10 : Int32)), .val (.ref ra), .unset] [(.int (9 : Int32)), (.int (10 : Int32))])) _
        refine XS.icmpNo X38.here hx rfl (hb hby at_127) rfl (XT.ii_eq_f (by decide)) ?_
        show Steps p.tables e below (T38.setTop (mkF m 130 #[.val (.int cd), .val (.int fl), .val (.int t), .val (.int sel), .val (.ref tb), .val (.int (10 : Int32)), .val (.ref ra), .unset] [])) _
        refine XS.iload X38.here hx rfl (hb hby at_130) rfl ?_
        show Steps p.tables e below (T38.setTop (mkF m 132 #[.val (.int cd), .val (.int fl), .val (.int t), .val (.int sel), .val (.ref tb), .val (.int (10 : Int32)), .val (.ref ra), .unset] [(.int (10 : Int32))])) _
        refine XS.bipush X38.here hx rfl (hb hby at_132) ?_
        show Steps p.tables e below (T38.setTop (mkF m 134 #[.val (.int cd), .val (.int fl), .val (.int t), .val (.int sel), .val (.ref tb), .val (.int (10 : Int32)), .val (.ref ra), .unset] [(.int (10 : Int32)), (.int (10 : Int32))])) _
        refine XS.icmpNo X38.here hx rfl (hb hby at_134) rfl (XT.ii_ne_f (by decide)) ?_
        show Steps p.tables e below (T38.setTop (mkF m 137 #[.val (.int cd), .val (.int fl), .val (.int t), .val (.int sel), .val (.ref tb), .val (.int (10 : Int32)), .val (.ref ra), .unset] [])) _
        refine XS.goto X38.here hx rfl (pc0 := 137) (pc' := 147) rfl (hb hby at_137) (by decide) (by decide) ?_
        show Steps p.tables e below (T38.setTop (mkF m 147 #[.val (.int cd), .val (.int fl), .val (.int t), .val (.int sel), .val (.ref tb), .val (.int (10 : Int32)), .val (.ref ra), .unset] [])) _
        refine XS.iconst X38.here hx rfl (hb hby at_147) ?_
        show Steps p.tables e below (T38.setTop (mkF m 148 #[.val (.int cd), .val (.int fl), .val (.int t), .val (.int sel), .val (.ref tb), .val (.int (10 : Int32)), .val (.ref ra), .unset] [(.int (1 : Int32))])) _
        refine XS.goto X38.here hx rfl (pc0 := 148) (pc' := 152) rfl (hb hby at_148) (by decide) (by decide) ?_
        show Steps p.tables e below (T38.setTop (mkF m 152 #[.val (.int cd), .val (.int fl), .val (.int t), .val (.int sel), .val (.ref tb), .val (.int (10 : Int32)), .val (.ref ra), .unset] [(.int (1 : Int32))])) _
        refine XS.istore X38.here hx rfl (hb hby at_152) rfl (l' := #[.val (.int cd), .val (.int fl), .val (.int t), .val (.int sel), .val (.ref tb), .val (.int (10 : Int32)), .val (.ref ra), .val (.int (1 : Int32))]) rfl ?_
        show Steps p.tables e below (T38.setTop (mkF m 154 #[.val (.int cd), .val (.int fl), .val (.int t), .val (.int sel), .val (.ref tb), .val (.int (10 : Int32)), .val (.ref ra), .val (.int (1 : Int32))] [])) _
        refine XS.iload X38.here hx rfl (hb hby at_154) rfl ?_
        show Steps p.tables e below (T38.setTop (mkF m 156 #[.val (.int cd), .val (.int fl), .val (.int t), .val (.int sel), .val (.ref tb), .val (.int (10 : Int32)), .val (.ref ra), .val (.int (1 : Int32))] [(.int (1 : Int32))])) _
        refine XS.ifYes X38.here hx rfl (pc0 := 156) (pc' := 170) rfl (hb hby at_156) rfl (XT.i0_ne_t (by decide)) (by decide) (by decide) ?_
        show Steps p.tables e below (T38.setTop (mkF m 170 #[.val (.int cd), .val (.int fl), .val (.int t), .val (.int sel), .val (.ref tb), .val (.int (10 : Int32)), .val (.ref ra), .val (.int (1 : Int32))] [])) _
        refine XS.aload X38.here hx rfl (hb hby at_170) rfl rfl ?_
        show Steps p.tables e below (T38.setTop (mkF m 172 #[.val (.int cd), .val (.int fl), .val (.int t), .val (.int sel), .val (.ref tb), .val (.int (10 : Int32)), .val (.ref ra), .val (.int (1 : Int32))] [(.ref ra)])) _
        refine XS.ifnullNo X38.here hx rfl (hb hby at_172) rfl ?_
        show Steps p.tables e below (T38.setTop (mkF m 175 #[.val (.int cd), .val (.int fl), .val (.int t), .val (.int sel), .val (.ref tb), .val (.int (10 : Int32)), .val (.ref ra), .val (.int (1 : Int32))] [])) _
        refine XS.aload X38.here hx rfl (hb hby at_175) rfl rfl ?_
        exact Steps.refl _
      obtain ⟨v86, T86, L86, X86, hS86, hZ, hown, hg86, hQ86, C86, st86⟩ := own_callH (R := room_1) (s := s) (vm0 := T38.vm) X38 hx hS38 (by rw [(rfl : T38.heap = T38.heap)]; exact (Nat.le_refl _)) hZ (y := (⟨"com/example/distill_trees/distilltrees/io/XmlWriterReferencePinLaw", "decode", "(Ljava/lang/String;)I"⟩ : MethodName)) hown (mvT hZ (hw _ (List.mem_of_getElem? (i := 13) rfl))) (mvT hZ (hw _ (List.mem_of_getElem? (i := 14) rfl))) (mvT hZ (hw _ (List.mem_of_getElem? (i := 15) rfl))) (mvT hZ (hw _ (List.mem_of_getElem? (i := 16) rfl))) (by decide) (backOfSH (R := room_1) (s := s) (vm0 := T38.vm) (W := 0) (rm2lf l Z a0 hw [] ra z fm T38.heap n0 (Nat.le_trans (Nat.le_trans (Nat.le_trans (Nat.le_trans (Nat.le_trans (Nat.le_trans (Nat.le_trans (Nat.le_trans (Nat.le_trans (Nat.le_trans Z0 E5.1) (Keep.of_wr W8).1) (Keep.of_wr W11).1) (Keep.of_wr W14).1) (Keep.of_wr W17).1) (Keep.of_wr W20).1) (Keep.of_wr W23).1) (Keep.of_wr W26).1) (Keep.of_wr W29).1) (Nat.le_trans (Nat.le_of_eq (congrArg Array.size e29.symm)) hg38)) Lr O2x hz O4x rf) hZ (hw _ (List.mem_of_getElem? (i := 16) rfl)) (hw _ (List.mem_of_getElem? (i := 15) rfl)) (by decide) (by decide) (own_lk hw) CH38.1) (g := (mkF m 177 #[.val (.int cd), .val (.int fl), .val (.int t), .val (.int sel), .val (.ref tb), .val (.int (10 : Int32)), .val (.ref ra), .val (.int (1 : Int32))] [(.ref ra)])) rfl (by rw [hml]; rfl) (argsL := [(.ref ra)]) (rest := []) (lenOf pd_5 rfl) rfl (by show 2 * 0 + _ ≤ _; exact Nat.le_of_eq rfl) (hb hby at_177) ⟨rfl, rfl, (by decide : 3 + 10 ≤ room_1.cells), (by decide : 36 + 120 ≤ room_1.slots)⟩
      have CH86 := CHr.trans CH38 C86
      obtain ⟨hv86, N86q⟩ := hQ86
      rw [hv86] at st86
      have N86 := Fr.app N38 N86q
      have S87 : Steps p.tables e below Ω (T86.setTop (mkF m 180 #[.val (.int cd), .val (.int fl), .val (.int t), .val (.int sel), .val (.ref tb), .val (.int (10 : Int32)), .val (.ref ra), .val (.int (1 : Int32))] [(.int (10 : Int32))])) := S85.trans st86
      have S88 : Steps p.tables e below Ω (T86.setTop (mkF m 190 #[.val (.int cd), .val (.int fl), .val (.int t), .val (.int sel), .val (.ref tb), .val (.int (10 : Int32)), .val (.ref ra), .val (.int (1 : Int32))] [(.int (1 : Int32))])) := by
        refine S87.trans ?_
        refine XS.iload X86.here hx rfl (hb hby at_180) rfl ?_
        show Steps p.tables e below (T86.setTop (mkF m 182 #[.val (.int cd), .val (.int fl), .val (.int t), .val (.int sel), .val (.ref tb), .val (.int (10 : Int32)), .val (.ref ra), .val (.int (1 : Int32))] [(.int (10 : Int32)), (.int (10 : Int32))])) _
        refine XS.icmpNo X86.here hx rfl (hb hby at_182) rfl (XT.ii_ne_f (by decide)) ?_
        show Steps p.tables e below (T86.setTop (mkF m 185 #[.val (.int cd), .val (.int fl), .val (.int t), .val (.int sel), .val (.ref tb), .val (.int (10 : Int32)), .val (.ref ra), .val (.int (1 : Int32))] [])) _
        refine XS.iconst X86.here hx rfl (hb hby at_185) ?_
        show Steps p.tables e below (T86.setTop (mkF m 186 #[.val (.int cd), .val (.int fl), .val (.int t), .val (.int sel), .val (.ref tb), .val (.int (10 : Int32)), .val (.ref ra), .val (.int (1 : Int32))] [(.int (1 : Int32))])) _
        refine XS.goto X86.here hx rfl (pc0 := 186) (pc' := 190) rfl (hb hby at_186) (by decide) (by decide) ?_
        exact Steps.refl _
      obtain ⟨fs, hr, hrun, hended, hend⟩ := Stand.leaveW (s := s) (vm₁ := T86.vm) X86 hS86 (by rw [(rfl : T86.heap = T86.heap)]; exact (Nat.le_refl _)) (v := some (.int (1 : Int32))) (fun h => by rw [Bd.returns] at h; cases h)
      have hfin : Steps p.tables e below Ω (T86.setFrames fs) := by
        refine S88.trans ?_
        exact own_retZ X86 hx Bd.returns (by decide) (hb hby at_190) hr
      rw [hΩ] at hfin
      have CHe : CHr Z consts_1 s.vm s.heap T86.vm T86.heap := by
        rw [hh]
        exact CHr.trans CH86 (CHv.at (s := s) (vm0 := T86.vm) X86 hZ (own_lk hw) CH86.1)
      refine ⟨_, _, hfin, hrun, hended, _, _, rfl, ?_, CHe, hend.1, hend.2.1, hend.2.2.1, hend.2.2.2.mono (by decide) (by decide)⟩
      show Q0 Z cd fl z fm h0 n0 _ T86.heap _
      exact ⟨rfl, N86⟩
set_option maxRecDepth 65536 in
set_option maxHeartbeats 40000000 in
theorem comes_1 {Post : Tables → Env → Array Value → State → Outcome → State → Prop} (hpost : ∀ tb e args s v u, (limb_1_1.after args s (.returned v) u = true ∧ limb_1_2.after args s (.returned v) u = true ∧ True) → ReturnedEndW s (.returned v) u (Jvm.fieldLocs frame_1_writes args s ++ Jvm.arrayLocs frame_1_arrays args s ++ Jvm.staticLocs frame_1_statics s) 40 12416 → Post tb e args s (.returned v) u) :
    ArmFor flags0 classFile x code maxLocals ret World_1 tables_1 room_1 Calls_1 rest_1 Pre_1 Post := by
  intro l hfl _ _ p e ha hc hk s m args below hf hA hF happ hP
  obtain ⟨hcalls, hrest, hpre⟩ := hP
  obtain ⟨-, -, -, hnamed, -, -, -, hat⟩ := (Spec.applies_iff hf).mp happ
  obtain ⟨hg, hn⟩ := and_e (Cond.before_iff.mp (show (Jvm.Cond.and given_1 narrow_1).before args s = true from hpre))
  obtain ⟨gc, g0⟩ := and_e hg
  obtain ⟨k0, g1⟩ := and_e g0
  obtain ⟨w0, w1, rfl⟩ : ∃ w0 w1 : Value, args = #[w0, w1] := by
    have hs : args.size = 2 := by simpa [Cond.value, given_1] using gc
    obtain ⟨L⟩ := args
    match L, hs with
    | [w0, w1], _ => exact ⟨w0, w1, rfl⟩
  have hw := fun d (hd : d ∈ tables_1) => atoms_spec (ws := Jvm.Cond.code x code maxLocals ret :: tables_1) hat d (List.mem_cons_of_mem _ hd)
  have hfit : Fit s := fun {y c} hc i hi => by
    obtain ⟨ha, rfl⟩ := Array.getElem?_eq_some_iff.mp hc
    have q := List.all_eq_true.mp ((Array.all_eq_true_iff_forall_mem.mp hF) _ (Array.getElem_mem ha)) i (List.mem_range.mpr hi)
    simpa [Array.getElem?_eq_getElem hi] using q
  obtain ⟨hsets, hown0⟩ := atoms_of _ (rest_1_c_eq ▸ (show rest_1_c.before _ s = true from hrest))
  have n5 := not_v (Cond.before_iff.mp (hsets _ (List.mem_of_getElem? (i := 2) rfl)))
  obtain ⟨i11, e10⟩ := is_v (Cond.before_iff.mp (hsets _ (List.mem_of_getElem? (i := 1) rfl)))
  have S12 : Sta s s.heap "java/lang/String" "COMPACT_STRINGS" "Z" (.int i11) := Sta.start e10 (Or.inl (hsets _ (List.mem_of_getElem? (i := 0) rfl)))
  obtain ⟨v13, e14, r15⟩ := isR_v (Cond.before_iff.mp (hsets _ (List.mem_of_getElem? (i := 8) rfl)))
  have S16 : Sta s s.heap "jdk/internal/util/Preconditions" "SIOOBE_FORMATTER" "Ljava/util/function/BiFunction;" v13 := Sta.start e14 (Or.inl (hsets _ (List.mem_of_getElem? (i := 7) rfl)))
  have c17 : ¬ (i11 = (0 : Int32)) := gotF (Cond.eq_ints e10 (Term.int_eval (0))) n5
  have HS := CHv.start (own_lk hw) hcalls.1 (hsets _ (List.mem_of_getElem? (i := 2) rfl)) (hw _ (List.mem_of_getElem? (i := 8) rfl)) (hw _ (List.mem_of_getElem? (i := 7) rfl))
  obtain ⟨i0, ei0⟩ := is_v k0
  obtain rfl : w0 = (.int i0) := Option.some.inj ei0
  obtain ⟨i1, ei1⟩ := is_v g1
  obtain rfl : w1 = (.int i1) := Option.some.inj ei1
  obtain ⟨n, o, h1, h2, h3, _, L, rfl, ⟨rfl, N⟩, -, hq⟩ := rm0 l s _ hw tables_1 i0 i1 i11 v13 s.heap s.heap.size (Nat.le_refl _) S12 c17 S16 r15 p e ha hc hk s m _ below hf ((Spec.applies_iff_loose hf).mp happ).1 ⟨rfl, State.Warmed39.refl s, rfl, HS⟩ trivial
  refine ⟨n, _, h1, h2, h3, hpost _ _ _ _ _ _ ⟨Cond.after_iff.mpr rfl, Cond.after_iff.mpr (eq_i res_at (Term.int_eval (1)) rfl), trivial⟩ ⟨hq.1, hq.2.1, hq.2.2.1, (hq.2.2.2.sift fun y hy => Or.inr (N y hy)).mono (by decide) (by decide)⟩⟩
theorem main_1_1 : Claimed_1_1 := comes_1 fun _ _ _ _ _ _ h hF => ⟨h.1, hF⟩
theorem main_1_2 : Claimed_1_2 := comes_1 fun _ _ _ _ _ _ h hF => ⟨h.2.1, hF⟩
end Jvm.Pilot.@@N@@
namespace Jvm.Pilot.@@N@@
open Jvm Jvm.ClassFile Sem Op Lib Jvm.Free Jvm.Stand Jvm.Pilot.@@N@@.Jvm.D
/-! MADE BY PROGRAM (witnessworld.py) out of the Statement's table words and the real class files: 17 classes; the members and pool entries that the words name. The judged class is class 1, her method 1. -/
namespace start1
open Jvm.ClassFile
def u (s : String) : CpInfo := .utf8 (stringToUtf16 s)
/-- a pool by its gaps: so many unusable entries, then the entry; so many at the end -/
def gap : Nat → List CpInfo → List CpInfo
  | 0, r => r
  | n + 1, r => .unusable :: gap n r
def poolList (es : List (Nat × CpInfo)) (last : Nat) : List CpInfo := es.foldr (fun e r => gap e.1 (e.2 :: r)) (gap last [])
def pool (es : List (Nat × CpInfo)) (last : Nat) : Array CpInfo := ⟨poolList es last⟩
def fileOf (pool : Array CpInfo) (this : Nat) (attrs : Array Attribute := #[]) (ms : Array MethodInfo := #[]) (fl : Nat := 33) (sup : Nat := 0) (ifs : Array Nat := #[]) (fds : Array FieldInfo := #[]) : ClassFile where
  minorVersion := 0
  majorVersion := 65
  constantPool := pool
  accessFlags := fl
  thisClass := this
  superClass := sup
  interfaces := ifs
  fields := fds
  methods := ms
  attributes := attrs
def plain (name : String) (sup : Option ClassId) : Class where
  name := name
  kind := .ordinary
  loader := none
  accessFlags := 33
  super := sup
  interfaces := #[]
  cf := none
  fields := #[]
  methods := #[]
  instanceTypes := #[]
  staticTypes := #[]
  resolved := #[]
  callSites := []
  init := .initialized
  statics := none
  mirror := none

def pool0 : Array CpInfo := pool [(5, u "<init>"), (0, u "()V"), (1, .class_ 10), (1, u "java/lang/Object")] 113

def k0m0 : Method := { name := "<init>", desc := "()V", sig := { parameters := [], returnType := none }, accessFlags := 1, code := none }
/-- java/lang/Object -/
def k0 : Class := { plain "java/lang/Object" none with
  accessFlags := 33
  interfaces := #[]
  cf := some (fileOf pool0 8 #[] #[{ accessFlags := 1, nameIndex := 5, descriptorIndex := 6, attributes := #[] }] 33 0 #[] #[])
  fields := #[]
  methods := #[k0m0]
  instanceTypes := #[]
  staticTypes := #[]
  resolved := Array.replicate 124 none
  statics := none }

def pool1 : Array CpInfo := pool [(2, .class_ 4), (1, u "java/lang/Object"), (0, u "<init>"), (0, u "()V"), (0, .methodref 8 9), (0, .class_ 10), (0, .nameAndType 11 12), (0, u "com/example/distill_trees/distilltrees/io/XmlWriter"), (0, u "reference"), (0, u "(IZ)Ljava/lang/String;"), (0, .methodref 14 15), (0, .class_ 16), (0, .nameAndType 17 18), (0, u "com/example/distill_trees/distilltrees/io/XmlWriterReferencePinLaw"), (0, u "decode"), (0, u "(Ljava/lang/String;)I"), (0, .methodref 20 21), (0, .class_ 22), (0, .nameAndType 23 24), (0, u "java/lang/String"), (0, u "charAt"), (0, u "(I)C"), (0, .methodref 20 26), (0, .nameAndType 27 28), (0, u "length"), (0, u "()I"), (0, .string 30), (0, u "&amp;"), (0, .methodref 20 32), (0, .nameAndType 33 34), (0, u "equals"), (0, u "(Ljava/lang/Object;)Z"), (0, .string 36), (0, u "&lt;"), (0, .string 38), (0, u "&gt;"), (0, .string 40), (0, u "&quot;"), (0, .string 42), (0, u "&apos;"), (0, .methodref 14 44), (0, .nameAndType 45 46), (0, u "digit"), (0, u "(Ljava/lang/String;I)I"), (2, u "law"), (0, u "(II)Z")] 5

def k1m0 : Method := { name := "<init>", desc := "()V", sig := { parameters := [], returnType := none }, accessFlags := 2, code := none }
def k1c1 : Code := { maxStack := 4, maxLocals := 8, code := code, exceptionTable := #[], attributes := #[] }
def k1m1 : Method := { name := "law", desc := "(II)Z", sig := { parameters := [.int, .int], returnType := some .boolean }, accessFlags := 9, code := some k1c1 }
def k1c2 : Code := { maxStack := 2, maxLocals := 3, code := method_3_code, exceptionTable := #[], attributes := #[] }
def k1m2 : Method := { name := "digit", desc := "(Ljava/lang/String;I)I", sig := { parameters := [(.object "java/lang/String"), .int], returnType := some .int }, accessFlags := 10, code := some k1c2 }
def k1c3 : Code := { maxStack := 3, maxLocals := 5, code := method_4_code, exceptionTable := #[], attributes := #[] }
def k1m3 : Method := { name := "decode", desc := "(Ljava/lang/String;)I", sig := { parameters := [(.object "java/lang/String")], returnType := some .int }, accessFlags := 10, code := some k1c3 }
/-- com/example/distill_trees/distilltrees/io/XmlWriterReferencePinLaw -/
def k1 : Class := { plain "com/example/distill_trees/distilltrees/io/XmlWriterReferencePinLaw" (some 0) with
  accessFlags := 49
  interfaces := #[]
  cf := some (fileOf pool1 14 #[] #[{ accessFlags := 2, nameIndex := 5, descriptorIndex := 6, attributes := #[] }, { accessFlags := 9, nameIndex := 49, descriptorIndex := 50, attributes := #[] }, { accessFlags := 10, nameIndex := 45, descriptorIndex := 46, attributes := #[] }, { accessFlags := 10, nameIndex := 17, descriptorIndex := 18, attributes := #[] }] 49 2 #[] #[])
  fields := #[]
  methods := #[k1m0, k1m1, k1m2, k1m3]
  instanceTypes := #[]
  staticTypes := #[]
  resolved := Array.replicate 56 none
  statics := none }

def pool2 : Array CpInfo := pool [(2, .class_ 4), (1, u "java/lang/Object"), (0, u "<init>"), (0, u "()V"), (11, .class_ 20), (1, u "com/example/distill_trees/distilltrees/io/XmlWriter"), (0, u "reference"), (0, u "(IZ)Ljava/lang/String;"), (18, .class_ 43), (1, u "com/example/distill_trees/distilltrees/io/XmlWriter$Unwritable"), (7, .string 52), (0, u "&amp;"), (0, .string 54), (0, u "&lt;"), (0, .string 56), (0, u "&gt;"), (0, .string 58), (0, u "&quot;"), (0, .string 60), (0, u "&#9;"), (0, .string 62), (0, u "&#10;"), (0, .string 64), (0, u "&#13;")] 98

def k2m0 : Method := { name := "<init>", desc := "()V", sig := { parameters := [], returnType := none }, accessFlags := 2, code := none }
def k2c1 : Code := { maxStack := 1, maxLocals := 2, code := prog_83_method_3_code, exceptionTable := #[], attributes := #[] }
def k2m1 : Method := { name := "reference", desc := "(IZ)Ljava/lang/String;", sig := { parameters := [.int, .boolean], returnType := some (.object "java/lang/String") }, accessFlags := 9, code := some k2c1 }
/-- com/example/distill_trees/distilltrees/io/XmlWriter -/
def k2 : Class := { plain "com/example/distill_trees/distilltrees/io/XmlWriter" (some 0) with
  accessFlags := 49
  interfaces := #[]
  cf := some (fileOf pool2 18 #[.nestMembers #[41]] #[{ accessFlags := 2, nameIndex := 5, descriptorIndex := 6, attributes := #[] }, { accessFlags := 9, nameIndex := 21, descriptorIndex := 22, attributes := #[] }] 49 2 #[] #[])
  fields := #[]
  methods := #[k2m0, k2m1]
  instanceTypes := #[]
  staticTypes := #[]
  resolved := Array.replicate 163 none
  statics := none }

def pool3 : Array CpInfo := pool [(1, .class_ 2), (0, u "java/io/Serializable"), (0, .class_ 4), (0, u "java/lang/Object")] 2

/-- java/io/Serializable -/
def k3 : Class := { plain "java/io/Serializable" (some 0) with
  accessFlags := 1537
  interfaces := #[]
  cf := some (fileOf pool3 1 #[] #[] 1537 3 #[] #[])
  fields := #[]
  methods := #[]
  instanceTypes := #[]
  staticTypes := #[]
  resolved := Array.replicate 7 none
  statics := none }

def pool4 : Array CpInfo := pool [(1, .class_ 2), (0, u "java/lang/Comparable"), (0, .class_ 4), (0, u "java/lang/Object")] 7

/-- java/lang/Comparable -/
def k4 : Class := { plain "java/lang/Comparable" (some 0) with
  accessFlags := 1537
  interfaces := #[]
  cf := some (fileOf pool4 1 #[] #[] 1537 3 #[] #[])
  fields := #[]
  methods := #[]
  instanceTypes := #[]
  staticTypes := #[]
  resolved := Array.replicate 12 none
  statics := none }

def pool5 : Array CpInfo := pool [(2, .class_ 4), (1, u "java/lang/CharSequence"), (42, .class_ 48), (0, u "java/lang/CharSequence$1CodePointIterator"), (10, .class_ 60), (0, u "java/lang/CharSequence$1CharIterator"), (5, .class_ 67), (0, u "java/lang/Object")] 63

/-- java/lang/CharSequence -/
def k5 : Class := { plain "java/lang/CharSequence" (some 0) with
  accessFlags := 1537
  interfaces := #[]
  cf := some (fileOf pool5 2 #[.nestMembers #[47, 59]] #[] 1537 66 #[] #[])
  fields := #[]
  methods := #[]
  instanceTypes := #[]
  staticTypes := #[]
  resolved := Array.replicate 131 none
  statics := none }

def pool6 : Array CpInfo := pool [(1, .class_ 2), (0, u "java/lang/constant/Constable"), (0, .class_ 4), (0, u "java/lang/Object")] 6

/-- java/lang/constant/Constable -/
def k6 : Class := { plain "java/lang/constant/Constable" (some 0) with
  accessFlags := 1537
  interfaces := #[]
  cf := some (fileOf pool6 1 #[] #[] 1537 3 #[] #[])
  fields := #[]
  methods := #[]
  instanceTypes := #[]
  staticTypes := #[]
  resolved := Array.replicate 11 none
  statics := none }

def pool7 : Array CpInfo := pool [(1, .class_ 2), (0, u "java/lang/constant/ConstantDesc"), (0, .class_ 4), (0, u "java/lang/Object")] 32

/-- java/lang/constant/ConstantDesc -/
def k7 : Class := { plain "java/lang/constant/ConstantDesc" (some 0) with
  accessFlags := 1537
  interfaces := #[]
  cf := some (fileOf pool7 1 #[] #[] 1537 3 #[] #[])
  fields := #[]
  methods := #[]
  instanceTypes := #[]
  staticTypes := #[]
  resolved := Array.replicate 37 none
  statics := none }

def pool8 : Array CpInfo := pool [(2, .class_ 4), (1, u "java/lang/Object"), (0, u "<init>"), (0, u "()V"), (2, .fieldref 10 11), (0, .class_ 12), (0, .nameAndType 13 14), (0, u "java/lang/String"), (0, u "value"), (0, u "[B"), (0, .fieldref 10 16), (0, .nameAndType 17 18), (0, u "coder"), (0, u "B"), (2, u "hash"), (0, u "I"), (2, u "hashIsZero"), (0, u "Z"), (11, .fieldref 10 39), (0, .nameAndType 40 26), (0, u "COMPACT_STRINGS"), (66, .class_ 109), (1, u "java/lang/StringLatin1"), (32, u "()Z"), (191, u "()I"), (0, .methodref 10 336), (0, .nameAndType 17 337), (0, u "()B"), (25, u "([BI)C"), (27, u "(II)V"), (35, u "(I)C"), (64, .methodref 10 493), (0, .nameAndType 494 142), (0, u "isLatin1"), (0, .methodref 107 496), (0, .nameAndType 497 363), (0, u "charAt"), (3, u "checkIndex"), (5, u "length"), (33, .methodref 107 542), (0, .nameAndType 543 544), (0, u "equals"), (0, u "([B[B)Z"), (28, u "(Ljava/lang/Object;)Z"), (1, .class_ 576), (0, u "java/lang/CharSequence"), (22, u "CASE_INSENSITIVE_ORDER"), (0, u "Ljava/util/Comparator;"), (452, .fieldref 1054 1055), (0, .class_ 1056), (0, .nameAndType 1057 1058), (0, u "jdk/internal/util/Preconditions"), (0, u "SIOOBE_FORMATTER"), (0, u "Ljava/util/function/BiFunction;"), (0, .methodref 1054 1060), (0, .nameAndType 501 1061), (0, u "(IILjava/util/function/BiFunction;)I"), (39, u "serialPersistentFields"), (0, u "[Ljava/io/ObjectStreamField;"), (0, .class_ 1104), (0, u "java/lang/String$CaseInsensitiveComparator"), (1, .class_ 1107), (0, u "java/io/Serializable"), (0, .class_ 1109), (0, u "java/lang/Comparable"), (0, .class_ 1111), (0, u "java/lang/constant/Constable"), (0, .class_ 1113), (0, u "java/lang/constant/ConstantDesc"), (2, u "serialVersionUID"), (0, u "J"), (3, u "REPL"), (0, u "C"), (2, u "LATIN1"), (1, u "UTF16")] 323

def k8m0 : Method := { name := "<init>", desc := "()V", sig := { parameters := [], returnType := none }, accessFlags := 1, code := none }
def k8c1 : Code := { maxStack := 2, maxLocals := 1, code := jdk_42_method_54_code, exceptionTable := #[], attributes := #[] }
def k8m1 : Method := { name := "length", desc := "()I", sig := { parameters := [], returnType := some .int }, accessFlags := 1, code := some k8c1 }
def k8c2 : Code := { maxStack := 2, maxLocals := 2, code := jdk_42_method_56_code, exceptionTable := #[], attributes := #[] }
def k8m2 : Method := { name := "charAt", desc := "(I)C", sig := { parameters := [.int], returnType := some .char }, accessFlags := 1, code := some k8c2 }
def k8c3 : Code := { maxStack := 2, maxLocals := 3, code := jdk_42_method_66_code, exceptionTable := #[], attributes := #[] }
def k8m3 : Method := { name := "equals", desc := "(Ljava/lang/Object;)Z", sig := { parameters := [(.object "java/lang/Object")], returnType := some .boolean }, accessFlags := 1, code := some k8c3 }
def k8c4 : Code := { maxStack := 1, maxLocals := 1, code := jdk_42_method_152_code, exceptionTable := #[], attributes := #[] }
def k8m4 : Method := { name := "coder", desc := "()B", sig := { parameters := [], returnType := some .byte }, accessFlags := 0, code := some k8c4 }
def k8c5 : Code := { maxStack := 1, maxLocals := 1, code := jdk_42_method_154_code, exceptionTable := #[], attributes := #[] }
def k8m5 : Method := { name := "isLatin1", desc := "()Z", sig := { parameters := [], returnType := some .boolean }, accessFlags := 0, code := some k8c5 }
def k8c6 : Code := { maxStack := 3, maxLocals := 2, code := jdk_42_method_155_code, exceptionTable := #[], attributes := #[] }
def k8m6 : Method := { name := "checkIndex", desc := "(II)V", sig := { parameters := [.int, .int], returnType := none }, accessFlags := 8, code := some k8c6 }
/-- java/lang/String -/
def k8 : Class := { plain "java/lang/String" (some 0) with
  accessFlags := 49
  interfaces := #[3, 4, 5, 6, 7]
  cf := some (fileOf pool8 10 #[.nestMembers #[1103]] #[{ accessFlags := 1, nameIndex := 5, descriptorIndex := 6, attributes := #[] }, { accessFlags := 1, nameIndex := 507, descriptorIndex := 334, attributes := #[] }, { accessFlags := 1, nameIndex := 497, descriptorIndex := 427, attributes := #[] }, { accessFlags := 1, nameIndex := 543, descriptorIndex := 573, attributes := #[] }, { accessFlags := 0, nameIndex := 17, descriptorIndex := 337, attributes := #[] }, { accessFlags := 0, nameIndex := 494, descriptorIndex := 142, attributes := #[] }, { accessFlags := 8, nameIndex := 501, descriptorIndex := 391, attributes := #[] }] 49 2 #[1106, 1108, 575, 1110, 1112] #[{ accessFlags := 18, nameIndex := 13, descriptorIndex := 14, attributes := #[] }, { accessFlags := 18, nameIndex := 17, descriptorIndex := 18, attributes := #[] }, { accessFlags := 2, nameIndex := 21, descriptorIndex := 22, attributes := #[] }, { accessFlags := 2, nameIndex := 25, descriptorIndex := 26, attributes := #[] }, { accessFlags := 26, nameIndex := 1116, descriptorIndex := 1117, attributes := #[] }, { accessFlags := 24, nameIndex := 40, descriptorIndex := 26, attributes := #[] }, { accessFlags := 26, nameIndex := 1101, descriptorIndex := 1102, attributes := #[] }, { accessFlags := 26, nameIndex := 1121, descriptorIndex := 1122, attributes := #[] }, { accessFlags := 25, nameIndex := 599, descriptorIndex := 600, attributes := #[] }, { accessFlags := 24, nameIndex := 1125, descriptorIndex := 18, attributes := #[] }, { accessFlags := 24, nameIndex := 1127, descriptorIndex := 18, attributes := #[] }])
  fields := #[{ name := "value", type := (.array .byte), accessFlags := 18, slot := 0, constantValue := 0 }, { name := "coder", type := .byte, accessFlags := 18, slot := 1, constantValue := 0 }, { name := "hash", type := .int, accessFlags := 2, slot := 2, constantValue := 0 }, { name := "hashIsZero", type := .boolean, accessFlags := 2, slot := 3, constantValue := 0 }, { name := "serialVersionUID", type := .long, accessFlags := 26, slot := 0, constantValue := 0 }, { name := "COMPACT_STRINGS", type := .boolean, accessFlags := 24, slot := 1, constantValue := 0 }, { name := "serialPersistentFields", type := (.array (.object "java/io/ObjectStreamField")), accessFlags := 26, slot := 2, constantValue := 0 }, { name := "REPL", type := .char, accessFlags := 26, slot := 3, constantValue := 0 }, { name := "CASE_INSENSITIVE_ORDER", type := (.object "java/util/Comparator"), accessFlags := 25, slot := 4, constantValue := 0 }, { name := "LATIN1", type := .byte, accessFlags := 24, slot := 5, constantValue := 0 }, { name := "UTF16", type := .byte, accessFlags := 24, slot := 6, constantValue := 0 }]
  methods := #[k8m0, k8m1, k8m2, k8m3, k8m4, k8m5, k8m6]
  instanceTypes := #[(.array .byte), .byte, .int, .boolean]
  staticTypes := #[.long, .boolean, (.array (.object "java/io/ObjectStreamField")), .char, (.object "java/util/Comparator"), .byte, .byte]
  resolved := Array.replicate 1451 none
  statics := some 0 }

def pool9 : Array CpInfo := pool [(1, .class_ 2), (0, u "java/lang/String"), (1, .class_ 6), (1, u "java/lang/Object"), (0, u "<init>"), (0, u "()V"), (0, .methodref 1 10), (0, .nameAndType 11 12), (0, u "checkIndex"), (0, u "(II)V"), (1, .class_ 16), (1, u "java/lang/StringLatin1"), (36, u "([BI)C"), (67, u "$assertionsDisabled"), (0, u "Z"), (98, .class_ 223), (1, u "java/lang/StringLatin1$LinesSpliterator"), (28, u "charAt"), (28, u "equals"), (0, u "([B[B)Z"), (107, .class_ 391), (0, u "java/lang/StringLatin1$CharsSpliterator")] 3

def k9m0 : Method := { name := "<init>", desc := "()V", sig := { parameters := [], returnType := none }, accessFlags := 0, code := none }
def k9c1 : Code := { maxStack := 2, maxLocals := 2, code := jdk_43_method_2_code, exceptionTable := #[], attributes := #[] }
def k9m1 : Method := { name := "charAt", desc := "([BI)C", sig := { parameters := [(.array .byte), .int], returnType := some .char }, accessFlags := 9, code := some k9c1 }
def k9c2 : Code := { maxStack := 3, maxLocals := 3, code := jdk_43_method_13_code, exceptionTable := #[], attributes := #[] }
def k9m2 : Method := { name := "equals", desc := "([B[B)Z", sig := { parameters := [(.array .byte), (.array .byte)], returnType := some .boolean }, accessFlags := 9, code := some k9c2 }
/-- java/lang/StringLatin1 -/
def k9 : Class := { plain "java/lang/StringLatin1" (some 0) with
  accessFlags := 48
  interfaces := #[]
  cf := some (fileOf pool9 14 #[.nestMembers #[390, 221]] #[{ accessFlags := 0, nameIndex := 7, descriptorIndex := 8, attributes := #[] }, { accessFlags := 9, nameIndex := 252, descriptorIndex := 53, attributes := #[] }, { accessFlags := 9, nameIndex := 281, descriptorIndex := 282, attributes := #[] }] 48 4 #[] #[{ accessFlags := 4120, nameIndex := 121, descriptorIndex := 122, attributes := #[] }])
  fields := #[{ name := "$assertionsDisabled", type := .boolean, accessFlags := 4120, slot := 0, constantValue := 0 }]
  methods := #[k9m0, k9m1, k9m2]
  instanceTypes := #[]
  staticTypes := #[.boolean]
  resolved := Array.replicate 395 none
  statics := none }

def pool10 : Array CpInfo := pool [(2, .class_ 4), (1, u "java/lang/Object"), (0, u "<init>"), (0, u "()V"), (17, .class_ 26), (1, u "jdk/internal/util/Preconditions"), (6, u "checkIndex"), (21, .class_ 56), (0, u "jdk/internal/util/Preconditions$4"), (57, .class_ 115), (0, u "jdk/internal/util/Preconditions$1"), (7, u "SIOOBE_FORMATTER"), (0, u "Ljava/util/function/BiFunction;"), (0, .class_ 126), (0, u "jdk/internal/util/Preconditions$2"), (3, u "AIOOBE_FORMATTER"), (0, .class_ 132), (0, u "jdk/internal/util/Preconditions$3"), (3, u "IOOBE_FORMATTER"), (41, u "(IILjava/util/function/BiFunction;)I")] 15

def k10m0 : Method := { name := "<init>", desc := "()V", sig := { parameters := [], returnType := none }, accessFlags := 1, code := none }
def k10c1 : Code := { maxStack := 3, maxLocals := 3, code := jdk_41_method_11_code, exceptionTable := #[], attributes := #[] }
def k10m1 : Method := { name := "checkIndex", desc := "(IILjava/util/function/BiFunction;)I", sig := { parameters := [.int, .int, (.object "java/util/function/BiFunction")], returnType := some .int }, accessFlags := 9, code := some k10c1 }
/-- jdk/internal/util/Preconditions -/
def k10 : Class := { plain "jdk/internal/util/Preconditions" (some 0) with
  accessFlags := 33
  interfaces := #[]
  cf := some (fileOf pool10 24 #[.nestMembers #[55, 131, 125, 114]] #[{ accessFlags := 1, nameIndex := 5, descriptorIndex := 6, attributes := #[] }, { accessFlags := 9, nameIndex := 33, descriptorIndex := 178, attributes := #[] }] 33 2 #[] #[{ accessFlags := 25, nameIndex := 123, descriptorIndex := 124, attributes := #[] }, { accessFlags := 25, nameIndex := 130, descriptorIndex := 124, attributes := #[] }, { accessFlags := 25, nameIndex := 136, descriptorIndex := 124, attributes := #[] }])
  fields := #[{ name := "SIOOBE_FORMATTER", type := (.object "java/util/function/BiFunction"), accessFlags := 25, slot := 0, constantValue := 0 }, { name := "AIOOBE_FORMATTER", type := (.object "java/util/function/BiFunction"), accessFlags := 25, slot := 1, constantValue := 0 }, { name := "IOOBE_FORMATTER", type := (.object "java/util/function/BiFunction"), accessFlags := 25, slot := 2, constantValue := 0 }]
  methods := #[k10m0, k10m1]
  instanceTypes := #[]
  staticTypes := #[(.object "java/util/function/BiFunction"), (.object "java/util/function/BiFunction"), (.object "java/util/function/BiFunction")]
  resolved := Array.replicate 194 none
  statics := some 1 }

def pool11 : Array CpInfo := pool [(9, u "<init>"), (6, .class_ 18), (1, u "java/lang/Object"), (0, u "()V"), (1, .class_ 23), (1, u "jdk/internal/util/ArraysSupport"), (0, u "LOG2_ARRAY_LONG_INDEX_SCALE"), (0, u "I"), (2, u "U"), (0, u "Ljdk/internal/misc/Unsafe;"), (8, u "BIG_ENDIAN"), (0, u "Z"), (8, u "LOG2_BYTE_BIT_SIZE"), (4, u "LOG2_ARRAY_INT_INDEX_SCALE"), (54, u "JLA"), (0, u "Ljdk/internal/access/JavaLangAccess;"), (11, u "LOG2_ARRAY_BOOLEAN_INDEX_SCALE"), (9, u "LOG2_ARRAY_BYTE_INDEX_SCALE"), (5, u "LOG2_ARRAY_CHAR_INDEX_SCALE"), (5, u "LOG2_ARRAY_SHORT_INDEX_SCALE"), (18, u "LOG2_ARRAY_FLOAT_INDEX_SCALE"), (24, u "LOG2_ARRAY_DOUBLE_INDEX_SCALE"), (89, u "T_BOOLEAN"), (2, u "T_CHAR"), (1, u "T_FLOAT"), (1, u "T_DOUBLE"), (1, u "T_BYTE"), (1, u "T_SHORT"), (1, u "T_INT"), (1, u "T_LONG"), (1, u "SOFT_MAX_ARRAY_LENGTH")] 83

def k11m0 : Method := { name := "<init>", desc := "()V", sig := { parameters := [], returnType := none }, accessFlags := 2, code := none }
/-- jdk/internal/util/ArraysSupport -/
def k11 : Class := { plain "jdk/internal/util/ArraysSupport" (some 0) with
  accessFlags := 33
  interfaces := #[]
  cf := some (fileOf pool11 21 #[] #[{ accessFlags := 2, nameIndex := 9, descriptorIndex := 19, attributes := #[] }] 33 16 #[] #[{ accessFlags := 24, nameIndex := 28, descriptorIndex := 29, attributes := #[] }, { accessFlags := 26, nameIndex := 38, descriptorIndex := 39, attributes := #[] }, { accessFlags := 25, nameIndex := 121, descriptorIndex := 25, attributes := #[] }, { accessFlags := 25, nameIndex := 131, descriptorIndex := 25, attributes := #[] }, { accessFlags := 25, nameIndex := 137, descriptorIndex := 25, attributes := #[] }, { accessFlags := 25, nameIndex := 143, descriptorIndex := 25, attributes := #[] }, { accessFlags := 25, nameIndex := 53, descriptorIndex := 25, attributes := #[] }, { accessFlags := 25, nameIndex := 24, descriptorIndex := 25, attributes := #[] }, { accessFlags := 25, nameIndex := 162, descriptorIndex := 25, attributes := #[] }, { accessFlags := 25, nameIndex := 187, descriptorIndex := 25, attributes := #[] }, { accessFlags := 26, nameIndex := 48, descriptorIndex := 25, attributes := #[] }, { accessFlags := 25, nameIndex := 277, descriptorIndex := 25, attributes := #[] }, { accessFlags := 25, nameIndex := 280, descriptorIndex := 25, attributes := #[] }, { accessFlags := 25, nameIndex := 282, descriptorIndex := 25, attributes := #[] }, { accessFlags := 25, nameIndex := 284, descriptorIndex := 25, attributes := #[] }, { accessFlags := 25, nameIndex := 286, descriptorIndex := 25, attributes := #[] }, { accessFlags := 25, nameIndex := 288, descriptorIndex := 25, attributes := #[] }, { accessFlags := 25, nameIndex := 290, descriptorIndex := 25, attributes := #[] }, { accessFlags := 25, nameIndex := 292, descriptorIndex := 25, attributes := #[] }, { accessFlags := 26, nameIndex := 108, descriptorIndex := 109, attributes := #[] }, { accessFlags := 25, nameIndex := 294, descriptorIndex := 25, attributes := #[] }])
  fields := #[{ name := "U", type := (.object "jdk/internal/misc/Unsafe"), accessFlags := 24, slot := 0, constantValue := 0 }, { name := "BIG_ENDIAN", type := .boolean, accessFlags := 26, slot := 1, constantValue := 0 }, { name := "LOG2_ARRAY_BOOLEAN_INDEX_SCALE", type := .int, accessFlags := 25, slot := 2, constantValue := 0 }, { name := "LOG2_ARRAY_BYTE_INDEX_SCALE", type := .int, accessFlags := 25, slot := 3, constantValue := 0 }, { name := "LOG2_ARRAY_CHAR_INDEX_SCALE", type := .int, accessFlags := 25, slot := 4, constantValue := 0 }, { name := "LOG2_ARRAY_SHORT_INDEX_SCALE", type := .int, accessFlags := 25, slot := 5, constantValue := 0 }, { name := "LOG2_ARRAY_INT_INDEX_SCALE", type := .int, accessFlags := 25, slot := 6, constantValue := 0 }, { name := "LOG2_ARRAY_LONG_INDEX_SCALE", type := .int, accessFlags := 25, slot := 7, constantValue := 0 }, { name := "LOG2_ARRAY_FLOAT_INDEX_SCALE", type := .int, accessFlags := 25, slot := 8, constantValue := 0 }, { name := "LOG2_ARRAY_DOUBLE_INDEX_SCALE", type := .int, accessFlags := 25, slot := 9, constantValue := 0 }, { name := "LOG2_BYTE_BIT_SIZE", type := .int, accessFlags := 26, slot := 10, constantValue := 0 }, { name := "T_BOOLEAN", type := .int, accessFlags := 25, slot := 11, constantValue := 0 }, { name := "T_CHAR", type := .int, accessFlags := 25, slot := 12, constantValue := 0 }, { name := "T_FLOAT", type := .int, accessFlags := 25, slot := 13, constantValue := 0 }, { name := "T_DOUBLE", type := .int, accessFlags := 25, slot := 14, constantValue := 0 }, { name := "T_BYTE", type := .int, accessFlags := 25, slot := 15, constantValue := 0 }, { name := "T_SHORT", type := .int, accessFlags := 25, slot := 16, constantValue := 0 }, { name := "T_INT", type := .int, accessFlags := 25, slot := 17, constantValue := 0 }, { name := "T_LONG", type := .int, accessFlags := 25, slot := 18, constantValue := 0 }, { name := "JLA", type := (.object "jdk/internal/access/JavaLangAccess"), accessFlags := 26, slot := 19, constantValue := 0 }, { name := "SOFT_MAX_ARRAY_LENGTH", type := .int, accessFlags := 25, slot := 20, constantValue := 0 }]
  methods := #[k11m0]
  instanceTypes := #[]
  staticTypes := #[(.object "jdk/internal/misc/Unsafe"), .boolean, .int, .int, .int, .int, .int, .int, .int, .int, .int, .int, .int, .int, .int, .int, .int, .int, .int, (.object "jdk/internal/access/JavaLangAccess"), .int]
  resolved := Array.replicate 378 none
  statics := none }

def pool12 : Array CpInfo := pool [(1, u "java/lang/Cloneable"), (0, .class_ 1), (0, u "java/lang/Object"), (0, .class_ 3)] 3

/-- java/lang/Cloneable -/
def k12 : Class := { plain "java/lang/Cloneable" (some 0) with
  accessFlags := 1537
  interfaces := #[]
  cf := some (fileOf pool12 2 #[] #[] 1537 4 #[] #[])
  fields := #[]
  methods := #[]
  instanceTypes := #[]
  staticTypes := #[]
  resolved := Array.replicate 8 none
  statics := none }

/-- the primitive byte -/
def k13 : Class := { plain "byte" none with kind := .primitive 'B', accessFlags := 0x411 }
/-- [B -/
def k14 : Class := { plain "[B" (some 0) with kind := .array 13 .byte, interfaces := #[12, 3], accessFlags := 1041 }

/-- the primitive int -/
def k15 : Class := { plain "int" none with kind := .primitive 'I', accessFlags := 0x411 }
/-- [I -/
def k16 : Class := { plain "[I" (some 0) with kind := .array 15 .int, interfaces := #[12, 3], accessFlags := 1041 }

def heap : Heap := #[{ cls := 8, slots := #[.long 0, .int 1, .null, .int 0, .null, .int 0, .int 0], vm := .statics 8 },
  { cls := 10, slots := #[.null, .null, .null], vm := .statics 10 }]
def classes : Array Class := #[k0, k1, k2, k3, k4, k5, k6, k7, k8, k9, k10, k11, k12, k13, k14, k15, k16]
def interned : List (Array UInt16 × Addr) := []
def slotsUsed : Nat := 10
def theMethod : MethodId := ⟨1, 1⟩
def args0 : Array Value := #[.int 5, .int 2]
def aboutOver (below : List Frame) : State where
  vm := { classes := classes, interned := interned.toArray }
  heap := heap
  slotsUsed := slotsUsed
  threads := #[{ frames := .invoking theMethod args0 :: below }]
def below0 : List Frame := [.native { method := ⟨0, 0⟩, args := #[] }]
def about1 : State := aboutOver below0
def p0 : Program := .bare "" "" ""
def e0 : Env := launch0.env 0 0 0
theorem w_frames : about1.frames = Frame.invoking theMethod args0 :: below0 := rfl
set_option maxRecDepth 65536 in
theorem w_args : argsFit about1.vm theMethod args0 = true := by decide +kernel
set_option maxRecDepth 65536 in
theorem w_heap : heapFits about1 = true := by decide +kernel
set_option maxRecDepth 65536 in
theorem w_runnable : about1.curStatus? = some .runnable := by decide +kernel
set_option maxRecDepth 65536 in
theorem w_alone : about1.alone = true := by decide +kernel
set_option maxRecDepth 65536 in
theorem w_named : about1.methodNamed? x = some theMethod := by decide +kernel
set_option maxRecDepth 65536 in
theorem w_hears : about1.hears theMethod below0 = true := by decide +kernel
set_option maxRecDepth 65536 in
theorem w_ripe : about1.ripe theMethod args0 below0 = true := by decide +kernel
theorem w_running : about1.status = .running := rfl
set_option maxRecDepth 65536 in
theorem w_room : about1.hasRoom e0.platform room_1 = true :=
  launch0.hasRoom_least _ room_1 (by decide +kernel) (by decide +kernel) (by decide +kernel) (by decide +kernel) (by decide +kernel) (by decide +kernel)
theorem allAtoms_all (ts : List Jvm.Cond) (a : Array Jvm.Value) (st : Jvm.State) : (allAtoms ts).before a st = ts.all (fun c => c.before a st) := by
  induction ts with
  | nil => rfl
  | cons c t ih =>
    show (Jvm.Cond.and c (allAtoms t)).before a st = _
    rw [Jvm.Cond.before_and, ih, List.all_cons]
def words1 : List Jvm.Cond := Jvm.Cond.code x code maxLocals ret :: tables_1
/-- a 'code' word, met by the world's own term for the bytes: nothing is compared byte by byte -/
theorem code_word {y : MethodName} {bytes : ByteArray} {mx : Nat} {rt : Option FieldType} {a : Array Value} {s : State} {m : MethodId} {meth : Method} {c : Code} (h1 : s.methodNamed? y = some m) (h2 : s.vm.method? m = some meth) (h3 : meth.code = some c) (h4 : c.code = bytes)
    (h5 : (c.maxLocals == mx && c.exceptionTable.isEmpty && decide (c.maxStack ≤ mostOperands) && decide (meth.sig.returnType = rt) && !meth.locks && decide (parseMethodDescriptor y.desc = some meth.sig)) = true) : (Jvm.Cond.code y bytes mx rt).before a s = true := by
  simp only [Bool.and_eq_true, beq_iff_eq, Bool.not_eq_true', decide_eq_true_eq] at h5
  obtain ⟨⟨⟨⟨⟨g1, g2⟩, g3⟩, g4⟩, g5⟩, g6⟩ := h5
  simp [Cond.before, Cond.holds, Cond.value, h1, h2, h3, h4, g1, g2, g3, g4, g5, g6]
def isCode : Jvm.Cond → Bool
  | .code _ _ _ _ => true
  | _ => false
theorem all_split {L : List Jvm.Cond} {P : Jvm.Cond → Bool} (h1 : L.all (fun c => isCode c || P c) = true) (h2 : ∀ c ∈ L.filter isCode, P c = true) : L.all P = true := by
  refine List.all_eq_true.mpr fun c hc => ?_
  have h := List.all_eq_true.mp h1 c hc
  rcases Bool.eq_false_or_eq_true (isCode c) with hi | hi
  · exact h2 c (List.mem_filter.mpr ⟨hc, hi⟩)
  · simpa [hi] using h
set_option maxRecDepth 65536 in
theorem w_c0 : (Jvm.Cond.code x code maxLocals ret).before args0 about1 = true := code_word (m := ⟨1, 1⟩) (meth := k1m1) (c := k1c1) (by decide +kernel) rfl rfl rfl (by decide +kernel)
set_option maxRecDepth 65536 in
theorem w_c1 : (Jvm.Cond.code ({ cls := "com/example/distill_trees/distilltrees/io/XmlWriter", name := "reference", desc := "(IZ)Ljava/lang/String;" } : Jvm.MethodName) prog_83_method_3_code (2 : Nat) (Option.some (Jvm.ClassFile.FieldType.object "java/lang/String"))).before args0 about1 = true := code_word (m := ⟨2, 1⟩) (meth := k2m1) (c := k2c1) (by decide +kernel) rfl rfl rfl (by decide +kernel)
set_option maxRecDepth 65536 in
theorem w_c2 : (Jvm.Cond.code ({ cls := "com/example/distill_trees/distilltrees/io/XmlWriterReferencePinLaw", name := "decode", desc := "(Ljava/lang/String;)I" } : Jvm.MethodName) method_4_code (5 : Nat) (Option.some Jvm.ClassFile.FieldType.int)).before args0 about1 = true := code_word (m := ⟨1, 3⟩) (meth := k1m3) (c := k1c3) (by decide +kernel) rfl rfl rfl (by decide +kernel)
set_option maxRecDepth 65536 in
theorem w_c3 : (Jvm.Cond.code ({ cls := "java/lang/String", name := "length", desc := "()I" } : Jvm.MethodName) jdk_42_method_54_code (1 : Nat) (Option.some Jvm.ClassFile.FieldType.int)).before args0 about1 = true := code_word (m := ⟨8, 1⟩) (meth := k8m1) (c := k8c1) (by decide +kernel) rfl rfl rfl (by decide +kernel)
set_option maxRecDepth 65536 in
theorem w_c4 : (Jvm.Cond.code ({ cls := "java/lang/String", name := "coder", desc := "()B" } : Jvm.MethodName) jdk_42_method_152_code (1 : Nat) (Option.some Jvm.ClassFile.FieldType.byte)).before args0 about1 = true := code_word (m := ⟨8, 4⟩) (meth := k8m4) (c := k8c4) (by decide +kernel) rfl rfl rfl (by decide +kernel)
set_option maxRecDepth 65536 in
theorem w_c5 : (Jvm.Cond.code ({ cls := "java/lang/String", name := "charAt", desc := "(I)C" } : Jvm.MethodName) jdk_42_method_56_code (2 : Nat) (Option.some Jvm.ClassFile.FieldType.char)).before args0 about1 = true := code_word (m := ⟨8, 2⟩) (meth := k8m2) (c := k8c2) (by decide +kernel) rfl rfl rfl (by decide +kernel)
set_option maxRecDepth 65536 in
theorem w_c6 : (Jvm.Cond.code ({ cls := "java/lang/String", name := "isLatin1", desc := "()Z" } : Jvm.MethodName) jdk_42_method_154_code (1 : Nat) (Option.some Jvm.ClassFile.FieldType.boolean)).before args0 about1 = true := code_word (m := ⟨8, 5⟩) (meth := k8m5) (c := k8c5) (by decide +kernel) rfl rfl rfl (by decide +kernel)
set_option maxRecDepth 65536 in
theorem w_c7 : (Jvm.Cond.code ({ cls := "java/lang/StringLatin1", name := "charAt", desc := "([BI)C" } : Jvm.MethodName) jdk_43_method_2_code (2 : Nat) (Option.some Jvm.ClassFile.FieldType.char)).before args0 about1 = true := code_word (m := ⟨9, 1⟩) (meth := k9m1) (c := k9c1) (by decide +kernel) rfl rfl rfl (by decide +kernel)
set_option maxRecDepth 65536 in
theorem w_c8 : (Jvm.Cond.code ({ cls := "java/lang/String", name := "checkIndex", desc := "(II)V" } : Jvm.MethodName) jdk_42_method_155_code (2 : Nat) (Option.none : Option Jvm.ClassFile.FieldType)).before args0 about1 = true := code_word (m := ⟨8, 6⟩) (meth := k8m6) (c := k8c6) (by decide +kernel) rfl rfl rfl (by decide +kernel)
set_option maxRecDepth 65536 in
theorem w_c9 : (Jvm.Cond.code ({ cls := "jdk/internal/util/Preconditions", name := "checkIndex", desc := "(IILjava/util/function/BiFunction;)I" } : Jvm.MethodName) jdk_41_method_11_code (3 : Nat) (Option.some Jvm.ClassFile.FieldType.int)).before args0 about1 = true := code_word (m := ⟨10, 1⟩) (meth := k10m1) (c := k10c1) (by decide +kernel) rfl rfl rfl (by decide +kernel)
set_option maxRecDepth 65536 in
theorem w_c10 : (Jvm.Cond.code ({ cls := "java/lang/String", name := "equals", desc := "(Ljava/lang/Object;)Z" } : Jvm.MethodName) jdk_42_method_66_code (3 : Nat) (Option.some Jvm.ClassFile.FieldType.boolean)).before args0 about1 = true := code_word (m := ⟨8, 3⟩) (meth := k8m3) (c := k8c3) (by decide +kernel) rfl rfl rfl (by decide +kernel)
set_option maxRecDepth 65536 in
theorem w_c11 : (Jvm.Cond.code ({ cls := "java/lang/StringLatin1", name := "equals", desc := "([B[B)Z" } : Jvm.MethodName) jdk_43_method_13_code (3 : Nat) (Option.some Jvm.ClassFile.FieldType.boolean)).before args0 about1 = true := code_word (m := ⟨9, 2⟩) (meth := k9m2) (c := k9c2) (by decide +kernel) rfl rfl rfl (by decide +kernel)
set_option maxRecDepth 65536 in
theorem w_c12 : (Jvm.Cond.code ({ cls := "com/example/distill_trees/distilltrees/io/XmlWriterReferencePinLaw", name := "digit", desc := "(Ljava/lang/String;I)I" } : Jvm.MethodName) method_3_code (3 : Nat) (Option.some Jvm.ClassFile.FieldType.int)).before args0 about1 = true := code_word (m := ⟨1, 2⟩) (meth := k1m2) (c := k1c2) (by decide +kernel) rfl rfl rfl (by decide +kernel)
def codes1 : List Jvm.Cond := [Jvm.Cond.code x code maxLocals ret, Jvm.Cond.code ({ cls := "com/example/distill_trees/distilltrees/io/XmlWriter", name := "reference", desc := "(IZ)Ljava/lang/String;" } : Jvm.MethodName) prog_83_method_3_code (2 : Nat) (Option.some (Jvm.ClassFile.FieldType.object "java/lang/String")), Jvm.Cond.code ({ cls := "com/example/distill_trees/distilltrees/io/XmlWriterReferencePinLaw", name := "decode", desc := "(Ljava/lang/String;)I" } : Jvm.MethodName) method_4_code (5 : Nat) (Option.some Jvm.ClassFile.FieldType.int), Jvm.Cond.code ({ cls := "java/lang/String", name := "length", desc := "()I" } : Jvm.MethodName) jdk_42_method_54_code (1 : Nat) (Option.some Jvm.ClassFile.FieldType.int), Jvm.Cond.code ({ cls := "java/lang/String", name := "coder", desc := "()B" } : Jvm.MethodName) jdk_42_method_152_code (1 : Nat) (Option.some Jvm.ClassFile.FieldType.byte), Jvm.Cond.code ({ cls := "java/lang/String", name := "charAt", desc := "(I)C" } : Jvm.MethodName) jdk_42_method_56_code (2 : Nat) (Option.some Jvm.ClassFile.FieldType.char), Jvm.Cond.code ({ cls := "java/lang/String", name := "isLatin1", desc := "()Z" } : Jvm.MethodName) jdk_42_method_154_code (1 : Nat) (Option.some Jvm.ClassFile.FieldType.boolean), Jvm.Cond.code ({ cls := "java/lang/StringLatin1", name := "charAt", desc := "([BI)C" } : Jvm.MethodName) jdk_43_method_2_code (2 : Nat) (Option.some Jvm.ClassFile.FieldType.char), Jvm.Cond.code ({ cls := "java/lang/String", name := "checkIndex", desc := "(II)V" } : Jvm.MethodName) jdk_42_method_155_code (2 : Nat) (Option.none : Option Jvm.ClassFile.FieldType), Jvm.Cond.code ({ cls := "jdk/internal/util/Preconditions", name := "checkIndex", desc := "(IILjava/util/function/BiFunction;)I" } : Jvm.MethodName) jdk_41_method_11_code (3 : Nat) (Option.some Jvm.ClassFile.FieldType.int), Jvm.Cond.code ({ cls := "java/lang/String", name := "equals", desc := "(Ljava/lang/Object;)Z" } : Jvm.MethodName) jdk_42_method_66_code (3 : Nat) (Option.some Jvm.ClassFile.FieldType.boolean), Jvm.Cond.code ({ cls := "java/lang/StringLatin1", name := "equals", desc := "([B[B)Z" } : Jvm.MethodName) jdk_43_method_13_code (3 : Nat) (Option.some Jvm.ClassFile.FieldType.boolean), Jvm.Cond.code ({ cls := "com/example/distill_trees/distilltrees/io/XmlWriterReferencePinLaw", name := "digit", desc := "(Ljava/lang/String;I)I" } : Jvm.MethodName) method_3_code (3 : Nat) (Option.some Jvm.ClassFile.FieldType.int)]
set_option maxRecDepth 65536 in
theorem codes_eq : words1.filter isCode = codes1 := rfl
theorem w_codes : ∀ c ∈ words1.filter isCode, c.before args0 about1 = true := by
  rw [codes_eq]
  intro c hc
  simp only [codes1, List.mem_cons, List.not_mem_nil, or_false] at hc
  rcases hc with rfl | rfl | rfl | rfl | rfl | rfl | rfl | rfl | rfl | rfl | rfl | rfl | rfl
  · exact w_c0
  · exact w_c1
  · exact w_c2
  · exact w_c3
  · exact w_c4
  · exact w_c5
  · exact w_c6
  · exact w_c7
  · exact w_c8
  · exact w_c9
  · exact w_c10
  · exact w_c11
  · exact w_c12
set_option maxRecDepth 65536 in
theorem w_t1 : (words1.take 24).all (fun c => isCode c || c.before args0 about1) = true := by decide +kernel
set_option maxRecDepth 65536 in
theorem w_t2 : ((words1.drop 24).take 24).all (fun c => isCode c || c.before args0 about1) = true := by decide +kernel
set_option maxRecDepth 65536 in
theorem w_t3 : (((words1.drop 24).drop 24).take 24).all (fun c => isCode c || c.before args0 about1) = true := by decide +kernel
set_option maxRecDepth 65536 in
theorem w_t4 : (((words1.drop 24).drop 24).drop 24).all (fun c => isCode c || c.before args0 about1) = true := by decide +kernel
theorem w_tables : (allAtoms (Jvm.Cond.code x code maxLocals ret :: tables_1)).before args0 about1 = true := by
  rw [allAtoms_all]
  show words1.all (fun c => c.before args0 about1) = true
  refine all_split ?_ w_codes
  rw [← List.take_append_drop 24 words1, List.all_append, w_t1, ← List.take_append_drop 24 (words1.drop 24), List.all_append, w_t2, ← List.take_append_drop 24 ((words1.drop 24).drop 24), List.all_append, w_t3, w_t4]
  rfl
set_option maxRecDepth 65536 in
theorem w_rest : rest_1_c.before args0 about1 = true := by decide +kernel
set_option maxRecDepth 65536 in
theorem w_case : (Jvm.Cond.and given_1 narrow_1).before args0 about1 = true := by decide +kernel
set_option maxRecDepth 65536 in
theorem w_consts : constsHeld consts_1 about1 := Jvm.Lit.constsHeldB_iff.mp (by decide +kernel)
theorem w_applies : (headSpec (Jvm.Cond.code x code maxLocals ret :: tables_1) room_1).applies x e0.platform about1 = true :=
  (Spec.applies_iff w_frames).mpr ⟨w_running, w_runnable, w_alone, w_named, w_hears, w_ripe, w_room, w_tables⟩
theorem atStart : AtStart classFile x code maxLocals ret World_1 tables_1 room_1 Calls_1 rest_1 Pre_1 launch0 p0 e0 about1 theMethod args0 below0 :=
  ⟨lists_1, trivial, launch0.admits_env _ _ _, launch0.least_env, fairChoices_fair.cas, fairChoices_fair.clock, w_frames, w_args, w_heap, w_applies, ⟨w_consts, trivial⟩, w_rest, w_case⟩
end start1
theorem witness_1 : WitnessClaimed_1 := ⟨start1.p0, start1.e0, start1.about1, start1.theMethod, start1.args0, start1.below0, start1.atStart⟩
end Jvm.Pilot.@@N@@
