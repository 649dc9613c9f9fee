import JvmDerived
import JvmDerived.Pilot.@@N@@Statement
import JvmDerived.Pilot.@@N@@Code
set_option linter.unusedVariables false
set_option linter.unusedSimpArgs false
/- laws to paste: Road.chN (cut by pick.py; bodies as the Statement names them) -/
namespace Jvm.Pilot.@@N@@
namespace StrChars
open Jvm Sem ClassFile Op Lib Jvm.Stand Jvm.Free.XT Jvm.Free.ALB Jvm.Free.JM Jvm.Free
open Jvm.Lib.Cold (StaticIs)
/-- the byte that i2b leaves of a char -/
def lo8 (x : Int32) : Int32 := x.toInt8.toInt32
/-- the byte, read back as charAt reads it, is the char -/
theorem lo8_mask {x : Int32} (h0 : ¬ x < 0) (h1 : ¬ 255 < x) : lo8 x &&& 255 = x := by
  have t : ∀ k : Fin 256, lo8 (Int32.ofNat k.val) &&& 255 = Int32.ofNat k.val := by decide +kernel
  rw [Int32.lt_iff_toInt_lt] at h0 h1
  have e0 : (0 : Int32).toInt = 0 := rfl
  have e1 : (255 : Int32).toInt = 255 := rfl
  obtain ⟨k, hk⟩ : ∃ k : Nat, x.toInt = k := ⟨x.toInt.toNat, by omega⟩
  have hx : x = Int32.ofNat k := Int32.toInt_inj.mp (by rw [hk, Int32.toInt_ofNat_small (by omega)])
  rw [hx]
  exact t ⟨k, by omega⟩
end StrChars
namespace StrChars.Road
open Jvm Sem ClassFile Op Lib Jvm.Stand Jvm.Free Jvm.Free.XT
open Jvm.Lib.Cold (StaticIs)
abbrev ST : String := "java/lang/String"
end StrChars.Road
namespace StrChars
open Jvm Sem ClassFile Op Lib Jvm.Stand Jvm.Free.XT Jvm.Free.ALB Jvm.Free.JM Jvm.Free
open Jvm.Lib.Cold (StaticIs)
def hi8 (x : Int32) : Int32 := lo8 (x >>> ((8 : Int32) &&& 31))
/-- what StringUTF16.getChar makes of two bytes -/
def pairCh (u v : Int32) : Int32 := (((u &&& 255) <<< ((0 : Int32) &&& 31)) ||| ((v &&& 255) <<< ((8 : Int32) &&& 31))).toUInt32.toUInt16.toUInt32.toInt32
theorem lo8_and (x : Int32) : (lo8 x &&& 255).toBitVec.toNat = x.toBitVec.toNat % 256 := by
  have h : (lo8 x).toBitVec = (x.toBitVec.signExtend 8).signExtend 32 := by rw [lo8, Int8.toBitVec_toInt32, Int32.toBitVec_toInt8]
  rw [Int32.toBitVec_and, BitVec.toNat_and, h]
  have e : ((x.toBitVec.signExtend 8).signExtend 32).toNat % 256 = x.toBitVec.toNat % 256 := by
    rw [BitVec.toNat_signExtend]
    have hlt := x.toBitVec.isLt
    simp only [BitVec.toNat_setWidth, BitVec.toNat_signExtend]
    split <;> split <;> omega
  rw [← e]
  exact Nat.and_two_pow_sub_one_eq_mod _ 8
theorem pair_says {c : Int32} (h0 : ¬ c < 0) (h1 : ¬ 65535 < c) : pairCh (lo8 c) (hi8 c) = c := by
  rw [Int32.lt_iff_toInt_lt] at h0 h1
  have e0 : (0 : Int32).toInt = 0 := rfl
  have e1 : (65535 : Int32).toInt = 65535 := rfl
  have hc : c.toInt = c.toBitVec.toNat := by
    have := c.toBitVec.isLt
    have e : c.toInt = c.toBitVec.toInt := rfl
    rw [e] at h0 h1
    rw [e]
    rw [BitVec.toInt_eq_toNat_cond] at h0 h1 ⊢
    split at h0 <;> split <;> omega
  have hn : c.toBitVec.toNat < 65536 := by omega
  have a1 := lo8_and c
  have a2 : (hi8 c &&& 255).toBitVec.toNat = c.toBitVec.toNat / 256 := by
    rw [hi8, lo8_and]
    have e : ((8 : Int32) &&& 31) = 8 := by decide
    rw [e, Int32.toBitVec_shiftRight]
    have e2 : ((8 : Int32).toBitVec.smod 32) = 8#32 := by decide
    rw [e2, BitVec.sshiftRight_eq', BitVec.toNat_sshiftRight_of_msb_false (by rw [BitVec.msb_eq_false_iff_two_mul_lt]; omega)]
    show c.toBitVec.toNat >>> 8 % 256 = _
    rw [Nat.shiftRight_eq_div_pow]
    omega
  unfold pairCh
  apply Int32.toBitVec_inj.mp
  apply BitVec.eq_of_toNat_eq
  have f0 : ((0 : Int32) &&& 31) = 0 := by decide
  have f8 : ((8 : Int32) &&& 31) = 8 := by decide
  rw [f0, f8]
  have g : (((lo8 c &&& 255) <<< (0 : Int32)) ||| ((hi8 c &&& 255) <<< (8 : Int32))).toBitVec.toNat = c.toBitVec.toNat := by
    rw [Int32.toBitVec_or, Int32.toBitVec_shiftLeft, Int32.toBitVec_shiftLeft]
    have s0 : ((0 : Int32).toBitVec.smod 32) = 0#32 := by decide
    have s8 : ((8 : Int32).toBitVec.smod 32) = 8#32 := by decide
    rw [s0, s8, BitVec.toNat_or]
    simp only [BitVec.shiftLeft_eq', BitVec.toNat_shiftLeft, a1, a2]
    show (c.toBitVec.toNat % 256) <<< 0 % 2 ^ 32 ||| (c.toBitVec.toNat / 256) <<< 8 % 2 ^ 32 = _
    rw [Nat.shiftLeft_zero, Nat.mod_eq_of_lt (show c.toBitVec.toNat % 256 < 2 ^ 32 by omega), Nat.mod_eq_of_lt (show (c.toBitVec.toNat / 256) <<< 8 < 2 ^ 32 by rw [Nat.shiftLeft_eq]; omega), Nat.or_comm, ← Nat.shiftLeft_add_eq_or_of_lt (by omega), Nat.shiftLeft_eq]
    omega
  show BitVec.toNat (((((lo8 c &&& 255) <<< (0 : Int32)) ||| ((hi8 c &&& 255) <<< (8 : Int32))).toBitVec.setWidth 16).setWidth 32) = _
  rw [BitVec.toNat_setWidth, BitVec.toNat_setWidth, g]
  omega
end StrChars
namespace StrChars
open Jvm Sem ClassFile Op Lib Jvm.Stand Jvm.Free.XT Jvm.Free.ALB Jvm.Free.JM Jvm.Free
open Jvm.Lib.Cold (StaticIs)
/-- charAt's cast of a byte read back -/
def chr8 (u : Int32) : Int32 := (u &&& 255).toUInt32.toUInt16.toUInt32.toInt32
theorem chr8_lo8 {c : Int32} (h0 : ¬ c < 0) (h1 : ¬ 255 < c) : chr8 (lo8 c) = c := by
  have t : ∀ k : Fin 256, (Int32.ofNat k.val).toUInt32.toUInt16.toUInt32.toInt32 = Int32.ofNat k.val := by decide +kernel
  unfold chr8
  rw [lo8_mask h0 h1]
  rw [Int32.lt_iff_toInt_lt] at h0 h1
  have e0 : (0 : Int32).toInt = 0 := rfl
  have e1 : (255 : Int32).toInt = 255 := rfl
  obtain ⟨k, hk⟩ : ∃ k : Nat, c.toInt = k := ⟨c.toInt.toNat, by omega⟩
  have hx : c = Int32.ofNat k := Int32.toInt_inj.mp (by rw [hk, Int32.toInt_ofNat_small (by omega)])
  rw [hx]
  exact t ⟨k, by omega⟩
theorem narrow_ch {c : Int32} (h0 : ¬ c < 0) (h1 : ¬ 65535 < c) : narrow .char (.int c) = .int c := by
  have q : narrow .char (.int (pairCh (lo8 c) (hi8 c))) = .int (pairCh (lo8 c) (hi8 c)) := narrow_c _
  rwa [pair_says h0 h1] at q
/-- the array's cell V codes the n chars f 0 .. f (n - 1) by the coder cd, as the JDK does: coder 1 just where some char is above 255 -/
def Cod (cd : Int32) (n : Nat) (f : Nat → Int32) (V : Cell) : Prop := (cd = 0 ∧ V.slots.size = n ∧ ∀ j, j < n → V.slots[j]? = some (.int (lo8 (f j))) ∧ ¬ 255 < f j) ∨ (cd = 1 ∧ V.slots.size = 2 * n ∧ (∀ j, j < n → V.slots[2 * j]? = some (.int (lo8 (f j))) ∧ V.slots[2 * j + 1]? = some (.int (hi8 (f j)))) ∧ ∃ j, j < n ∧ 255 < f j)
theorem Cod.cd {cd : Int32} {n : Nat} {f : Nat → Int32} {V : Cell} (h : Cod cd n f V) : cd = 0 ∨ cd = 1 := h.imp (fun q => q.1) fun q => q.1
/-- **x is a String of the n chars f 0 .. f (n - 1)**, Latin-1 or UTF-16; its array at t has the cell V -/
def Txt (x t : Addr) (V : Cell) (cd : Int32) (n : Nat) (f : Nat → Int32) (U : State) : Prop := Exact "java/lang/String" x U ∧ Has x "java/lang/String" "value" "[B" (.ref t) U ∧ Has x "java/lang/String" "coder" "B" (.int cd) U ∧ XT.Arr .byte t V U ∧ Cod cd n f V ∧ ∀ j, j < n → ¬ f j < 0 ∧ ¬ 65535 < f j
theorem Txt.mv {x t : Addr} {V : Cell} {cd : Int32} {n : Nat} {f : Nat → Int32} {U U' : State} (h : Txt x t V cd n f U) (hal : U.vm.Alike U'.vm) (hh : U'.heap = U.heap) : Txt x t V cd n f U' := ⟨h.1.mv hal hh, h.2.1.mv hal hh, h.2.2.1.mv hal hh, h.2.2.2.1.mv hal hh, h.2.2.2.2⟩
namespace IsL
def yN : MethodName := ⟨"java/lang/String", "isLatin1", "()Z"⟩
abbrev yB : ByteArray := jdk_42_method_154_code
theorem d0 : decode yB 0 = .ok (.getstatic 38, 3) := by decide +kernel
theorem d3 : decode yB 3 = .ok (.ifCond (.eq) 14, 3) := by decide +kernel
theorem d6 : decode yB 6 = .ok (.aload_n 0, 1) := by decide +kernel
theorem d7 : decode yB 7 = .ok (.getfield 15, 3) := by decide +kernel
theorem d10 : decode yB 10 = .ok (.ifCond (.ne) 7, 3) := by decide +kernel
theorem d13 : decode yB 13 = .ok (.iconst 1, 1) := by decide +kernel
theorem d14 : decode yB 14 = .ok (.goto 4, 3) := by decide +kernel
theorem d17 : decode yB 17 = .ok (.iconst 0, 1) := by decide +kernel
theorem d18 : decode yB 18 = .ok (.ireturn, 1) := by decide +kernel
def site : List Cond := [.fieldLink "java/lang/String" 38 "java/lang/String" "COMPACT_STRINGS" "Z", .fieldLink "java/lang/String" 15 "java/lang/String" "coder" "B"]
def tab : Cond := tabOf yN yB 1 (some .boolean) site
def P (x : Addr) (cd z : Int32) (args : Array Value) (s : State) : Prop := args = #[.ref x] ∧ Has x "java/lang/String" "coder" "B" (.int cd) s ∧ (cd = 0 ∨ cd = 1) ∧ StaticIs s "java/lang/String" "COMPACT_STRINGS" "Z" (.int z) ∧ ¬ z = 0
def E (cd : Int32) (r : Option Value) (s u : State) : Prop := XT.PureE (some (.int (1 - cd))) r s u
theorem law (l : Launch) (x : Addr) (cd z : Int32) : Law l yN 1 0 0 0 yB 1 (some .boolean) site (P x cd z) (E cd) [] 0 0 := by
  refine Law.of_walk (plainFor_of_name (by decide +kernel)) (by decide +kernel) (by decide +kernel) (by decide) (fun _ _ h => by rw [h.1]; rfl) (fun _ U U' hal hh h => ⟨h.1, h.2.1.mv hal hh, h.2.2.1, h.2.2.2.1.there hal hh, h.2.2.2.2⟩) (fun r U U' V V' h1 hal h2 h => XT.PureE.mv r U U' V V' h1 hal h2 h) ?_
  intro p e s m args below meth c s₁ X0 hexec hbytes hml hret hlk hnm hown hh0 W hP
  obtain ⟨rfl, hx, hc, s1, hz⟩ := hP
  have c1 : Steps p.tables e below (s₁.setTop (entryFrame m #[.ref x] 1)) (s₁.setTop (mkF m 0 #[.val (.ref x)] [])) := entry rfl
  obtain ⟨T2, X2, q2, st2⟩ := X0.sget hexec hown (wk W (.fieldLink "java/lang/String" 38 "java/lang/String" "COMPACT_STRINGS" "Z")) s1 (fun _ _ h => by rw [hh0]; exact h) (g := (mkF m 0 #[.val (.ref x)] [])) rfl (hb hbytes d0)
  have hh2 := q2.trans hh0
  have c3 : Steps p.tables e below (s₁.setTop (entryFrame m #[.ref x] 1)) (T2.setTop (mkF m 7 #[.val (.ref x)] [.ref x])) := (c1.trans (st2 _ (Steps.refl _))).trans (by
    refine XS.ifNo X2.here hexec rfl (hb hbytes d3) rfl (i0_eq_f hz) ?_
    refine XS.aloadN X2.here hexec rfl (hb hbytes d6) rfl rfl ?_
    exact Steps.refl _)
  obtain ⟨T4, X4, q4, st4⟩ := X2.hget hexec hown (wk W (.fieldLink "java/lang/String" 15 "java/lang/String" "coder" "B")) (hx.mv X2.warmed.alike hh2) (g := (mkF m 7 #[.val (.ref x)] [.ref x])) rfl (rest := []) rfl (hb hbytes d7)
  have c5 : Steps p.tables e below (s₁.setTop (entryFrame m #[.ref x] 1)) (T4.setTop (mkF m 10 #[.val (.ref x)] [.int cd])) := c3.trans (st4 _ (Steps.refl _))
  have c6 : Steps p.tables e below (s₁.setTop (entryFrame m #[.ref x] 1)) (T4.setTop (mkF m 18 #[.val (.ref x)] [.int (1 - cd)])) := by
    rcases hc with rfl | rfl
    · exact c5.trans (by
        refine XS.ifNo X4.here hexec rfl (hb hbytes d10) rfl (i0_ne_f rfl) ?_
        refine iconstV X4.here hexec rfl 1 (hb hbytes d13) (by decide) ?_
        refine XS.goto X4.here hexec rfl (pc0 := 14) rfl (hb hbytes d14) (by decide) rfl ?_
        exact Steps.refl _)
    · exact c5.trans (by
        refine XS.ifYes X4.here hexec rfl (pc0 := 10) rfl (hb hbytes d10) rfl (i0_ne_t (by decide)) (by decide) rfl ?_
        refine iconstV X4.here hexec rfl 0 (hb hbytes d17) (by decide) ?_
        exact Steps.refl _)
  exact ⟨T4, some (.int (1 - cd)), _, _, _, X4, rfl, rfl, rfl, (fun h => by cases h), ⟨rfl, q4.trans hh2⟩, fun fs hl => c6.trans (X4.ireturnOut hexec hret (by rcases hc with rfl | rfl <;> rfl) (Or.inr (Or.inl rfl)) (hb hbytes d18) hl)⟩
end IsL
namespace LChA
def yN : MethodName := ⟨"java/lang/StringLatin1", "charAt", "([BI)C"⟩
abbrev yB : ByteArray := jdk_43_method_2_code
theorem d0 : decode yB 0 = .ok (.iload_n 1, 1) := by decide +kernel
theorem d1 : decode yB 1 = .ok (.aload_n 0, 1) := by decide +kernel
theorem d2 : decode yB 2 = .ok (.arraylength, 1) := by decide +kernel
theorem d3 : decode yB 3 = .ok (.invokestatic 9, 3) := by decide +kernel
theorem d6 : decode yB 6 = .ok (.aload_n 0, 1) := by decide +kernel
theorem d7 : decode yB 7 = .ok (.iload_n 1, 1) := by decide +kernel
theorem d8 : decode yB 8 = .ok (.baload, 1) := by decide +kernel
theorem d9 : decode yB 9 = .ok (.sipush 255, 3) := by decide +kernel
theorem d12 : decode yB 12 = .ok (.iand, 1) := by decide +kernel
theorem d13 : decode yB 13 = .ok (.i2c, 1) := by decide +kernel
theorem d14 : decode yB 14 = .ok (.ireturn, 1) := by decide +kernel
def site : List Cond := [JO.Str_checkIndex.tab] ++ staticW "java/lang/StringLatin1" 9 JO.Str_checkIndex.yN
def tab : Cond := tabOf yN yB 2 (some .char) site
def P (t : Addr) (V : Cell) (i : Nat) (u : Int32) (fm : Value) (args : Array Value) (s : State) : Prop := args = #[.ref t, .int (Int32.ofNat i)] ∧ XT.Arr .byte t V s ∧ V.slots[i]? = some (.int u) ∧ (StaticIs s "jdk/internal/util/Preconditions" "SIOOBE_FORMATTER" "Ljava/util/function/BiFunction;" fm ∧ fm.isRef = true)
def E (u : Int32) (r : Option Value) (s w : State) : Prop := XT.PureE (some (.int (chr8 u))) r s w
theorem law (l : Launch) (t : Addr) (V : Cell) (i : Nat) (u : Int32) (fm : Value) : Law l yN 2 2 2 27 yB 2 (some .char) site (P t V i u fm) (E u) [] 0 0 := by
  refine Law.of_walk (plainFor_of_name (by decide +kernel)) (by decide +kernel) (by decide +kernel) (by decide) (fun _ _ h => by rw [h.1]; rfl) (fun _ U U' hal hh h => ⟨h.1, h.2.1.mv hal hh, h.2.2.1, h.2.2.2.1.there hal hh, h.2.2.2.2⟩) (fun r U U' V V' h1 hal h2 h => XT.PureE.mv r U U' V V' h1 hal h2 h) ?_
  intro p e s m args below meth c s₁ X0 hexec hbytes hml hret hlk hnm hown hh0 W hP
  obtain ⟨rfl, hV, hu, s1, rf⟩ := hP
  have v31 := hV.2.2.2
  have hi : i < V.slots.size := (Array.getElem?_eq_some_iff.mp hu).1
  have c1 : Steps p.tables e below (s₁.setTop (entryFrame m #[.ref t, .int (Int32.ofNat i)] 2)) (s₁.setTop (mkF m 0 #[.val (.ref t), .val (.int (Int32.ofNat i))] [])) := entry rfl
  have c2 : Steps p.tables e below (s₁.setTop (entryFrame m #[.ref t, .int (Int32.ofNat i)] 2)) (s₁.setTop (mkF m 3 #[.val (.ref t), .val (.int (Int32.ofNat i))] [.int (Int32.ofNat V.slots.size), .int (Int32.ofNat i)])) := c1.trans (by
    refine XS.iloadN X0.here hexec rfl (hb hbytes d0) rfl ?_
    refine XS.aloadN X0.here hexec rfl (hb hbytes d1) rfl rfl ?_
    refine X0.alen hexec (hV.mv X0.warmed.alike hh0) rfl rfl (hb hbytes d2) ?_
    exact Steps.refl _)
  obtain ⟨v3, T3, X3, E3, g3⟩ := X0.callS hexec (JO.Str_checkIndex.law l (Int32.ofNat i) (Int32.ofNat V.slots.size) fm) hown (wks W (staticW "java/lang/StringLatin1" 9 JO.Str_checkIndex.yN)) (wk W JO.Str_checkIndex.tab) (W := 0) (Nat.le_of_ble_eq_true rfl) (Nat.le_of_ble_eq_true rfl) (Nat.le_refl _) (Nat.le_refl _) (g := (mkF m 3 #[.val (.ref t), .val (.int (Int32.ofNat i))] [.int (Int32.ofNat V.slots.size), .int (Int32.ofNat i)])) rfl (by rw [hml]; rfl) c2 (argsL := [.int (Int32.ofNat i), .int (Int32.ofNat V.slots.size)]) (rest := []) rfl rfl (by show 2 * 0 + 0 ≤ _; decide) (hb hbytes d3) (⟨rfl, rf, s1.there X0.warmed.alike hh0, Int32.ofNat_not_neg (by omega), lt32 v31 hi⟩)
  obtain ⟨rfl, q3⟩ := E3
  have hh3 := q3.trans hh0
  have c4 : Steps p.tables e below (s₁.setTop (entryFrame m #[.ref t, .int (Int32.ofNat i)] 2)) (T3.setTop (mkF m 14 #[.val (.ref t), .val (.int (Int32.ofNat i))] [.int (chr8 u)])) := Steps.trans g3 (by
    refine XS.aloadN X3.here hexec rfl (hb hbytes d6) rfl rfl ?_
    refine XS.iloadN X3.here hexec rfl (hb hbytes d7) rfl ?_
    refine X3.aget hexec (hV.mv X3.warmed.alike hh3) rfl hu rfl rfl (hb hbytes d8) ?_
    refine sipushV X3.here hexec rfl 255 (hb hbytes d9) (by decide) ?_
    refine XS.iand X3.here hexec rfl (hb hbytes d12) rfl ?_
    refine i2c X3.here hexec rfl (hb hbytes d13) rfl ?_
    exact Steps.refl _)
  exact ⟨T3, some (.int (chr8 u)), _, _, _, X3, rfl, rfl, rfl, (fun h => by cases h), ⟨rfl, hh3⟩, fun fs hl => c4.trans (X3.ireturnOut hexec hret (narrow_c _) (Or.inr (Or.inr (Or.inr (Or.inl rfl)))) (hb hbytes d14) hl)⟩
end LChA
end StrChars
namespace StrChars.Road
open Jvm Sem ClassFile Op Lib Jvm.Stand Jvm.Free Jvm.Free.XT
open Jvm.Lib.Cold (StaticIs)
theorem consq {a : Array Value} {s : State} {c : Jvm.Cond} {L : List Jvm.Cond} (h0 : c.before a s = true) (h : ∀ w ∈ L, w.before a s = true) : ∀ w ∈ c :: L, w.before a s = true := fun w hw => (List.mem_cons.mp hw).elim (fun e => e ▸ h0) (h w)
/-- the bytes of the chars cs, low before high -/
def wideBytes : List Int32 → List Value
  | [] => []
  | c :: cs => .int (lo8 c) :: .int (hi8 c) :: wideBytes cs
theorem wide_lo (d : Value) : ∀ (cs : List Int32) (j : Nat), j < cs.length → (wideBytes cs).getD (2 * j) d = .int (lo8 (cs.getD j 0))
  | [], j, h => absurd h (Nat.not_lt_zero j)
  | c :: cs, 0, _ => rfl
  | c :: cs, j + 1, h => by
    have q := wide_lo d cs j (by simpa using h)
    rw [show 2 * (j + 1) = 2 * j + 1 + 1 from by omega]
    simpa [wideBytes] using q
theorem wide_hi (d : Value) : ∀ (cs : List Int32) (j : Nat), j < cs.length → (wideBytes cs).getD (2 * j + 1) d = .int (hi8 (cs.getD j 0))
  | [], j, h => absurd h (Nat.not_lt_zero j)
  | c :: cs, 0, _ => rfl
  | c :: cs, j + 1, h => by
    have q := wide_hi d cs j (by simpa using h)
    rw [show 2 * (j + 1) + 1 = 2 * j + 1 + 1 + 1 from by omega]
    simpa [wideBytes] using q
theorem low_at (d : Value) (cs : List Int32) (j : Nat) (h : j < cs.length) : (cs.map fun c => Value.int (lo8 c)).getD j d = .int (lo8 (cs.getD j 0)) := by
  simp [List.getD_eq_getElem?_getD, h]
/-- an array of N2 bytes vs codes the chars cs by the coder cd -/
def CodA (cs : List Int32) (cd N2 : Int32) (vs : List Value) : Prop := (cd = 0 ∧ N2 = Int32.ofNat cs.length ∧ vs = (cs.map fun c => Value.int (lo8 c)) ∧ ∀ c ∈ cs, ¬ 255 < c) ∨ (cd = 1 ∧ N2 = Int32.ofNat (2 * cs.length) ∧ vs = wideBytes cs ∧ ∃ c ∈ cs, 255 < c)
theorem CodA.cod {cs : List Int32} {cd N2 : Int32} {vs : List Value} {V : Cell} (h : CodA cs cd N2 vs) (hn : 2 * cs.length < 2 ^ 31) (hs : V.slots.size = N2.toNatClampNeg) (hv : RoadKit.Has V vs (.int 0)) : Cod cd cs.length (fun j => cs.getD j 0) V := by
  rcases h with ⟨rfl, rfl, rfl, h⟩ | ⟨rfl, rfl, rfl, c, hc, hw⟩
  · rw [n32 (by omega)] at hs
    exact Or.inl ⟨rfl, hs, fun j hj => ⟨by rw [hv j (by omega), low_at _ _ _ hj], by
      have e : cs.getD j 0 = cs[j] := by simp [List.getD_eq_getElem?_getD, hj]
      show ¬ 255 < cs.getD j 0
      rw [e]; exact h _ (List.getElem_mem _)⟩⟩
  · rw [n32 (by omega)] at hs
    obtain ⟨j, hj, rfl⟩ := List.getElem_of_mem hc
    exact Or.inr ⟨rfl, hs, fun j hj => ⟨by rw [hv _ (by omega), wide_lo _ _ _ hj], by rw [hv _ (by omega), wide_hi _ _ _ hj]⟩, j, hj, by
      have e : cs.getD j 0 = cs[j] := by simp [List.getD_eq_getElem?_getD, hj]
      show 255 < cs.getD j 0
      rw [e]; exact hw⟩
/-- an object of exactly java/lang/String, its two fields found: as the laws ask it -/
theorem strObj {Z U : State} {a0 : Array Value} {kI : Nat} (wi : (Jvm.Cond.instantiable ST kI).before a0 Z = true) (al : Z.vm.Alike U.vm) {x : Addr} {v0 c0 : Value} (E : RoadKit.Exa Z U.heap x ST) (V : RoadKit.Fld Z U.heap x ST "value" "[B" v0) (C : RoadKit.Fld Z U.heap x ST "coder" "B" c0) :
    ∃ (D : Cell) (fV fC : Field), Blank ST x D U ∧ Found ST "value" "[B" fV U ∧ Found ST "coder" "B" fC U ∧ D.slots[fV.slot]? = some v0 ∧ D.slots[fC.slot]? = some c0 ∧ RoadKit.slotOf Z ST "value" "[B" = fV.slot ∧ RoadKit.slotOf Z ST "coder" "B" = fC.slot := by
  obtain ⟨D, cfV, kV, iV, fV, hD, gV, stV, knV, obV, asV, slV⟩ := V
  obtain ⟨D', cfC, kC, iC, fC, hD', gC, stC, -, -, asC, slC⟩ := C
  cases hD.symm.trans hD'
  obtain ⟨D2, kD, e1, e2, e3, e4, e5⟩ := E
  cases hD.symm.trans e1
  obtain ⟨c2, k2, i1, i2, i3, -⟩ := Cond.instantiable_spec wi
  cases e2.symm.trans i1
  cases e3.symm.trans i2
  obtain ⟨kU, u1, u2⟩ := al.2.2 _ _ e3
  exact ⟨D, fV, fC, ⟨hD, ⟨knV, fun q hq => by rw [hq] at obV; cases obV⟩, by rw [al.findClass]; exact e2, kU, u1, by rw [u2]; exact i3, by rw [u2]; exact e5 i3⟩, ⟨SBG.found_only al ⟨cfV, kV, iV, gV⟩, stV⟩, ⟨SBG.found_only al ⟨cfC, kC, iC, gC⟩, stC⟩, slV, slC, by simp [RoadKit.slotOf, gV], by simp [RoadKit.slotOf, gC]⟩
theorem sta_is {Z U : State} (al : Z.vm.Alike U.vm) {C n d : String} {v : Value} (S : RoadKit.Sta Z U.heap C n d v) : StaticIs U C n d v := by
  obtain ⟨cfS, iS, kS, fS, st, cS, t1, t2, t3, t4, t5, t6, t7⟩ := S
  exact StaticIs.there (s := { Z with heap := U.heap }) ⟨cfS, iS, kS, fS, st, cS, t1, t2, t3, t4, t5, (fun q => by rw [q] at t6; cases t6), t7⟩ al rfl
end StrChars.Road
namespace StrChars.Road
open Jvm Sem ClassFile Op Lib Jvm.Stand Jvm.Free Jvm.Free.XT
open Jvm.Lib.Cold (StaticIs)
/-- the road's facts of a String, as the laws ask it -/
theorem txt_of {Z U : State} {a0 : Array Value} {kI : Nat} (wi : (Jvm.Cond.instantiable ST kI).before a0 Z = true) (al : Z.vm.Alike U.vm) {x t : Addr} {kb : ClassId} {cs : List Int32} {cd N2 : Int32} {vs : List Value} (E : RoadKit.Exa Z U.heap x ST) (V : RoadKit.Fld Z U.heap x ST "value" "[B" (.ref t)) (C : RoadKit.Fld Z U.heap x ST "coder" "B" (.int cd)) (K : RoadKit.Arv Z U.heap t kb .byte N2 vs (.int 0)) (hc : CodA cs cd N2 vs) (hb : ∀ c ∈ cs, ¬ c < 0 ∧ ¬ (65535 : Int32) < c) (l2 : cs.length ≤ 4000) :
    ∃ A, Txt x t A cd cs.length (fun j => cs.getD j 0) U := by
  obtain ⟨A, K1, K2, K3, K4, K5, K6⟩ := K
  have hcod := hc.cod (by omega) K3 K5
  obtain ⟨D, fV, fC, hB, F1, F2, g1, g2, -, -⟩ := strObj wi al E V C
  exact ⟨A, ⟨_, hB.2.2.1, D, hB.1, rfl, by cases q : D.vm <;> first | rfl | exact absurd q (hB.2.1.2 _)⟩, Has.of hB F1 g1, Has.of hB F2 g2, ⟨K1.1, State.isArrayOf_alike al K1.2.1, K1.2.2, by rcases hcod with ⟨-, q, -⟩ | ⟨-, q, -⟩ <;> omega⟩, hcod, fun j hj => by
    have e : cs.getD j 0 = cs[j] := by simp [List.getD_eq_getElem?_getD, hj]
    show ¬ cs.getD j 0 < 0 ∧ ¬ 65535 < cs.getD j 0
    rw [e]; exact hb _ (List.getElem_mem _)⟩
end StrChars.Road
namespace StrChars
open Jvm Sem ClassFile Op Lib Jvm.Stand Jvm.Free.XT Jvm.Free.ALB Jvm.Free.JM Jvm.Free
open Jvm.Lib.Cold (StaticIs)
namespace ChN
def yN : MethodName := ⟨"java/lang/String", "charAt", "(I)C"⟩
abbrev yB : ByteArray := jdk_42_method_56_code
theorem d0 : decode yB 0 = .ok (.aload_n 0, 1) := by decide +kernel
theorem d1 : decode yB 1 = .ok (.invokevirtual 492, 3) := by decide +kernel
theorem d4 : decode yB 4 = .ok (.ifCond (.eq) 12, 3) := by decide +kernel
theorem d7 : decode yB 7 = .ok (.aload_n 0, 1) := by decide +kernel
theorem d8 : decode yB 8 = .ok (.getfield 9, 3) := by decide +kernel
theorem d11 : decode yB 11 = .ok (.iload_n 1, 1) := by decide +kernel
theorem d12 : decode yB 12 = .ok (.invokestatic 495, 3) := by decide +kernel
theorem d15 : decode yB 15 = .ok (.ireturn, 1) := by decide +kernel
def site : List Cond := [.fieldLink "java/lang/String" 9 "java/lang/String" "value" "[B", IsL.tab, LChA.tab] ++ virtW "java/lang/String" 492 "java/lang/String" IsL.yN IsL.yN ++ staticW "java/lang/String" 495 LChA.yN
def tab : Cond := tabOf yN yB 2 (some .char) site
def P (x t : Addr) (V : Cell) (n : Nat) (f : Nat → Int32) (z : Int32) (fm : Value) (i : Nat) (args : Array Value) (s : State) : Prop := args = #[.ref x, .int (Int32.ofNat i)] ∧ Txt x t V 0 n f s ∧ i < n ∧ StaticIs s "java/lang/String" "COMPACT_STRINGS" "Z" (.int z) ∧ ¬ z = 0 ∧ StaticIs s "jdk/internal/util/Preconditions" "SIOOBE_FORMATTER" "Ljava/util/function/BiFunction;" fm ∧ fm.isRef = true
def E (f : Nat → Int32) (i : Nat) (r : Option Value) (s u : State) : Prop := XT.PureE (some (.int (f i))) r s u
/-- charAt(i) of a Latin-1 String of n chars, i < n: f i -/
theorem law (l : Launch) (x t : Addr) (V : Cell) (n : Nat) (f : Nat → Int32) (z : Int32) (fm : Value) (i : Nat) : Law l yN 2 1 3 40 yB 2 (some .char) site (P x t V n f z fm i) (E f i) [] 0 0 := by
  refine Law.of_walk (plainFor_of_name (by decide +kernel)) (by decide +kernel) (by decide +kernel) (by decide) (fun _ _ h => by rw [h.1]; rfl) (fun _ U U' hal hh h => ⟨h.1, h.2.1.mv hal hh, h.2.2.1, h.2.2.2.1.there hal hh, h.2.2.2.2.1, h.2.2.2.2.2.1.there hal hh, h.2.2.2.2.2.2⟩) (fun r U U' V V' h1 hal h2 h => XT.PureE.mv r U U' V V' h1 hal h2 h) ?_
  intro p e s m args below meth c s₁ X0 hexec hbytes hml hret hlk hnm hown hh0 W hP
  obtain ⟨rfl, hx, hi, s1, hz, s3, rf⟩ := hP
  have v31 := hx.2.2.2.1.2.2.2
  have hr := hx.2.2.2.2.2 i hi
  have hx0 := hx.mv X0.warmed.alike hh0
  have c1 : Steps p.tables e below (s₁.setTop (entryFrame m #[.ref x, .int (Int32.ofNat i)] 2)) (s₁.setTop (mkF m 1 #[.val (.ref x), .val (.int (Int32.ofNat i))] [.ref x])) := Steps.trans (entry rfl) (by
    show Steps p.tables e below (s₁.setTop (mkF m 0 #[.val (.ref x), .val (.int (Int32.ofNat i))] [])) _
    refine XS.aloadN X0.here hexec rfl (hb hbytes d0) rfl rfl ?_
    exact Steps.refl _)
  obtain ⟨v2, T2, X2, E2, g2⟩ := X0.callV hexec (IsL.law l x 0 z) hown (wks W (virtW "java/lang/String" 492 "java/lang/String" IsL.yN IsL.yN)) rfl (by decide) (wk W IsL.tab) (W := 0) (Nat.le_of_ble_eq_true rfl) (Nat.le_of_ble_eq_true rfl) (Nat.le_refl _) (Nat.le_refl _) (hx0.1.fc X0.warmed.alike) hx0.1.is (g := (mkF m 1 #[.val (.ref x), .val (.int (Int32.ofNat i))] [.ref x])) rfl (by rw [hml]; rfl) c1 (argsL := []) (rest := []) rfl rfl (by show 2 * 0 + 0 ≤ _; decide) (hb hbytes d1) (⟨rfl, hx0.2.2.1, hx.2.2.2.2.1.cd, s1.there X0.warmed.alike hh0, hz⟩)
  obtain ⟨rfl, q2⟩ := E2
  have hh2 := q2.trans hh0
  have hx2 := hx.mv X2.warmed.alike hh2
  obtain ⟨-, k1, k2⟩ | ⟨k0, -⟩ := hx.2.2.2.2.1
  · have c3 : Steps p.tables e below (s₁.setTop (entryFrame m #[.ref x, .int (Int32.ofNat i)] 2)) (T2.setTop (mkF m 8 #[.val (.ref x), .val (.int (Int32.ofNat i))] [.ref x])) := Steps.trans g2 (by
      refine XS.ifNo X2.here hexec rfl (hb hbytes d4) rfl (i0_eq_f (by decide)) ?_
      refine XS.aloadN X2.here hexec rfl (hb hbytes d7) rfl rfl ?_
      exact Steps.refl _)
    obtain ⟨T4, X4, q4, st4⟩ := X2.hget hexec hown (wk W (.fieldLink "java/lang/String" 9 "java/lang/String" "value" "[B")) hx2.2.1 (g := (mkF m 8 #[.val (.ref x), .val (.int (Int32.ofNat i))] [.ref x])) rfl (rest := []) rfl (hb hbytes d8)
    have hh4 := q4.trans hh2
    have c5 : Steps p.tables e below (s₁.setTop (entryFrame m #[.ref x, .int (Int32.ofNat i)] 2)) (T4.setTop (mkF m 12 #[.val (.ref x), .val (.int (Int32.ofNat i))] [.int (Int32.ofNat i), .ref t])) := (c3.trans (st4 _ (Steps.refl _))).trans (by
      refine XS.iloadN X4.here hexec rfl (hb hbytes d11) rfl ?_
      exact Steps.refl _)
    obtain ⟨v6, T6, X6, E6, g6⟩ := X4.callS hexec (LChA.law l t V i (lo8 (f i)) fm) hown (wks W (staticW "java/lang/String" 495 LChA.yN)) (wk W LChA.tab) (W := 0) (Nat.le_of_ble_eq_true rfl) (Nat.le_of_ble_eq_true rfl) (Nat.le_refl _) (Nat.le_refl _) (g := (mkF m 12 #[.val (.ref x), .val (.int (Int32.ofNat i))] [.int (Int32.ofNat i), .ref t])) rfl (by rw [hml]; rfl) c5 (argsL := [.ref t, .int (Int32.ofNat i)]) (rest := []) rfl rfl (by show 2 * 0 + 0 ≤ _; decide) (hb hbytes d12) (⟨rfl, hx.2.2.2.1.mv X4.warmed.alike hh4, (k2 i hi).1, s3.there X4.warmed.alike hh4, rf⟩)
    obtain ⟨rfl, q6⟩ := E6
    rw [chr8_lo8 hr.1 (k2 i hi).2] at g6
    exact ⟨T6, some (.int (f i)), _, _, _, X6, rfl, rfl, rfl, (fun h => by cases h), ⟨rfl, q6.trans hh4⟩, fun fs hl => Steps.trans g6 (X6.ireturnOut hexec hret (narrow_ch hr.1 hr.2) (Or.inr (Or.inr (Or.inr (Or.inl rfl)))) (hb hbytes d15) hl)⟩
  · exact absurd k0 (by decide)
theorem pays {l : Launch} {R : Room} {p : Program} {e : Env} {below : List Frame} {s : State} {sargs : Array Value} {len W : Nat} (x t : Addr) (V : Cell) (n : Nat) (f : Nat → Int32) (z : Int32) (fm : Value) (i : Nat) (htab : tab.before sargs s = true) (hfr : 4 ≤ R.frames) (hlo : W + 53 ≤ R.locals) :
    Back l R p e below s sargs yN len W (fun A₁ a₁ => A₁.cells + 0 ≤ R.cells ∧ A₁.slots + 0 ≤ R.slots ∧ P x t V n f z fm i a₁ A₁.U) (fun A₁ _ v₁ B₁ => E f i v₁ A₁.U B₁.U ∧ B₁.locs = A₁.locs ++ [] ∧ B₁.cells = A₁.cells + 0 ∧ B₁.slots = A₁.slots + 0) :=
  (law l x t V n f z fm i).pays htab hfr (by omega)
end ChN
end StrChars
namespace StrChars.Road
open Jvm Sem ClassFile Op Lib Jvm.Stand Jvm.Free Jvm.Free.XT
open Jvm.Lib.Cold (StaticIs)
/-- the words of String.charAt(int), the Latin-1 road alone -/
abbrev wordsChN : List Jvm.Cond := [.code ChN.yN ChN.yB 2 (some .char), .initialized ST, .fieldLink ST 9 ST "value" "[B", .fieldLink ST 38 ST "COMPACT_STRINGS" "Z", .fieldLink ST 15 ST "coder" "B", .code IsL.yN IsL.yB 1 (some .boolean), .methodLink ST 492 IsL.yN, .declares IsL.yN, .selects ST IsL.yN IsL.yN, .instanceMethod IsL.yN,
  .methodLink ST 495 LChA.yN, .static LChA.yN, .code LChA.yN LChA.yB 2 (some .char), .initialized "java/lang/StringLatin1", .methodLink "java/lang/StringLatin1" 9 JO.Str_checkIndex.yN, .static JO.Str_checkIndex.yN, .code JO.Str_checkIndex.yN JO.Str_checkIndex.yB 2 none,
  .fieldLink ST 1053 "jdk/internal/util/Preconditions" "SIOOBE_FORMATTER" "Ljava/util/function/BiFunction;", .methodLink ST 1059 JC.PreCheck.yN, .static JC.PreCheck.yN, .code JC.PreCheck.yN JC.PreCheck.yB 3 (some .int), .initialized "jdk/internal/util/Preconditions"]
theorem tabChN_of {a : Array Value} {s : State} (h : ∀ w ∈ wordsChN, w.before a s = true) : ChN.tab.before a s = true := by
  have hp : JC.PreCheck.tab.before a s = true := unparts (wk h (.code JC.PreCheck.yN JC.PreCheck.yB 3 (some .int))) (wks h (.initialized JC.PreCheck.yN.cls :: JC.PreCheck.site))
  have qk := consq hp h
  have hk : JO.Str_checkIndex.tab.before a s = true := unparts (wk qk (.code JO.Str_checkIndex.yN JO.Str_checkIndex.yB 2 none)) (wks qk (.initialized JO.Str_checkIndex.yN.cls :: JO.Str_checkIndex.site))
  have ql := consq hk h
  have hl : LChA.tab.before a s = true := unparts (wk ql (.code LChA.yN LChA.yB 2 (some .char))) (wks ql (.initialized LChA.yN.cls :: LChA.site))
  have hi : IsL.tab.before a s = true := unparts (wk h (.code IsL.yN IsL.yB 1 (some .boolean))) (wks h (.initialized IsL.yN.cls :: IsL.site))
  have q := consq hi (consq hl h)
  exact unparts (wk q (.code ChN.yN ChN.yB 2 (some .char))) (wks q (.initialized ChN.yN.cls :: ChN.site))
theorem movedChN {Z s : State} {a0 args : Array Value} (hZ : Z.Warmed39 s.vm) (hw : ∀ d ∈ wordsChN, d.before a0 Z = true) : ∀ d ∈ wordsChN, d.before args s = true := fun d hd => by
  have t : ∀ d ∈ wordsChN, (d.onTables && d.keepsFace) = true := by decide +kernel
  exact RoadKit.mv hZ (hw d hd) (t d hd)
/-- **charAt(i) OF A LATIN-1 STRING**, i < n: the char -/
theorem chN {p : Program} {l : Launch} {e : Env} {R : Room} {s : State} {args : Array Value} {below : List Frame} {len W : Nat} {Z : State} {a0 : Array Value} {h : Heap} (hZ : Z.Warmed39 s.vm) (hw : ∀ d ∈ wordsChN, d.before a0 Z = true) {kI : Nat} (wi : (Jvm.Cond.instantiable ST kI).before a0 Z = true)
    {x t : Addr} {kb : ClassId} {cs : List Int32} {N2 z : Int32} {vs : List Value} {fm : Value} {i : Nat} {j : Int32} (E : RoadKit.Exa Z h x ST) (V : RoadKit.Fld Z h x ST "value" "[B" (.ref t)) (C : RoadKit.Fld Z h x ST "coder" "B" (.int 0)) (K : RoadKit.Arv Z h t kb .byte N2 vs (.int 0)) (hc : CodA cs 0 N2 vs) (hb : ∀ c ∈ cs, ¬ c < 0 ∧ ¬ (65535 : Int32) < c)
    (S : RoadKit.Sta Z h ST "COMPACT_STRINGS" "Z" (.int z)) (hz : ¬ z = 0) (F : RoadKit.Sta Z h "jdk/internal/util/Preconditions" "SIOOBE_FORMATTER" "Ljava/util/function/BiFunction;" fm) (rf : fm.isRef = true) (l2 : cs.length ≤ 4000) (hi : i < cs.length) (hj : j = Int32.ofNat i) (hfr : 4 ≤ R.frames) (hlo : W + 53 ≤ R.locals) :
    Back l R p e below s args (⟨"java/lang/String", "charAt", "(I)C"⟩ : MethodName) len W (fun P a => a = #[.ref x, .int j] ∧ P.U.heap = h ∧ P.cells + 0 ≤ R.cells ∧ P.slots + 0 ≤ R.slots)
      (fun P _ v B => ∃ L, (v = some (.int (cs.getD i 0)) ∧ L = [] ∧ B.U.heap = h) ∧ B.locs = P.locs ++ L ∧ B.cells = P.cells + 0 ∧ B.slots = P.slots + 0) := by
  subst hj
  intro m meth c P g ig mk a X hg hsize hdg hW hn hp'
  obtain ⟨rfl, rfl, r1, r2⟩ := hp'
  have al : Z.vm.Alike P.U.vm := hZ.alike.trans X.warmed.alike
  obtain ⟨A, hx⟩ := txt_of wi al E V C K hc hb l2
  obtain ⟨v, B, X', ⟨⟨hv, hh⟩, hl, hk, hs⟩, st⟩ := ChN.pays x t A cs.length (fun j => cs.getD j 0) z fm i (tabChN_of (movedChN hZ hw)) hfr hlo m meth c P g ig mk _ X hg hsize hdg hW hn ⟨r1, r2, rfl, hx, hi, sta_is al S, hz, sta_is al F, rf⟩
  exact ⟨v, B, X', ⟨[], ⟨hv, rfl, hh⟩, hl, hk, hs⟩, st⟩
end StrChars.Road
end Jvm.Pilot.@@N@@
namespace Jvm.Pilot.@@N@@
open Jvm Jvm.ClassFile Sem Op Lib Jvm.Free Jvm.Stand Jvm.LawKit Jvm.RoadKit Bundle Jvm.Pilot.@@N@@.Jvm.D
/-! ## PART A. A small machine that reckons with plain data, and the proof that the model follows it -/
abbrev oObj : Type := (Nat × List Value) ⊕ (FieldType × List Int32)
abbrev oFd : Type := String × String × FieldType × Bool
abbrev oKl : Type := String × Nat × List oFd
abbrev oMt : Type := MethodName × ByteArray × Nat × Option FieldType × Jvm.Room × Nat
abbrev oOp : Type := Nat × Instr × Nat × Nat
abbrev oSt : Type := Nat × Array Slot × List Value × List oObj × Nat × Nat
abbrev oCf : Type := Nat → List Value → List oObj → Option (Option Value × List oObj)

theorem oNone {α : Type} {a : α} {P : Prop} (h : (none : Option α) = some a) : P := by cases h
/-! A1. what stands for what: an abstract value's 'ref k' is the k-th object made; 'retAddr' and 'double' stand for any value of their size -/
def oVR (ad : List Addr) : Value → Value → Prop
  | .int x, w => w = .int x
  | .long x, w => w = .long x
  | .null, w => w = .null
  | .ref k, w => ∃ a, ad[k]? = some a ∧ w = .ref a
  | .retAddr _, w => w.category = 1
  | .double _, w => w.category = 2
  | .float _, _ => False
def oPre (ad ad' : List Addr) : Prop := ∀ (k : Nat) (a : Addr), ad[k]? = some a → ad'[k]? = some a
theorem oPre.rfl' (ad : List Addr) : oPre ad ad := fun _ _ h => h
theorem oPre.trans {a b c : List Addr} (h : oPre a b) (h' : oPre b c) : oPre a c := fun k x q => h' k x (h k x q)
theorem oPre.snoc (ad : List Addr) (x : Addr) : oPre ad (ad ++ [x]) := fun k a h => by
  rw [List.getElem?_append_left (List.getElem?_eq_some_iff.mp h).1]; exact h
theorem oVR.mono {ad ad' : List Addr} {v w : Value} (h : oVR ad v w) (p : oPre ad ad') : oVR ad' v w := by
  cases v <;> first | exact h | (obtain ⟨a, h1, h2⟩ := h; exact ⟨a, p _ _ h1, h2⟩)
theorem oVR.cat {ad : List Addr} {v w : Value} (h : oVR ad v w) : w.category = v.category := by
  cases v <;> first | (obtain ⟨a, h1, rfl⟩ := h; rfl) | (cases h; rfl) | (cases h; done) | exact h
def oKR (ad : List Addr) : List Value → List Value → Prop
  | [], ws => ws = []
  | v :: vs, ws => ∃ w ws', ws = w :: ws' ∧ oVR ad v w ∧ oKR ad vs ws'
theorem oKR.mono {ad ad' : List Addr} (p : oPre ad ad') : ∀ {vs ws : List Value}, oKR ad vs ws → oKR ad' vs ws
  | [], _, h => h
  | _ :: _, _, ⟨w, ws', h1, h2, h3⟩ => ⟨w, ws', h1, h2.mono p, oKR.mono p h3⟩
theorem oKR.len {ad : List Addr} : ∀ {vs ws : List Value}, oKR ad vs ws → ws.length = vs.length
  | [], _, h => by cases h; rfl
  | _ :: _, _, ⟨w, ws', h1, h2, h3⟩ => by cases h1; simp [oKR.len h3]
theorem oKR.take {ad : List Addr} : ∀ (n : Nat) {vs ws : List Value}, oKR ad vs ws → oKR ad (vs.take n) (ws.take n)
  | 0, _, _, _ => rfl
  | _ + 1, [], _, h => by cases h; rfl
  | n + 1, _ :: _, _, ⟨w, ws', h1, h2, h3⟩ => by cases h1; exact ⟨w, _, rfl, h2, oKR.take n h3⟩
theorem oKR.drop {ad : List Addr} : ∀ (n : Nat) {vs ws : List Value}, oKR ad vs ws → oKR ad (vs.drop n) (ws.drop n)
  | 0, _, _, h => h
  | _ + 1, [], _, h => by cases h; rfl
  | n + 1, _ :: _, _, ⟨w, ws', h1, h2, h3⟩ => by cases h1; exact oKR.drop n h3
theorem oKR.app {ad : List Addr} {xs ys : List Value} (h' : oKR ad xs ys) : ∀ {vs ws : List Value}, oKR ad vs ws → oKR ad (vs ++ xs) (ws ++ ys)
  | [], _, h => by cases h; exact h'
  | _ :: _, _, ⟨w, ws', h1, h2, h3⟩ => by cases h1; exact ⟨w, _, rfl, h2, oKR.app h' h3⟩
theorem oKR.rev {ad : List Addr} : ∀ {vs ws : List Value}, oKR ad vs ws → oKR ad vs.reverse ws.reverse
  | [], _, h => by cases h; rfl
  | v :: _, _, ⟨w, ws', h1, h2, h3⟩ => by
    cases h1
    rw [List.reverse_cons, List.reverse_cons]
    exact oKR.app (show oKR ad [v] [w] from ⟨w, [], rfl, h2, rfl⟩) (oKR.rev h3)
theorem oKR.cats {ad : List Addr} : ∀ {vs ws : List Value}, oKR ad vs ws → (ws.map fun v => v.category) = vs.map fun v => v.category
  | [], _, h => by cases h; rfl
  | _ :: _, _, ⟨w, ws', h1, h2, h3⟩ => by cases h1; simp [oKR.cats h3, h2.cat]

/-! A2. local variables -/
def oSR (ad : List Addr) : Slot → Slot → Prop
  | .unset, s => s = .unset
  | .second, s => s = .second
  | .val v, s => ∃ w, s = .val w ∧ oVR ad v w
theorem oSR.mono {ad ad' : List Addr} {x y : Slot} (h : oSR ad x y) (p : oPre ad ad') : oSR ad' x y := by
  cases x <;> first | exact h | (obtain ⟨a, h1, h2⟩ := h; exact ⟨a, h1, h2.mono p⟩)
def oLR (ad : List Addr) (l c : Array Slot) : Prop := l.size = c.size ∧ ∀ (i : Nat) (x : Slot), l[i]? = some x → ∃ y, c[i]? = some y ∧ oSR ad x y
theorem oLR.mono {ad ad' : List Addr} {l c : Array Slot} (h : oLR ad l c) (p : oPre ad ad') : oLR ad' l c :=
  ⟨h.1, fun i x hx => by obtain ⟨y, h1, h2⟩ := h.2 i x hx; exact ⟨y, h1, h2.mono p⟩⟩
theorem oLR.ld {ad : List Addr} {l c : Array Slot} (h : oLR ad l c) {k : Nat} {v : Value} (q : l.toList[k]? = some (.val v)) : ∃ w, c[k]? = some (.val w) ∧ oVR ad v w := by
  rw [Array.getElem?_toList] at q
  obtain ⟨y, h1, w, rfl, h2⟩ := h.2 k _ q
  exact ⟨w, h1, h2⟩
theorem oLR.set {ad : List Addr} {l c l' : Array Slot} {i : Nat} {x y : Slot} (h : oLR ad l c) (hx : oSR ad x y) (hs : setAt l i x = some l') : ∃ c', setAt c i y = some c' ∧ oLR ad l' c' := by
  unfold setAt at hs ⊢
  split at hs
  · rename_i hi
    cases hs
    have hi' : i < c.size := h.1 ▸ hi
    refine ⟨_, if_pos hi', by simp [h.1], fun j z hz => ?_⟩
    by_cases e : i = j
    · subst e
      rw [Array.getElem?_setIfInBounds_self_of_lt hi] at hz
      cases hz
      exact ⟨y, Array.getElem?_setIfInBounds_self_of_lt hi', hx⟩
    · rw [Array.getElem?_setIfInBounds_ne e] at hz ⊢
      exact h.2 j z hz
  · cases hs
theorem oLR.storeSelf {ad : List Addr} {l c l' : Array Slot} {i : Nat} {v w : Value} (h : oLR ad l c) (hv : oVR ad v w) (hs : storeSelf l i v = some l') : ∃ c', storeSelf c i w = some c' ∧ oLR ad l' c' := by
  simp only [Jvm.storeSelf, Option.bind_eq_bind, Option.bind_eq_some_iff] at hs ⊢
  obtain ⟨l1, h1, h2⟩ := hs
  obtain ⟨c1, e1, r1⟩ := h.set (x := .val v) (y := .val w) ⟨w, rfl, hv⟩ h1
  rw [hv.cat]
  split at h2
  · rename_i hcat
    simp only [Option.bind_eq_some_iff] at h2
    obtain ⟨x, hx, h3⟩ := h2
    obtain ⟨y, hy, hxy⟩ := r1.2 _ _ hx
    cases x with
    | unset =>
      cases hxy
      obtain ⟨c2, e2, r2⟩ := r1.set (x := .second) (y := .second) rfl h3
      exact ⟨c2, ⟨c1, e1, by rw [if_pos hcat, hy]; exact e2⟩, r2⟩
    | second =>
      cases hxy
      obtain ⟨c2, e2, r2⟩ := r1.set (x := .second) (y := .second) rfl h3
      exact ⟨c2, ⟨c1, e1, by rw [if_pos hcat, hy]; exact e2⟩, r2⟩
    | val old =>
      obtain ⟨w', rfl, ho⟩ := hxy
      dsimp only at h3
      split at h3
      · rename_i h2c
        simp only [Option.bind_eq_some_iff] at h3
        obtain ⟨l2, h4, h5⟩ := h3
        obtain ⟨c2, e2, r2⟩ := r1.set (x := .unset) (y := .unset) rfl h4
        obtain ⟨c3, e3, r3⟩ := r2.set (x := .second) (y := .second) rfl h5
        refine ⟨c3, ⟨c1, e1, ?_⟩, r3⟩
        rw [if_pos hcat, hy]
        show (if w'.category = 2 then _ else _) = _
        rw [if_pos (ho.cat.trans h2c), e2]
        exact e3
      · rename_i h2c
        obtain ⟨c2, e2, r2⟩ := r1.set (x := .second) (y := .second) rfl h3
        refine ⟨c2, ⟨c1, e1, ?_⟩, r2⟩
        rw [if_pos hcat, hy]
        show (if w'.category = 2 then _ else _) = _
        rw [if_neg (ho.cat ▸ h2c)]
        exact e2
  · rename_i hcat
    cases h2
    exact ⟨c1, ⟨c1, e1, by rw [if_neg hcat]⟩, r1⟩
theorem oLR.store {ad : List Addr} {l c l' : Array Slot} {i : Nat} {v w : Value} (h : oLR ad l c) (hv : oVR ad v w) (hs : storeLocals l i v = some l') : ∃ c', storeLocals c i w = some c' ∧ oLR ad l' c' := by
  simp only [storeLocals, Option.bind_eq_bind, Option.bind_eq_some_iff] at hs ⊢
  obtain ⟨x, hx, h1⟩ := hs
  obtain ⟨y, hy, hxy⟩ := h.2 _ _ hx
  cases x with
  | unset =>
    cases hxy
    obtain ⟨c1, e1, r1⟩ := h.storeSelf hv h1
    exact ⟨c1, ⟨_, hy, e1⟩, r1⟩
  | second =>
    cases hxy
    simp only [Option.bind_eq_some_iff] at h1
    obtain ⟨l1, h2, h3⟩ := h1
    obtain ⟨c1, e1, r1⟩ := h.set (x := .unset) (y := .unset) rfl h2
    obtain ⟨c2, e2, r2⟩ := r1.storeSelf hv h3
    exact ⟨c2, ⟨_, hy, by simp only [e1]; exact e2⟩, r2⟩
  | val old =>
    obtain ⟨w', rfl, ho⟩ := hxy
    dsimp only at h1
    split at h1
    · rename_i h2c
      simp only [Option.bind_eq_some_iff] at h1
      obtain ⟨l1, h2, h3⟩ := h1
      obtain ⟨c1, e1, r1⟩ := h.set (x := .unset) (y := .unset) rfl h2
      obtain ⟨c2, e2, r2⟩ := r1.storeSelf hv h3
      refine ⟨c2, ⟨_, hy, ?_⟩, r2⟩
      show (if w'.category = 2 then _ else _) = _
      rw [if_pos (ho.cat.trans h2c), e1]
      exact e2
    · rename_i h2c
      obtain ⟨c2, e2, r2⟩ := h.storeSelf hv h1
      refine ⟨c2, ⟨_, hy, ?_⟩, r2⟩
      show (if w'.category = 2 then _ else _) = _
      rw [if_neg (ho.cat ▸ h2c)]
      exact e2
theorem oLR.push {ad : List Addr} {l c : Array Slot} {x y : Slot} (h : oLR ad l c) (hx : oSR ad x y) : oLR ad (l.push x) (c.push y) := by
  refine ⟨by simp [h.1], fun i z hz => ?_⟩
  rw [Array.getElem?_push] at hz ⊢
  rw [h.1] at hz
  split at hz
  · rename_i e
    cases hz
    exact ⟨y, if_pos e, hx⟩
  · rename_i e
    rw [if_neg e]
    exact h.2 i z hz
theorem oLR.pad {ad : List Addr} {l c : Array Slot} (h : oLR ad l c) (n : Nat) : oLR ad (l ++ Array.replicate n .unset) (c ++ Array.replicate n .unset) := by
  refine ⟨by simp [h.1], fun i x hx => ?_⟩
  rw [Array.getElem?_append] at hx ⊢
  rw [h.1] at hx
  split at hx
  · rename_i hi
    rw [if_pos hi]; exact h.2 i x hx
  · rename_i hi
    rw [if_neg hi]
    rw [Array.getElem?_replicate] at hx ⊢
    split at hx
    · rename_i hj
      cases hx
      exact ⟨.unset, if_pos hj, rfl⟩
    · cases hx
theorem oLR.fold {ad : List Addr} : ∀ {vs ws : List Value} {l c : Array Slot}, oKR ad vs ws → oLR ad l c →
    oLR ad (vs.foldl (fun acc v => if v.category = 2 then (acc.push (.val v)).push .second else acc.push (.val v)) l) (ws.foldl (fun acc v => if v.category = 2 then (acc.push (.val v)).push .second else acc.push (.val v)) c)
  | [], _, _, _, hk, h => by cases hk; exact h
  | v :: vs, _, _, _, ⟨w, ws', h1, h2, h3⟩, h => by
    cases h1
    rw [List.foldl_cons, List.foldl_cons]
    refine oLR.fold h3 ?_
    rw [h2.cat]
    split
    · exact (h.push (show oSR ad (.val v) (.val w) from ⟨w, rfl, h2⟩)).push (show oSR ad .second .second from rfl)
    · exact h.push (show oSR ad (.val v) (.val w) from ⟨w, rfl, h2⟩)
theorem oLR.entry {ad : List Addr} {vs ws : List Value} (h : oKR ad vs ws) (n : Nat) : oLR ad (argsToLocals vs.toArray n) (argsToLocals ws.toArray n) := by
  have q := oLR.fold h (l := #[]) (c := #[]) ⟨rfl, fun i x hx => by simp at hx⟩
  unfold argsToLocals
  rw [List.foldl_toArray, List.foldl_toArray]
  dsimp only
  rw [q.1]
  exact q.pad _

/-! A3. the heap: the k-th object made lies at the k-th address of 'ad' -/
def oOR (Z : State) (h : Heap) (ad : List Addr) (KT : List oKl) (a : Addr) : oObj → Prop
  | .inl (k, vs) => ∃ (C : String) (n : Nat) (fs : List oFd), KT[k]? = some (C, n, fs) ∧ vs.length = fs.length ∧ Exa Z h a C ∧ ∀ (i : Nat) (f : oFd) (v : Value), fs[i]? = some f → vs[i]? = some v → ∃ w, oVR ad v w ∧ Fld Z h a C f.1 f.2.1 w
  | .inr (ty, vs) => ∃ c : Cell, Arr Z h a c ty ∧ c.slots = (vs.map Value.int).toArray
def oHR (Z : State) (h : Heap) (n0 : Nat) (ad : List Addr) (KT : List oKl) (H : List oObj) : Prop :=
  ad.length = H.length ∧ (∀ (i j a : Nat), ad[i]? = some a → ad[j]? = some a → i = j) ∧ (∀ (i a : Nat), ad[i]? = some a → n0 ≤ a ∧ a < h.size) ∧
    ∀ (k : Nat) (o : oObj) (a : Nat), H[k]? = some o → ad[k]? = some a → oOR Z h ad KT a o
section Heaps
variable {Z : State} {h h' : Heap} {ad ad' : List Addr} {KT : List oKl} {a b : Addr} {o : oObj} {H : List oObj} {n0 : Nat}
theorem oOR.mono (q : oOR Z h ad KT a o) (p : oPre ad ad') : oOR Z h ad' KT a o := by
  rcases o with ⟨k, vs⟩ | ⟨ty, vs⟩
  · obtain ⟨C, n, fs, h1, h0, h2, h3⟩ := q
    exact ⟨C, n, fs, h1, h0, h2, fun i f v hf hv => by obtain ⟨w, e1, e2⟩ := h3 i f v hf hv; exact ⟨w, e1.mono p, e2⟩⟩
  · exact q
theorem oOR.ext (q : oOR Z h ad KT a o) (E : Ext h h') : oOR Z h' ad KT a o := by
  rcases o with ⟨k, vs⟩ | ⟨ty, vs⟩
  · obtain ⟨C, n, fs, h1, h0, h2, h3⟩ := q
    exact ⟨C, n, fs, h1, h0, h2.ext E, fun i f v hf hv => by obtain ⟨w, e1, e2⟩ := h3 i f v hf hv; exact ⟨w, e1, e2.ext E⟩⟩
  · obtain ⟨c, h1, h2⟩ := q
    exact ⟨c, h1.ext E, h2⟩
theorem oOR.other {sl : Nat} {v : Value} (q : oOR Z h ad KT b o) (W : Wr h h' a sl v) (hne : b ≠ a) : oOR Z h' ad KT b o := by
  rcases o with ⟨k, vs⟩ | ⟨ty, vs⟩
  · obtain ⟨C, n, fs, h1, h0, h2, h3⟩ := q
    exact ⟨C, n, fs, h1, h0, h2.wr W, fun i f v hf hv => by obtain ⟨w, e1, e2⟩ := h3 i f v hf hv; exact ⟨w, e1, e2.other W (Or.inl hne)⟩⟩
  · obtain ⟨c, h1, h2⟩ := q
    exact ⟨c, h1.other W hne, h2⟩
theorem oHR.at (q : oHR Z h n0 ad KT H) {k : Nat} (e : H[k]? = some o) : ∃ a, ad[k]? = some a ∧ oOR Z h ad KT a o := by
  have hk : k < ad.length := by rw [q.1]; exact (List.getElem?_eq_some_iff.mp e).1
  exact ⟨ad[k], List.getElem?_eq_getElem hk, q.2.2.2 k o _ e (List.getElem?_eq_getElem hk)⟩
theorem oHR.put {sl k : Nat} {v : Value} {o' : oObj} (q : oHR Z h n0 ad KT H) (e : H[k]? = some o) (ha : ad[k]? = some a) (W : Wr h h' a sl v) (hn : oOR Z h' ad KT a o') : oHR Z h' n0 ad KT (H.set k o') := by
  refine ⟨by simp [q.1], q.2.1, fun i b hb => by rw [W.size]; exact q.2.2.1 i b hb, fun j o1 b ho hb => ?_⟩
  by_cases ej : k = j
  · subst ej
    rw [List.getElem?_set_self (List.getElem?_eq_some_iff.mp e).1] at ho
    cases ho
    cases ha.symm.trans hb
    exact hn
  · rw [List.getElem?_set_ne ej] at ho
    exact (q.2.2.2 j o1 b ho hb).other W fun hab => ej (q.2.1 k j a ha (hab ▸ hb))
theorem oHR.new {o' : oObj} (q : oHR Z h n0 ad KT H) (hn0 : n0 ≤ h.size) (E : Ext h h') (hlt : h.size < h'.size) (hn : oOR Z h' (ad ++ [h.size]) KT h.size o') : oHR Z h' n0 (ad ++ [h.size]) KT (H ++ [o']) := by
  have key : ∀ (i b : Nat), (ad ++ [h.size])[i]? = some b → (ad[i]? = some b ∧ i < ad.length) ∨ (i = ad.length ∧ b = h.size) := fun i b hb => by
    by_cases hi : i < ad.length
    · rw [List.getElem?_append_left hi] at hb; exact Or.inl ⟨hb, hi⟩
    · rw [List.getElem?_append_right (Nat.le_of_not_lt hi)] at hb
      obtain ⟨h1, h2⟩ := List.getElem?_eq_some_iff.mp hb
      simp only [List.length_singleton, Nat.lt_one_iff] at h1
      refine Or.inr ⟨by omega, ?_⟩
      simp only [h1, List.getElem_singleton] at h2
      exact h2.symm
  refine ⟨by simp [q.1], fun i j b hi hj => ?_, fun i b hi => ?_, fun j o1 b ho hb => ?_⟩
  · rcases key i b hi with ⟨h1, h1'⟩ | ⟨h1, h2⟩ <;> rcases key j b hj with ⟨g1, g1'⟩ | ⟨g1, g2⟩
    · exact q.2.1 i j b h1 g1
    · have := (q.2.2.1 i b h1).2; omega
    · have := (q.2.2.1 j b g1).2; omega
    · omega
  · rcases key i b hi with ⟨h1, h1'⟩ | ⟨h1, h2⟩
    · have := q.2.2.1 i b h1; omega
    · omega
  · rcases key j b hb with ⟨h1, h1'⟩ | ⟨h1, h2⟩
    · rw [List.getElem?_append_left (by rw [← q.1]; exact h1')] at ho
      exact ((q.2.2.2 j o1 b ho h1).ext E).mono (oPre.snoc _ _)
    · subst h1 h2
      rw [List.getElem?_append_right (by rw [q.1]; exact Nat.le_refl _)] at ho
      have e0 : ad.length - H.length = 0 := by rw [q.1]; omega
      rw [e0] at ho
      cases ho
      exact hn
end Heaps

/-! A4. the machine -/
def oLen : Instr → Nat
  | .iload _ | .istore _ | .aload _ | .astore _ | .lload _ | .lstore _ | .bipush _ | .ldc _ | .newarray _ => 2
  | .sipush _ | .goto _ | .if_icmp _ _ | .ifCond _ _ | .if_acmp _ _ | .ifnull _ | .ifnonnull _ | .getfield _ | .putfield _ | .invokestatic _ | .invokespecial _ | .invokevirtual _ | .new _ | .iinc _ _ | .ldc2_w _ | .checkcast _ | .getstatic _ => 3
  | _ => 1
def oSw : Instr → Bool
  | .lookupswitch _ _ => true
  | _ => false
def oRetI : Instr → Bool
  | .ireturn | .lreturn | .areturn | .return_ => true
  | _ => false
def oJmp (pc : Nat) (o : Int) (ls : Array Slot) (r : List Value) : Option (Nat × Array Slot × List Value) := if 0 ≤ (pc : Int) + o then some (((pc : Int) + o).toNat, ls, r) else none
def oB (f : Int32 → Int32 → Int32) (pc : Nat) (ls : Array Slot) : List Value → Option (Nat × Array Slot × List Value)
  | .int y :: .int x :: r => some (pc + 1, ls, .int (f x y) :: r)
  | _ => none
def oBL (f : Int64 → Int64 → Int64) (pc : Nat) (ls : Array Slot) : List Value → Option (Nat × Array Slot × List Value)
  | .long y :: .long x :: r => some (pc + 1, ls, .long (f x y) :: r)
  | _ => none
def oU (f : Int32 → Int32) (pc : Nat) (ls : Array Slot) : List Value → Option (Nat × Array Slot × List Value)
  | .int x :: r => some (pc + 1, ls, .int (f x) :: r)
  | _ => none
def oLdI (n pc : Nat) (ls : Array Slot) (sk : List Value) (k : Nat) : Option (Nat × Array Slot × List Value) :=
  match ls.toList[k]? with
  | some (.val (.int x)) => some (pc + n, ls, .int x :: sk)
  | _ => none
def oLdL (n pc : Nat) (ls : Array Slot) (sk : List Value) (k : Nat) : Option (Nat × Array Slot × List Value) :=
  match ls.toList[k]? with
  | some (.val (.long x)) => some (pc + n, ls, .long x :: sk)
  | _ => none
def oLdA (n pc : Nat) (ls : Array Slot) (sk : List Value) (k : Nat) : Option (Nat × Array Slot × List Value) :=
  match ls.toList[k]? with
  | some (.val (.ref x)) => some (pc + n, ls, .ref x :: sk)
  | some (.val .null) => some (pc + n, ls, .null :: sk)
  | _ => none
def oStI (n pc : Nat) (ls : Array Slot) (k : Nat) : List Value → Option (Nat × Array Slot × List Value)
  | .int x :: r => (storeLocals ls k (.int x)).map fun l' => (pc + n, l', r)
  | _ => none
def oStL (n pc : Nat) (ls : Array Slot) (k : Nat) : List Value → Option (Nat × Array Slot × List Value)
  | .long x :: r => (storeLocals ls k (.long x)).map fun l' => (pc + n, l', r)
  | _ => none
def oStA (n pc : Nat) (ls : Array Slot) (k : Nat) : List Value → Option (Nat × Array Slot × List Value)
  | .ref x :: r => (storeLocals ls k (.ref x)).map fun l' => (pc + n, l', r)
  | .null :: r => (storeLocals ls k .null).map fun l' => (pc + n, l', r)
  | _ => none
def oC1 (v : Value) : Bool := v.category == 1
/-- the steps that touch neither heap nor calls -/
def oStep1 (CT : List Value) (i : Instr) (p1 pc : Nat) (ls : Array Slot) (sk : List Value) : Option (Nat × Array Slot × List Value) :=
  match i with
  | .iload_n k => oLdI 1 pc ls sk k.val
  | .iload k => oLdI 2 pc ls sk k
  | .lload_n k => oLdL 1 pc ls sk k.val
  | .lload k => oLdL 2 pc ls sk k
  | .aload_n k => oLdA 1 pc ls sk k.val
  | .aload k => oLdA 2 pc ls sk k
  | .istore_n k => oStI 1 pc ls k.val sk
  | .istore k => oStI 2 pc ls k sk
  | .lstore_n k => oStL 1 pc ls k.val sk
  | .lstore k => oStL 2 pc ls k sk
  | .astore_n k => oStA 1 pc ls k.val sk
  | .astore k => oStA 2 pc ls k sk
  | .iinc k n => match ls.toList[k]? with
    | some (.val (.int x)) => (storeLocals ls k (.int (x + Int32.ofInt n))).map fun l' => (pc + 3, l', sk)
    | _ => none
  | .iconst n => some (pc + 1, ls, .int (Int32.ofInt n) :: sk)
  | .bipush n => some (pc + 2, ls, .int (Int8.ofInt n).toInt32 :: sk)
  | .sipush n => some (pc + 3, ls, .int (Int16.ofInt n).toInt32 :: sk)
  | .lconst k => some (pc + 1, ls, .long (Int64.ofNat k) :: sk)
  | .aconst_null => some (pc + 1, ls, .null :: sk)
  | .ldc _ => match CT[p1]? with
    | some (.int x) => some (pc + 2, ls, .int x :: sk)
    | _ => none
  | .ldc2_w _ => match CT[p1]? with
    | some (.long x) => some (pc + 3, ls, .long x :: sk)
    | _ => none
  | .iadd => oB (· + ·) pc ls sk
  | .isub => oB (· - ·) pc ls sk
  | .imul => oB (· * ·) pc ls sk
  | .iand => oB (· &&& ·) pc ls sk
  | .ior => oB (· ||| ·) pc ls sk
  | .ixor => oB (· ^^^ ·) pc ls sk
  | .ishl => oB (fun x y => x <<< (y &&& 31)) pc ls sk
  | .ishr => oB (fun x y => x >>> (y &&& 31)) pc ls sk
  | .iushr => oB XT.ushr pc ls sk
  | .ladd => oBL (· + ·) pc ls sk
  | .lsub => oBL (· - ·) pc ls sk
  | .lmul => oBL (· * ·) pc ls sk
  | .land => oBL (· &&& ·) pc ls sk
  | .idiv => match sk with
    | .int y :: .int x :: r => if y = 0 then none else some (pc + 1, ls, .int (x / y) :: r)
    | _ => none
  | .irem => match sk with
    | .int y :: .int x :: r => if y = 0 then none else some (pc + 1, ls, .int (x % y) :: r)
    | _ => none
  | .ldiv => match sk with
    | .long y :: .long x :: r => if y = 0 then none else some (pc + 1, ls, .long (x / y) :: r)
    | _ => none
  | .lshr => match sk with
    | .int y :: .long x :: r => some (pc + 1, ls, .long (x >>> (y &&& 0x3f).toInt64) :: r)
    | _ => none
  | .lcmp => match sk with
    | .long y :: .long x :: r => some (pc + 1, ls, .int (XT.cmpL x y) :: r)
    | _ => none
  | .i2c => oU (fun x => x.toUInt32.toUInt16.toUInt32.toInt32) pc ls sk
  | .i2b => oU (fun x => x.toInt8.toInt32) pc ls sk
  | .i2l => match sk with
    | .int x :: r => some (pc + 1, ls, .long x.toInt64 :: r)
    | _ => none
  | .l2i => match sk with
    | .long x :: r => some (pc + 1, ls, .int x.toInt32 :: r)
    | _ => none
  | .dup => match sk with
    | x :: r => if oC1 x then some (pc + 1, ls, x :: x :: r) else none
    | _ => none
  | .pop => match sk with
    | x :: r => if oC1 x then some (pc + 1, ls, r) else none
    | _ => none
  | .dup_x1 => match sk with
    | x :: y :: r => if oC1 x && oC1 y then some (pc + 1, ls, x :: y :: x :: r) else none
    | _ => none
  | .dup2 => match sk with
    | x :: y :: r => if oC1 x && oC1 y then some (pc + 1, ls, x :: y :: x :: y :: r) else none
    | _ => none
  | .dup_x2 => match sk with
    | x :: y :: z :: r => if oC1 x && (oC1 y && oC1 z) then some (pc + 1, ls, x :: y :: z :: x :: r) else none
    | _ => none
  | .checkcast _ => match sk with
    | .null :: r => some (pc + 3, ls, .null :: r)
    | _ => none
  | .goto o => oJmp pc o ls sk
  | .ifCond cd o => match sk with
    | .int x :: r => if ifCond.holds cd x = true then oJmp pc o ls r else some (pc + 3, ls, r)
    | _ => none
  | .if_icmp cd o => match sk with
    | .int y :: .int x :: r => if if_icmp.holds cd x y = true then oJmp pc o ls r else some (pc + 3, ls, r)
    | _ => none
  | .lookupswitch dflt prs => match sk with
    | .int x :: r => if (prs.toList.zip (prs.toList.drop 1)).all (fun q => decide (q.1.1 < q.2.1)) = true then oJmp pc (lookupswitch.offset prs.toList dflt x.toInt) ls r else none
    | _ => none
  | _ => none
def oFit : FieldType → Value → Bool
  | .boolean, .int _ | .byte, .int _ | .char, .int _ | .short, .int _ | .int, .int _ | .long, .long _ => true
  | .object _, .null | .object _, .ref _ | .array _, .null | .array _, .ref _ => true
  | _, _ => false
def oIn (j : Int32) (n : Nat) : Bool := !decide (j < 0) && decide (j.toNatClampNeg < n)
/-- the steps on the heap -/
def oStep2 (KT : List oKl) (R : Jvm.Room) (i : Instr) (p1 p2 pc : Nat) (sk : List Value) (H : List oObj) (cells slots : Nat) : Option (Nat × List Value × List oObj × Nat × Nat) :=
  match i with
  | .getfield _ => match sk with
    | .ref k :: r => match H[k]? with
      | some (.inl (c, vs)) => if c = p1 then (match vs[p2]? with
        | some v => some (pc + 3, v :: r, H, cells, slots)
        | none => none) else none
      | _ => none
    | _ => none
  | .putfield _ => match sk with
    | v :: .ref k :: r => match H[k]? with
      | some (.inl (c, vs)) => (match KT[p1]? with
        | some (_, _, fs) => (match fs[p2]? with
          | some (_, _, ty, _) => if c = p1 ∧ p2 < vs.length ∧ oFit ty v = true then some (pc + 3, r, H.set k (.inl (c, vs.set p2 (narrow ty v))), cells, slots) else none
          | none => none)
        | none => none)
      | _ => none
    | _ => none
  | .new _ => match KT[p1]? with
    | some (_, n, fs) => if cells + 1 ≤ R.cells ∧ slots + n ≤ R.slots then some (pc + 3, .ref H.length :: sk, H ++ [.inl (p1, fs.map fun f => defaultValue f.2.2.1)], cells + 1, slots + n) else none
    | none => none
  | .newarray t => match sk with
    | .int n :: r => if (t = .int ∨ t = .boolean) ∧ ¬ n < 0 ∧ n.toNatClampNeg * 8 ≤ 536870912 ∧ cells + 1 ≤ R.cells ∧ slots + n.toNatClampNeg ≤ R.slots then some (pc + 2, .ref H.length :: r, H ++ [.inr (newarray.typeOf t, List.replicate n.toNatClampNeg 0)], cells + 1, slots + n.toNatClampNeg) else none
    | _ => none
  | .arraylength => match sk with
    | .ref k :: r => match H[k]? with
      | some (.inr (_, vs)) => some (pc + 1, .int vs.length.toInt32 :: r, H, cells, slots)
      | _ => none
    | _ => none
  | .iaload => match sk with
    | .int j :: .ref k :: r => match H[k]? with
      | some (.inr (.int, vs)) => if j < 0 then none else (match vs[j.toNatClampNeg]? with
        | some x => some (pc + 1, .int x :: r, H, cells, slots)
        | none => none)
      | _ => none
    | _ => none
  | .baload => match sk with
    | .int j :: .ref k :: r => match H[k]? with
      | some (.inr (.boolean, vs)) => if j < 0 then none else (match vs[j.toNatClampNeg]? with
        | some x => some (pc + 1, .int x :: r, H, cells, slots)
        | none => none)
      | _ => none
    | _ => none
  | .iastore => match sk with
    | .int x :: .int j :: .ref k :: r => match H[k]? with
      | some (.inr (.int, vs)) => if oIn j vs.length = true then some (pc + 1, r, H.set k (.inr (.int, vs.set j.toNatClampNeg x)), cells, slots) else none
      | _ => none
    | _ => none
  | .bastore => match sk with
    | .int x :: .int j :: .ref k :: r => match H[k]? with
      | some (.inr (.boolean, vs)) => if oIn j vs.length = true then some (pc + 1, r, H.set k (.inr (.boolean, vs.set j.toNatClampNeg (x &&& 1))), cells, slots) else none
      | _ => none
    | _ => none
  | _ => none
def oCatS (sk : List Value) : Nat := (sk.map fun v => v.category).sum
/-- the calls -/
def oStep3 (KT : List oKl) (MT : List oMt) (callf : oCf) (R : Jvm.Room) (mx : Nat) (i : Instr) (p1 p2 pc : Nat) (ls : Array Slot) (sk : List Value) (H : List oObj) (cells slots : Nat) : Option (Nat × List Value × List oObj × Nat × Nat) :=
  match i with
  | .invokestatic _ => if p2 = 2 then (match sk with
      | .int nn :: .int dp :: .ref b :: .int sp :: .ref a :: r => (match H[a]? with
        | some (.inr (.int, vs)) => (match H[b]? with
          | some (.inr (.int, vd)) => if ls.size = mx ∧ ¬ sp < 0 ∧ ¬ dp < 0 ∧ ¬ nn < 0 ∧ sp.toNatClampNeg + nn.toNatClampNeg ≤ vs.length ∧ dp.toNatClampNeg + nn.toNatClampNeg ≤ vd.length ∧ vs.length < 2147483648 ∧ vd.length < 2147483648 ∧ 1 ≤ R.frames ∧ oCatS r + 18 ≤ R.locals then
              some (pc + 3, r, H.set b (.inr (.int, vd.take dp.toNatClampNeg ++ (vs.drop sp.toNatClampNeg).take nn.toNatClampNeg ++ vd.drop (dp.toNatClampNeg + nn.toNatClampNeg))), cells, slots) else none
          | _ => none)
        | _ => none)
      | _ => none)
    else (match MT[p1]? with
    | some (_, _, maxL, _, rm, n) =>
      if ls.size = mx ∧ n ≤ sk.length ∧ rm.frames + 1 ≤ R.frames ∧ oCatS (sk.drop n) + (maxL + 11) + rm.locals ≤ R.locals ∧ cells + rm.cells ≤ R.cells ∧ slots + rm.slots ≤ R.slots then
        (match callf p1 (sk.take n).reverse H with
        | some (v, H') => some (pc + 3, v.toList ++ sk.drop n, H', cells + rm.cells, slots + rm.slots)
        | none => none)
      else none
    | none => none)
  | .invokespecial _ =>
    if p2 = 1 then (match sk with
      | .ref _ :: r => if ls.size = mx ∧ 1 ≤ R.frames ∧ oCatS r + 12 ≤ R.locals then some (pc + 3, r, H, cells, slots) else none
      | _ => none)
    else (match MT[p1]? with
    | some (_, _, maxL, _, rm, n) => (match sk.drop n with
      | .ref k :: r =>
        if ls.size = mx ∧ rm.frames + 1 ≤ R.frames ∧ oCatS r + (maxL + 11) + rm.locals ≤ R.locals ∧ cells + rm.cells ≤ R.cells ∧ slots + rm.slots ≤ R.slots then
          (match callf p1 (.ref k :: (sk.take n).reverse) H with
          | some (v, H') => some (pc + 3, v.toList ++ r, H', cells + rm.cells, slots + rm.slots)
          | none => none)
        else none
      | _ => none)
    | none => none)
  | .invokevirtual _ => match MT[p1]? with
    | some (_, _, maxL, _, rm, n) => (match sk.drop n with
      | .ref k :: r => (match H[k]? with
        | some (.inl (c, _)) =>
          if c = p2 ∧ ls.size = mx ∧ rm.frames + 1 ≤ R.frames ∧ oCatS r + (maxL + 11) + rm.locals ≤ R.locals ∧ cells + rm.cells ≤ R.cells ∧ slots + rm.slots ≤ R.slots then
            (match callf p1 (.ref k :: (sk.take n).reverse) H with
            | some (v, H') => some (pc + 3, v.toList ++ r, H', cells + rm.cells, slots + rm.slots)
            | none => none)
          else none
        | _ => none)
      | _ => none)
    | none => none
  | _ => none
def oFetch : List oOp → Nat → Option (Instr × Nat × Nat)
  | [], _ => none
  | (q, r) :: t, pc => match Nat.beq q pc with
    | true => some r
    | false => oFetch t pc
def oStep (KT : List oKl) (CT : List Value) (MT : List oMt) (callf : oCf) (R : Jvm.Room) (mx : Nat) (op : Instr × Nat × Nat) : oSt → Option oSt
  | (pc, ls, sk, H, cells, slots) =>
    match oStep1 CT op.1 op.2.1 pc ls sk with
    | some (pc', ls', sk') => some (pc', ls', sk', H, cells, slots)
    | none => match oStep2 KT R op.1 op.2.1 op.2.2 pc sk H cells slots with
      | some (pc', sk', H', c', s') => some (pc', ls, sk', H', c', s')
      | none => match oStep3 KT MT callf R mx op.1 op.2.1 op.2.2 pc ls sk H cells slots with
        | some (pc', sk', H', c', s') => some (pc', ls, sk', H', c', s')
        | none => none
/-- runs till a return stands next, or the fuel is out -/
def oRun (KT : List oKl) (CT : List Value) (MT : List oMt) (callf : oCf) (R : Jvm.Room) (mx : Nat) (ops : List oOp) : Nat → oSt → Option oSt
  | 0, st => some st
  | n + 1, st => match oFetch ops st.1 with
    | none => none
    | some op => if oRetI op.1 = true then some st else match oStep KT CT MT callf R mx op st with
      | none => none
      | some st' => oRun KT CT MT callf R mx ops n st'
def oNar (rt : Option FieldType) (v : Value) : Bool := match rt with
  | some .int => true
  | some t => decide (narrow t v = v)
  | none => false
def oIntT (rt : Option FieldType) : Bool := match rt with
  | some .int | some .boolean | some .byte | some .char | some .short => true
  | _ => false
def oRefT (rt : Option FieldType) : Bool := match rt with
  | some t => t.isReference
  | _ => false
/-- what is returned where a return stands next -/
def oRet (q : oMt) (ops : List oOp) : oSt → Option (Option Value × List oObj)
  | (pc, _, sk, H, cells, slots) => if cells ≤ q.2.2.2.2.1.cells ∧ slots ≤ q.2.2.2.2.1.slots then (match oFetch ops pc with
    | some (.return_, _) => (match q.2.2.2.1, sk with
      | none, [] => some (none, H)
      | _, _ => none)
    | some (.ireturn, _) => (match sk with
      | .int x :: _ => if oIntT q.2.2.2.1 = true ∧ oNar q.2.2.2.1 (.int x) = true then some (some (.int x), H) else none
      | _ => none)
    | some (.lreturn, _) => (match sk with
      | .long x :: _ => if q.2.2.2.1 = some .long then some (some (.long x), H) else none
      | _ => none)
    | some (.areturn, _) => (match sk with
      | .ref k :: _ => if oRefT q.2.2.2.1 = true then some (some (.ref k), H) else none
      | .null :: _ => if oRefT q.2.2.2.1 = true then some (some .null, H) else none
      | _ => none)
    | _ => none) else none
def oBody (KT : List oKl) (CT : List Value) (MT : List oMt) (callf : oCf) (q : oMt) (ops : List oOp) (fuel : Nat) (vs : List Value) (H : List oObj) : Option (Option Value × List oObj) :=
  match oRun KT CT MT callf q.2.2.2.2.1 q.2.2.1 ops fuel (0, argsToLocals vs.toArray q.2.2.1, [], H, 0, 0) with
  | some st => oRet q ops st
  | none => none

/-! A5. what is asked of the tables, by program -/
def oHas (ws : List Jvm.Cond) (d : Jvm.Cond) : Bool := decide (d ∈ ws)
def oKOk (ws : List Jvm.Cond) (q : oKl) : Bool :=
  oHas ws (.instantiable q.1 q.2.1) && oHas ws (.initialized q.1) && q.2.2.all (fun f => oHas ws (if f.2.2.2 then .laysFinal q.1 q.1 f.1 f.2.1 else .lays q.1 q.1 f.1 f.2.1) && decide (parseFieldDescriptor f.2.1 = some f.2.2.1) && (match f.2.2.1 with | .float => false | .double => false | _ => true)) &&
    decide ((q.2.2.map (·.1)).Nodup)
def oNm (z : MethodName) (n : Nat) : Bool := decide (z.cls ≠ "java/lang/invoke/MethodHandle") && decide (z.cls ≠ "java/lang/invoke/VarHandle") && (match parseMethodDescriptor z.desc with | some sig => decide (sig.parameters.length = n) | none => false)
def oOpOk (ws : List Jvm.Cond) (KT : List oKl) (CT : List Value) (MT : List oMt) (y : MethodName) (bytes : ByteArray) (op : oOp) : Bool :=
  (match decode bytes op.1 with
  | .ok (i, n) => decide (i = op.2.1) && (decide (n = oLen op.2.1) || oSw op.2.1)
  | .error _ => false) &&
  (match op.2.1 with
  | .ldc j => (match CT[op.2.2.1]? with
    | some (.int x) => oHas ws (.constant y.cls j x)
    | _ => true)
  | .ldc2_w j => (match CT[op.2.2.1]? with
    | some (.long x) => oHas ws (.constantLong y.cls j x)
    | _ => true)
  | .getfield j => (match KT[op.2.2.1]? with
    | some (C, _, fs) => (match fs[op.2.2.2]? with
      | some (n, d, _, _) => oHas ws (.fieldLink y.cls j C n d)
      | none => true)
    | none => true)
  | .putfield j => (match KT[op.2.2.1]? with
    | some (C, _, fs) => (match fs[op.2.2.2]? with
      | some (n, d, _, fin) => oHas ws (.fieldLink y.cls j C n d) && (!fin || (decide (y.cls = C) && decide (y.name = "<init>")))
      | none => true)
    | none => true)
  | .new j => (match KT[op.2.2.1]? with
    | some (C, _, _) => oHas ws (.classLink y.cls j C)
    | none => true)
  | .newarray t => oHas ws (.arrayClass (newarray.typeOf t))
  | .invokestatic j => if op.2.2.2 = 2 then oHas ws (.methodLink y.cls j Jvm.Stand.acN) && oHas ws (.native Jvm.Stand.acN) && oHas ws (.static Jvm.Stand.acN) && oHas ws (.initialized "java/lang/System") else (match MT[op.2.2.1]? with
    | some (z, b, ml, rt, _, n) => oHas ws (.methodLink y.cls j z) && oHas ws (.static z) && oHas ws (.initialized z.cls) && oHas ws (.code z b ml rt) && oNm z n
    | none => true)
  | .invokespecial j => if op.2.2.2 = 1 then oHas ws (.methodLink y.cls j Lib.objectInit) && oHas ws (.instanceMethod Lib.objectInit) && oHas ws (.code Lib.objectInit ⟨#[0xb1]⟩ 1 none) else (match MT[op.2.2.1]? with
    | some (z, b, ml, rt, _, n) => decide (z.name = "<init>") && decide (rt = none) && oHas ws (.methodLink y.cls j z) && oHas ws (.instanceMethod z) && oHas ws (.initialized z.cls) && oHas ws (.code z b ml none) && oNm z n
    | none => true)
  | .invokevirtual j => (match MT[op.2.2.1]?, KT[op.2.2.2]? with
    | some (z, b, ml, rt, _, n), some (C, _, _) => oHas ws (.methodLink y.cls j z) && oHas ws (.declares z) && oHas ws (.selects C z z) && oHas ws (.instanceMethod z) && oHas ws (.initialized z.cls) && oHas ws (.code z b ml rt) && oNm z n
    | _, _ => true)
  | _ => true)

/-! A6. the model follows the machine: one step -/
section Sound
variable {p : Program} {l : Launch} {e : Env} {R : Jvm.Room} {s : State} {m : MethodId} {args : Array Value} {below : List Frame} {meth : Method} {c : Code} {T : State} {locs : List Loc} {cells slots : Nat} {Z : State} {a0 : Array Value} {n0 : Nat}
  {ws : List Jvm.Cond} {KT : List oKl} {CT : List Value} {MT : List oMt} {ad : List Addr} {own : String} {pc pc' : Nat} {ls ls' Ls : Array Slot} {sk sk' ST : List Value}
def oN1 (p : Program) (e : Env) (below : List Frame) (m : MethodId) (T : State) (ad : List Addr) (pc : Nat) (Ls : Array Slot) (ST : List Value) (q : Nat × Array Slot × List Value) : Prop :=
  ∃ Ls' ST', oLR ad q.2.1 Ls' ∧ oKR ad q.2.2 ST' ∧ ∀ target, Steps p.tables e below (T.setTop (mkF m q.1 Ls' ST')) target → Steps p.tables e below (T.setTop (mkF m pc Ls ST)) target
variable {q : Nat × Array Slot × List Value}
theorem oB_ok {f : Int32 → Int32 → Int32} (law : ∀ (x y : Int32) (r : List Value) (t : State), Steps p.tables e below (T.setTop (mkF m (pc + 1) Ls (.int (f x y) :: r))) t → Steps p.tables e below (T.setTop (mkF m pc Ls (.int y :: .int x :: r))) t)
    (hl : oLR ad ls Ls) (hk : oKR ad sk ST) (h : oB f pc ls sk = some q) : oN1 p e below m T ad pc Ls ST q := by
  unfold oB at h
  split at h
  · obtain ⟨_, _, rfl, rfl, _, _, rfl, rfl, hr⟩ := hk
    cases h
    exact ⟨Ls, _, hl, ⟨_, _, rfl, rfl, hr⟩, fun t k => law _ _ _ t k⟩
  · cases h
theorem oBL_ok {f : Int64 → Int64 → Int64} (law : ∀ (x y : Int64) (r : List Value) (t : State), Steps p.tables e below (T.setTop (mkF m (pc + 1) Ls (.long (f x y) :: r))) t → Steps p.tables e below (T.setTop (mkF m pc Ls (.long y :: .long x :: r))) t)
    (hl : oLR ad ls Ls) (hk : oKR ad sk ST) (h : oBL f pc ls sk = some q) : oN1 p e below m T ad pc Ls ST q := by
  unfold oBL at h
  split at h
  · obtain ⟨_, _, rfl, rfl, _, _, rfl, rfl, hr⟩ := hk
    cases h
    exact ⟨Ls, _, hl, ⟨_, _, rfl, rfl, hr⟩, fun t k => law _ _ _ t k⟩
  · cases h
theorem oU_ok {f : Int32 → Int32} (law : ∀ (x : Int32) (r : List Value) (t : State), Steps p.tables e below (T.setTop (mkF m (pc + 1) Ls (.int (f x) :: r))) t → Steps p.tables e below (T.setTop (mkF m pc Ls (.int x :: r))) t)
    (hl : oLR ad ls Ls) (hk : oKR ad sk ST) (h : oU f pc ls sk = some q) : oN1 p e below m T ad pc Ls ST q := by
  unfold oU at h
  split at h
  · obtain ⟨_, _, rfl, rfl, hr⟩ := hk
    cases h
    exact ⟨Ls, _, hl, ⟨_, _, rfl, rfl, hr⟩, fun t k => law _ _ t k⟩
  · cases h
theorem oLdI_ok {n k : Nat} (law : ∀ (x : Int32) (t : State), Ls[k]? = some (.val (.int x)) → Steps p.tables e below (T.setTop (mkF m (pc + n) Ls (.int x :: ST))) t → Steps p.tables e below (T.setTop (mkF m pc Ls ST)) t)
    (hl : oLR ad ls Ls) (hk : oKR ad sk ST) (h : oLdI n pc ls sk k = some q) : oN1 p e below m T ad pc Ls ST q := by
  unfold oLdI at h
  split at h
  · rename_i hq
    obtain ⟨_, h1, rfl⟩ := hl.ld hq
    cases h
    exact ⟨Ls, _, hl, ⟨_, _, rfl, rfl, hk⟩, fun t k => law _ t h1 k⟩
  · cases h
theorem oLdL_ok {n k : Nat} (law : ∀ (x : Int64) (t : State), Ls[k]? = some (.val (.long x)) → Steps p.tables e below (T.setTop (mkF m (pc + n) Ls (.long x :: ST))) t → Steps p.tables e below (T.setTop (mkF m pc Ls ST)) t)
    (hl : oLR ad ls Ls) (hk : oKR ad sk ST) (h : oLdL n pc ls sk k = some q) : oN1 p e below m T ad pc Ls ST q := by
  unfold oLdL at h
  split at h
  · rename_i hq
    obtain ⟨_, h1, rfl⟩ := hl.ld hq
    cases h
    exact ⟨Ls, _, hl, ⟨_, _, rfl, rfl, hk⟩, fun t k => law _ t h1 k⟩
  · cases h
theorem oLdA_ok {n k : Nat} (law : ∀ (v : Value) (t : State), v.isRef = true → Ls[k]? = some (.val v) → Steps p.tables e below (T.setTop (mkF m (pc + n) Ls (v :: ST))) t → Steps p.tables e below (T.setTop (mkF m pc Ls ST)) t)
    (hl : oLR ad ls Ls) (hk : oKR ad sk ST) (h : oLdA n pc ls sk k = some q) : oN1 p e below m T ad pc Ls ST q := by
  unfold oLdA at h
  split at h
  · rename_i hq
    obtain ⟨_, h1, a, h2, rfl⟩ := hl.ld hq
    cases h
    exact ⟨Ls, _, hl, ⟨_, _, rfl, ⟨a, h2, rfl⟩, hk⟩, fun t k => law _ t rfl h1 k⟩
  · rename_i hq
    obtain ⟨_, h1, rfl⟩ := hl.ld hq
    cases h
    exact ⟨Ls, _, hl, ⟨_, _, rfl, rfl, hk⟩, fun t k => law _ t rfl h1 k⟩
  · cases h
theorem oStI_ok {n k : Nat} (law : ∀ (x : Int32) (r : List Value) (l' : Array Slot) (t : State), storeLocals Ls k (.int x) = some l' → Steps p.tables e below (T.setTop (mkF m (pc + n) l' r)) t → Steps p.tables e below (T.setTop (mkF m pc Ls (.int x :: r))) t)
    (hl : oLR ad ls Ls) (hk : oKR ad sk ST) (h : oStI n pc ls k sk = some q) : oN1 p e below m T ad pc Ls ST q := by
  unfold oStI at h
  split at h
  · obtain ⟨_, _, rfl, rfl, hr⟩ := hk
    obtain ⟨l1, e1, rfl⟩ := Option.map_eq_some_iff.mp h
    obtain ⟨c1, e2, r1⟩ := hl.store (show oVR ad (.int _) (.int _) from rfl) e1
    exact ⟨c1, _, r1, hr, fun t k => law _ _ _ t e2 k⟩
  · cases h
theorem oStL_ok {n k : Nat} (law : ∀ (x : Int64) (r : List Value) (l' : Array Slot) (t : State), storeLocals Ls k (.long x) = some l' → Steps p.tables e below (T.setTop (mkF m (pc + n) l' r)) t → Steps p.tables e below (T.setTop (mkF m pc Ls (.long x :: r))) t)
    (hl : oLR ad ls Ls) (hk : oKR ad sk ST) (h : oStL n pc ls k sk = some q) : oN1 p e below m T ad pc Ls ST q := by
  unfold oStL at h
  split at h
  · obtain ⟨_, _, rfl, rfl, hr⟩ := hk
    obtain ⟨l1, e1, rfl⟩ := Option.map_eq_some_iff.mp h
    obtain ⟨c1, e2, r1⟩ := hl.store (show oVR ad (.long _) (.long _) from rfl) e1
    exact ⟨c1, _, r1, hr, fun t k => law _ _ _ t e2 k⟩
  · cases h
theorem oStA_ok {n k : Nat} (law : ∀ (v : Value) (r : List Value) (l' : Array Slot) (t : State), v.isRef = true → storeLocals Ls k v = some l' → Steps p.tables e below (T.setTop (mkF m (pc + n) l' r)) t → Steps p.tables e below (T.setTop (mkF m pc Ls (v :: r))) t)
    (hl : oLR ad ls Ls) (hk : oKR ad sk ST) (h : oStA n pc ls k sk = some q) : oN1 p e below m T ad pc Ls ST q := by
  unfold oStA at h
  split at h
  · obtain ⟨_, _, rfl, ⟨a, ha, rfl⟩, hr⟩ := hk
    obtain ⟨l1, e1, rfl⟩ := Option.map_eq_some_iff.mp h
    obtain ⟨c1, e2, r1⟩ := hl.store (show oVR ad (.ref _) (.ref a) from ⟨a, ha, rfl⟩) e1
    exact ⟨c1, _, r1, hr, fun t k => law _ _ _ t rfl e2 k⟩
  · obtain ⟨_, _, rfl, rfl, hr⟩ := hk
    obtain ⟨l1, e1, rfl⟩ := Option.map_eq_some_iff.mp h
    obtain ⟨c1, e2, r1⟩ := hl.store (show oVR ad .null .null from rfl) e1
    exact ⟨c1, _, r1, hr, fun t k => law _ _ _ t rfl e2 k⟩
  · cases h
theorem oJmp_ok {o : Int} {r rs : List Value} (law : ∀ t, 0 ≤ (pc : Int) + o → Steps p.tables e below (T.setTop (mkF m ((pc : Int) + o).toNat Ls rs)) t → Steps p.tables e below (T.setTop (mkF m pc Ls ST)) t)
    (hl : oLR ad ls Ls) (hr : oKR ad r rs) (h : oJmp pc o ls r = some q) : oN1 p e below m T ad pc Ls ST q := by
  unfold oJmp at h
  split at h
  · rename_i ho
    cases h
    exact ⟨Ls, _, hl, hr, fun t k => law t ho k⟩
  · cases h
theorem oC1_cat {v w : Value} (h : oC1 v = true) (hv : oVR ad v w) : w.category = 1 := by rw [hv.cat]; simpa [oC1] using h
/-- two laws of our own -/
theorem oDupX2 (X : Stand p l e R s m args below meth c T locs cells slots) (hx : p.tables.exec = Jvm.exec) {g : JFrame} (hg : g.method = m) {x y z : Value} {rest : List Value} (hd : decode c.code g.pc = .ok (.dup_x2, 1)) (hs : g.stack = x :: y :: z :: rest) (h1 : x.category = 1) (h2 : y.category = 1) (h3 : z.category = 1) {target : State}
    (hr : Steps p.tables e below (T.setTop { g with pc := g.pc + 1, stack := x :: y :: z :: x :: rest }) target) : Steps p.tables e below (T.setTop g) target := by
  subst hg
  jvm_step X.here [X.here.top, hx, hd, hs, h1, h2, h3, dup_x2.sem]
  exact hr
theorem oLsw (X : Stand p l e R s m args below meth c T locs cells slots) (hx : p.tables.exec = Jvm.exec) {g : JFrame} (hg : g.method = m) {x : Int32} {rest : List Value} {dflt : Int} {prs : Array (Int × Int)} {n : Nat} (hd : decode c.code g.pc = .ok (.lookupswitch dflt prs, n)) (hs : g.stack = .int x :: rest)
    (hp : (prs.toList.zip (prs.toList.drop 1)).all (fun q => decide (q.1.1 < q.2.1)) = true) (ho : 0 ≤ (g.pc : Int) + lookupswitch.offset prs.toList dflt x.toInt) {target : State}
    (hr : Steps p.tables e below (T.setTop { g with pc := ((g.pc : Int) + lookupswitch.offset prs.toList dflt x.toInt).toNat, stack := rest }) target) : Steps p.tables e below (T.setTop g) target := by
  subst hg
  jvm_step X.here [X.here.top, hx, hd, hs, lookupswitch.wp_chain, hp, ho]
  exact ⟨by simpa using hp, hr⟩
theorem oStep1_ok (X : Stand p l e R s m args below meth c T locs cells slots) (hx : p.tables.exec = Jvm.exec) (hZ : Z.Warmed39 s.vm) (hown : s.vm.findClass own = some m.cls) (hw : ∀ d ∈ ws, d.before a0 Z = true) {i : Instr} {p1 : Nat}
    (hd : ∃ n, decode c.code pc = .ok (i, n) ∧ (n = oLen i ∨ oSw i = true)) (hc : ∀ j, i = .ldc j → ∀ x, CT[p1]? = some (.int x) → (Jvm.Cond.constant own j x) ∈ ws) (hc2 : ∀ j, i = .ldc2_w j → ∀ x, CT[p1]? = some (.long x) → (Jvm.Cond.constantLong own j x) ∈ ws)
    (hl : oLR ad ls Ls) (hk : oKR ad sk ST) (h : oStep1 CT i p1 pc ls sk = some q) : oN1 p e below m T ad pc Ls ST q := by
  obtain ⟨n, hd, hn⟩ := hd
  cases i
  case lookupswitch dflt prs =>
    simp only [oStep1] at h
    split at h
    · obtain ⟨_, _, rfl, rfl, hr⟩ := hk
      split at h
      · rename_i hp
        exact oJmp_ok (fun t ho k => oLsw X hx (g := mkF m pc Ls _) rfl hd rfl hp ho k) hl hr h
      · cases h
    · cases h
  all_goals (have hn' := hn.resolve_right (fun q => Bool.false_ne_true q); subst hn')
  case iload_n k => exact oLdI_ok (fun x t h1 k => XS.iloadN X.here hx rfl hd h1 k) hl hk h
  case iload k => exact oLdI_ok (fun x t h1 k => XS.iload X.here hx rfl hd h1 k) hl hk h
  case lload_n k => exact oLdL_ok (fun x t h1 k => XS.lloadN X.here hx rfl hd h1 k) hl hk h
  case lload k => exact oLdL_ok (fun x t h1 k => XS.lload X.here hx rfl hd h1 k) hl hk h
  case aload_n k => exact oLdA_ok (fun v t hv h1 k => XS.aloadN X.here hx rfl hd h1 hv k) hl hk h
  case aload k => exact oLdA_ok (fun v t hv h1 k => XS.aload X.here hx rfl hd h1 hv k) hl hk h
  case istore_n k => exact oStI_ok (fun x r l' t h1 k => XS.istoreN X.here hx rfl hd rfl h1 k) hl hk h
  case istore k => exact oStI_ok (fun x r l' t h1 k => XS.istore X.here hx rfl hd rfl h1 k) hl hk h
  case lstore_n k => exact oStL_ok (fun x r l' t h1 k => XS.lstoreN X.here hx rfl hd rfl h1 k) hl hk h
  case lstore k => exact oStL_ok (fun x r l' t h1 k => XS.lstore X.here hx rfl hd rfl h1 k) hl hk h
  case astore_n k => exact oStA_ok (fun v r l' t hv h1 k => XS.astoreN X.here hx rfl hd rfl hv h1 k) hl hk h
  case astore k => exact oStA_ok (fun v r l' t hv h1 k => XS.astore X.here hx rfl hd rfl hv h1 k) hl hk h
  case iinc k n =>
    simp only [oStep1] at h
    split at h
    · rename_i hq
      obtain ⟨_, h1, rfl⟩ := hl.ld hq
      obtain ⟨l1, e1, rfl⟩ := Option.map_eq_some_iff.mp h
      obtain ⟨c1, e2, r1⟩ := hl.store (show oVR ad (.int _) (.int _) from rfl) e1
      exact ⟨c1, _, r1, hk, fun t k => XS.iinc X.here hx rfl hd h1 e2 k⟩
    · cases h
  case iconst n => cases h; exact ⟨Ls, _, hl, ⟨_, _, rfl, rfl, hk⟩, fun t k => XS.iconst X.here hx rfl hd k⟩
  case bipush n => cases h; exact ⟨Ls, _, hl, ⟨_, _, rfl, rfl, hk⟩, fun t k => XS.bipush X.here hx rfl hd k⟩
  case sipush n => cases h; exact ⟨Ls, _, hl, ⟨_, _, rfl, rfl, hk⟩, fun t k => XS.sipush X.here hx rfl hd k⟩
  case lconst n => cases h; exact ⟨Ls, _, hl, ⟨_, _, rfl, rfl, hk⟩, fun t k => XT.lconst X.here hx rfl hd k⟩
  case aconst_null => cases h; exact ⟨Ls, _, hl, ⟨_, _, rfl, rfl, hk⟩, fun t k => XS.aconstNull X.here hx rfl hd k⟩
  case ldc j =>
    simp only [oStep1] at h
    split at h
    · rename_i hq
      cases h
      exact ⟨Ls, _, hl, ⟨_, _, rfl, rfl, hk⟩, fun t k => X.ldcInt hx hown (mvT hZ (hw _ (hc _ rfl _ hq))) (g := mkF m pc Ls ST) rfl hd t k⟩
    · cases h
  case ldc2_w j =>
    simp only [oStep1] at h
    split at h
    · rename_i hq
      cases h
      exact ⟨Ls, _, hl, ⟨_, _, rfl, rfl, hk⟩, fun t k => X.ldc2Long hx hown (mvT hZ (hw _ (hc2 _ rfl _ hq))) (g := mkF m pc Ls ST) rfl hd t k⟩
    · cases h
  case iadd => exact oB_ok (fun x y r t k => XS.iadd X.here hx rfl hd rfl k) hl hk h
  case isub => exact oB_ok (fun x y r t k => XS.isub X.here hx rfl hd rfl k) hl hk h
  case imul => exact oB_ok (fun x y r t k => XS.imul X.here hx rfl hd rfl k) hl hk h
  case iand => exact oB_ok (fun x y r t k => XS.iand X.here hx rfl hd rfl k) hl hk h
  case ior => exact oB_ok (fun x y r t k => XT.ior X.here hx rfl hd rfl k) hl hk h
  case ixor => exact oB_ok (fun x y r t k => XT.ixor X.here hx rfl hd rfl k) hl hk h
  case ishl => exact oB_ok (fun x y r t k => XT.ishl X.here hx rfl hd rfl k) hl hk h
  case ishr => exact oB_ok (fun x y r t k => XT.ishr X.here hx rfl hd rfl k) hl hk h
  case iushr => exact oB_ok (fun x y r t k => XT.iushr X.here hx rfl hd rfl k) hl hk h
  case ladd => exact oBL_ok (fun x y r t k => XT.ladd X.here hx rfl hd rfl k) hl hk h
  case lsub => exact oBL_ok (fun x y r t k => XT.lsub X.here hx rfl hd rfl k) hl hk h
  case lmul => exact oBL_ok (fun x y r t k => XT.lmul X.here hx rfl hd rfl k) hl hk h
  case land => exact oBL_ok (fun x y r t k => XT.land X.here hx rfl hd rfl k) hl hk h
  case idiv =>
    simp only [oStep1] at h
    split at h
    · obtain ⟨_, _, rfl, rfl, _, _, rfl, rfl, hr⟩ := hk
      split at h
      · cases h
      · rename_i hy
        cases h
        exact ⟨Ls, _, hl, ⟨_, _, rfl, rfl, hr⟩, fun t k => XS.idiv X.here hx rfl hd rfl hy k⟩
    · cases h
  case irem =>
    simp only [oStep1] at h
    split at h
    · obtain ⟨_, _, rfl, rfl, _, _, rfl, rfl, hr⟩ := hk
      split at h
      · cases h
      · rename_i hy
        cases h
        exact ⟨Ls, _, hl, ⟨_, _, rfl, rfl, hr⟩, fun t k => iremM X hx (g := mkF m pc Ls _) rfl hd rfl hy k⟩
    · cases h
  case ldiv =>
    simp only [oStep1] at h
    split at h
    · obtain ⟨_, _, rfl, rfl, _, _, rfl, rfl, hr⟩ := hk
      split at h
      · cases h
      · rename_i hy
        cases h
        exact ⟨Ls, _, hl, ⟨_, _, rfl, rfl, hr⟩, fun t k => XT.ldiv X.here hx rfl hd rfl hy k⟩
    · cases h
  case lshr =>
    simp only [oStep1] at h
    split at h
    · obtain ⟨_, _, rfl, rfl, _, _, rfl, rfl, hr⟩ := hk
      cases h
      exact ⟨Ls, _, hl, ⟨_, _, rfl, rfl, hr⟩, fun t k => XS.lshr X.here hx rfl hd rfl k⟩
    · cases h
  case lcmp =>
    simp only [oStep1] at h
    split at h
    · obtain ⟨_, _, rfl, rfl, _, _, rfl, rfl, hr⟩ := hk
      cases h
      exact ⟨Ls, _, hl, ⟨_, _, rfl, rfl, hr⟩, fun t k => XT.lcmp X.here hx rfl hd rfl k⟩
    · cases h
  case i2c => exact oU_ok (fun x r t k => XT.i2c X.here hx rfl hd rfl k) hl hk h
  case i2b => exact oU_ok (fun x r t k => XT.i2b X.here hx rfl hd rfl k) hl hk h
  case i2l =>
    simp only [oStep1] at h
    split at h
    · obtain ⟨_, _, rfl, rfl, hr⟩ := hk
      cases h
      exact ⟨Ls, _, hl, ⟨_, _, rfl, rfl, hr⟩, fun t k => XT.i2l X.here hx rfl hd rfl k⟩
    · cases h
  case l2i =>
    simp only [oStep1] at h
    split at h
    · obtain ⟨_, _, rfl, rfl, hr⟩ := hk
      cases h
      exact ⟨Ls, _, hl, ⟨_, _, rfl, rfl, hr⟩, fun t k => XT.l2i X.here hx rfl hd rfl k⟩
    · cases h
  case dup =>
    simp only [oStep1] at h
    split at h
    · obtain ⟨w, _, rfl, hv, hr⟩ := hk
      split at h
      · rename_i h1
        cases h
        exact ⟨Ls, _, hl, ⟨_, _, rfl, hv, _, _, rfl, hv, hr⟩, fun t k => XS.dup X.here hx rfl hd rfl (oC1_cat h1 hv) k⟩
      · cases h
    · cases h
  case pop =>
    simp only [oStep1] at h
    split at h
    · obtain ⟨w, _, rfl, hv, hr⟩ := hk
      split at h
      · rename_i h1
        cases h
        exact ⟨Ls, _, hl, hr, fun t k => XT.pop X.here hx rfl hd rfl (oC1_cat h1 hv) k⟩
      · cases h
    · cases h
  case dup_x1 =>
    simp only [oStep1] at h
    split at h
    · obtain ⟨w, _, rfl, hv, w2, _, rfl, hv2, hr⟩ := hk
      split at h
      · rename_i h1
        rw [Bool.and_eq_true] at h1
        cases h
        exact ⟨Ls, _, hl, ⟨_, _, rfl, hv, _, _, rfl, hv2, _, _, rfl, hv, hr⟩, fun t k => XT.dupX1 X.here hx rfl hd rfl (oC1_cat h1.1 hv) (oC1_cat h1.2 hv2) k⟩
      · cases h
    · cases h
  case dup2 =>
    simp only [oStep1] at h
    split at h
    · obtain ⟨w, _, rfl, hv, w2, _, rfl, hv2, hr⟩ := hk
      split at h
      · rename_i h1
        rw [Bool.and_eq_true] at h1
        cases h
        exact ⟨Ls, _, hl, ⟨_, _, rfl, hv, _, _, rfl, hv2, _, _, rfl, hv, _, _, rfl, hv2, hr⟩, fun t k => XT.dup2 X.here hx rfl hd rfl (oC1_cat h1.1 hv) (oC1_cat h1.2 hv2) k⟩
      · cases h
    · cases h
  case dup_x2 =>
    simp only [oStep1] at h
    split at h
    · obtain ⟨w, _, rfl, hv, w2, _, rfl, hv2, w3, _, rfl, hv3, hr⟩ := hk
      split at h
      · rename_i h1
        rw [Bool.and_eq_true, Bool.and_eq_true] at h1
        cases h
        exact ⟨Ls, _, hl, ⟨_, _, rfl, hv, _, _, rfl, hv2, _, _, rfl, hv3, _, _, rfl, hv, hr⟩, fun t k => oDupX2 X hx (g := mkF m pc Ls _) rfl hd rfl (oC1_cat h1.1 hv) (oC1_cat h1.2.1 hv2) (oC1_cat h1.2.2 hv3) k⟩
      · cases h
    · cases h
  case checkcast j =>
    simp only [oStep1] at h
    split at h
    · obtain ⟨_, _, rfl, rfl, hr⟩ := hk
      cases h
      exact ⟨Ls, _, hl, ⟨_, _, rfl, rfl, hr⟩, fun t k => X.checkcastNull hx (g := mkF m pc Ls _) rfl rfl hd t k⟩
    · cases h
  case goto o => exact oJmp_ok (fun t ho k => XS.goto X.here hx rfl rfl hd ho rfl k) hl hk h
  case ifCond cd o =>
    simp only [oStep1] at h
    split at h
    · obtain ⟨_, _, rfl, rfl, hr⟩ := hk
      split at h
      · rename_i hc
        exact oJmp_ok (fun t ho k => XS.ifYes X.here hx rfl rfl hd rfl hc ho rfl k) hl hr h
      · rename_i hc
        cases h
        exact ⟨Ls, _, hl, hr, fun t k => XS.ifNo X.here hx rfl hd rfl (Bool.eq_false_iff.mpr hc) k⟩
    · cases h
  case if_icmp cd o =>
    simp only [oStep1] at h
    split at h
    · obtain ⟨_, _, rfl, rfl, _, _, rfl, rfl, hr⟩ := hk
      split at h
      · rename_i hc
        exact oJmp_ok (fun t ho k => XS.icmpYes X.here hx rfl rfl hd rfl hc ho rfl k) hl hr h
      · rename_i hc
        cases h
        exact ⟨Ls, _, hl, hr, fun t k => XS.icmpNo X.here hx rfl hd rfl (Bool.eq_false_iff.mpr hc) k⟩
    · cases h
  all_goals exact oNone h
/-! steps on the heap -/
theorem oHas_mem {d : Jvm.Cond} (h : oHas ws d = true) : d ∈ ws := of_decide_eq_true h
theorem oK_facts (hK : KT.all (oKOk ws) = true) {k n : Nat} {C : String} {fs : List oFd} (hk : KT[k]? = some (C, n, fs)) :
    Jvm.Cond.instantiable C n ∈ ws ∧ Jvm.Cond.initialized C ∈ ws ∧ (∀ (i : Nat) (f : oFd), fs[i]? = some f → (if f.2.2.2 = true then Jvm.Cond.laysFinal C C f.1 f.2.1 else Jvm.Cond.lays C C f.1 f.2.1) ∈ ws ∧ parseFieldDescriptor f.2.1 = some f.2.2.1 ∧ f.2.2.1 ≠ .float ∧ f.2.2.1 ≠ .double) ∧
      ∀ (i j : Nat) (f g : oFd), fs[i]? = some f → fs[j]? = some g → i ≠ j → f.1 ≠ g.1 := by
  have h := List.all_eq_true.mp hK _ (List.mem_of_getElem? hk)
  simp only [oKOk, Bool.and_eq_true, decide_eq_true_eq] at h
  obtain ⟨⟨⟨h1, h2⟩, h3⟩, h4⟩ := h
  refine ⟨oHas_mem h1, oHas_mem h2, fun i f hf => ?_, fun i j f g hf hg hij => ?_⟩
  · have q := List.all_eq_true.mp h3 _ (List.mem_of_getElem? hf)
    simp only [Bool.and_eq_true, decide_eq_true_eq] at q
    obtain ⟨⟨q1, q2⟩, q3⟩ := q
    refine ⟨oHas_mem q1, q2, fun e => ?_, fun e => ?_⟩ <;> (rw [e] at q3; cases q3)
  · obtain ⟨hi, ei⟩ := List.getElem?_eq_some_iff.mp hf
    obtain ⟨hj, ej⟩ := List.getElem?_eq_some_iff.mp hg
    have key := List.pairwise_iff_getElem.mp h4
    rcases Nat.lt_or_gt_of_ne hij with q | q
    · have r := key i j (by simpa using hi) (by simpa using hj) q
      simpa [ei, ej] using r
    · have r := key j i (by simpa using hj) (by simpa using hi) q
      simpa [ei, ej] using Ne.symm r
theorem oLaid (hw : ∀ d ∈ ws, d.before a0 Z = true) {C n d : String} {b : Bool} (h : (if b = true then Jvm.Cond.laysFinal C C n d else Jvm.Cond.lays C C n d) ∈ ws) : Laid Z a0 C C n d := by
  cases b
  · exact Or.inl (hw _ h)
  · exact Or.inr (hw _ h)
theorem oOR.putf {h h' : Heap} {a : Addr} {k i n : Nat} {vs : List Value} {C : String} {fs : List oFd} {f : oFd} {v' w' : Value} (hK : KT.all (oKOk ws) = true) (hw : ∀ d ∈ ws, d.before a0 Z = true) (o : oOR Z h ad KT a (.inl (k, vs))) (hk : KT[k]? = some (C, n, fs)) (hf : fs[i]? = some f)
    (W : Wr h h' a (Jvm.RoadKit.slotOf Z C f.1 f.2.1) w') (hv : oVR ad v' w') : oOR Z h' ad KT a (.inl (k, vs.set i v')) := by
  obtain ⟨C1, n1, fs1, e1, e0, E, F⟩ := o
  cases hk.symm.trans e1
  obtain ⟨-, -, K3, K4⟩ := oK_facts hK hk
  refine ⟨C, n, fs, hk, by rw [List.length_set]; exact e0, E.wr W, fun j g v hg hj => ?_⟩
  by_cases ij : i = j
  · subst ij
    cases hf.symm.trans hg
    have hlt : i < vs.length := by
      have := (List.getElem?_eq_some_iff.mp hj).1
      simpa using this
    rw [List.getElem?_set_self hlt] at hj
    cases hj
    obtain ⟨w0, -, F0⟩ := F i f vs[i] hf (List.getElem?_eq_getElem hlt)
    exact ⟨w', hv, F0.same W⟩
  · rw [List.getElem?_set_ne ij] at hj
    obtain ⟨w0, q1, F0⟩ := F j g v hg hj
    obtain ⟨r1, r2, -⟩ := K3 j g hg
    obtain ⟨t1, t2, -⟩ := K3 i f hf
    exact ⟨w0, q1, F0.other W (Or.inr (slot_ne (oLaid hw r1) (oLaid hw t1) (K4 j i g f hg hf (Ne.symm ij)) r2 t2))⟩
theorem oVR.nar {v w : Value} {ty : FieldType} (hf : oFit ty v = true) (hv : oVR ad v w) : oVR ad (narrow ty v) (narrow ty w) ∧ fits ty (narrow ty w) = true := by
  cases v
  case int x =>
    have e : w = .int x := hv
    subst e
    cases ty
    case boolean => exact ⟨rfl, fits_nar_bool x⟩
    case byte => exact ⟨rfl, fits_nar_byte x⟩
    case char => exact ⟨rfl, fits_nar_char x⟩
    case short => exact ⟨rfl, fits_nar_short x⟩
    case int => exact ⟨rfl, rfl⟩
    all_goals exact absurd hf Bool.false_ne_true
  case long x =>
    have e : w = .long x := hv
    subst e
    cases ty
    case long => exact ⟨rfl, rfl⟩
    all_goals exact absurd hf Bool.false_ne_true
  case null =>
    have e : w = .null := hv
    subst e
    cases ty
    case object => exact ⟨rfl, rfl⟩
    case array => exact ⟨rfl, rfl⟩
    all_goals exact absurd hf Bool.false_ne_true
  case ref k =>
    obtain ⟨a, h1, e⟩ : ∃ a, ad[k]? = some a ∧ w = .ref a := hv
    subst e
    cases ty
    case object => exact ⟨⟨a, h1, rfl⟩, rfl⟩
    case array => exact ⟨⟨a, h1, rfl⟩, rfl⟩
    all_goals exact absurd hf Bool.false_ne_true
  all_goals (cases ty <;> exact absurd hf Bool.false_ne_true)
theorem oDef {ty : FieldType} (h1 : ty ≠ .float) (h2 : ty ≠ .double) : oVR ad (defaultValue ty) (defaultValue ty) := by
  cases ty <;> first | rfl | (exact absurd rfl h1) | (exact absurd rfl h2)
theorem oSz {c : Cell} {vs : List Int32} (h : c.slots = (vs.map Value.int).toArray) : c.slots.size = vs.length := by rw [h]; simp
theorem oAt' {c : Cell} {vs : List Int32} (h : c.slots = (vs.map Value.int).toArray) (j : Nat) : c.slots[j]? = (vs[j]?).map Value.int := by rw [h]; simp
theorem oSet {c : Cell} {vs : List Int32} (h : c.slots = (vs.map Value.int).toArray) (j : Nat) (x : Int32) : (c.setSlot j (.int x)).slots = ((vs.set j x).map Value.int).toArray := by
  show c.slots.setIfInBounds j (.int x) = _
  rw [h, List.setIfInBounds_toArray, List.map_set]
theorem oIn_spec {j : Int32} {n : Nat} (h : oIn j n = true) : ¬ j < 0 ∧ j.toNatClampNeg < n := by simpa [oIn] using h
theorem oBnd {j : Int32} {c : Cell} {vs : List Int32} (h : c.slots = (vs.map Value.int).toArray) (h1 : ¬ j < 0) (h2 : j.toNatClampNeg < vs.length) : ¬ (j < 0 ∨ c.slots.size ≤ j.toNatClampNeg) := by
  rw [oSz h]; rintro (q | q)
  · exact h1 q
  · omega
variable {H : List oObj}
def oN2 (p : Program) (l : Launch) (e : Env) (R : Jvm.Room) (s : State) (m : MethodId) (args : Array Value) (below : List Frame) (meth : Method) (c : Code) (Z : State) (n0 : Nat) (KT : List oKl) (T : State) (ad : List Addr) (pc : Nat) (Ls : Array Slot) (ST : List Value) (q : Nat × List Value × List oObj × Nat × Nat) : Prop :=
  ∃ T' locs' ST' ad', Stand p l e R s m args below meth c T' locs' q.2.2.2.1 q.2.2.2.2 ∧ Fr n0 locs' ∧ n0 ≤ T'.heap.size ∧ oPre ad ad' ∧ oKR ad' q.2.1 ST' ∧ oHR Z T'.heap n0 ad' KT q.2.2.1 ∧
    ∀ target, Steps p.tables e below (T'.setTop (mkF m q.1 Ls ST')) target → Steps p.tables e below (T.setTop (mkF m pc Ls ST)) target
variable {y : MethodName} {bytes : ByteArray} {j p1 p2 : Nat}
/-! what 'oOpOk' says, by the instruction -/
theorem oOk_dec {i : Instr} (h : oOpOk ws KT CT MT y bytes (pc, i, p1, p2) = true) : ∃ n, decode bytes pc = .ok (i, n) ∧ (n = oLen i ∨ oSw i = true) := by
  have h1 := (Bool.and_eq_true_iff.mp h).1
  dsimp only at h1
  split at h1
  · rename_i i' n' hdec
    simp only [Bool.and_eq_true, decide_eq_true_eq, Bool.or_eq_true] at h1
    obtain ⟨rfl, h2⟩ := h1
    exact ⟨n', hdec, h2⟩
  · cases h1
theorem oOk_ldc (h : oOpOk ws KT CT MT y bytes (pc, .ldc j, p1, p2) = true) {x : Int32} (hk : CT[p1]? = some (.int x)) : Jvm.Cond.constant y.cls j x ∈ ws := by
  have h2 := (Bool.and_eq_true_iff.mp h).2
  simp only [hk] at h2
  exact oHas_mem h2
theorem oOk_ldc2 (h : oOpOk ws KT CT MT y bytes (pc, .ldc2_w j, p1, p2) = true) {x : Int64} (hk : CT[p1]? = some (.long x)) : Jvm.Cond.constantLong y.cls j x ∈ ws := by
  have h2 := (Bool.and_eq_true_iff.mp h).2
  simp only [hk] at h2
  exact oHas_mem h2
theorem oOk_get (h : oOpOk ws KT CT MT y bytes (pc, .getfield j, p1, p2) = true) {C : String} {n : Nat} {fs : List oFd} {f : oFd} (hk : KT[p1]? = some (C, n, fs)) (hf : fs[p2]? = some f) : Jvm.Cond.fieldLink y.cls j C f.1 f.2.1 ∈ ws := by
  have h2 := (Bool.and_eq_true_iff.mp h).2
  obtain ⟨f1, f2, f3, f4⟩ := f
  simp only [hk, hf] at h2
  exact oHas_mem h2
theorem oOk_put (h : oOpOk ws KT CT MT y bytes (pc, .putfield j, p1, p2) = true) {C : String} {n : Nat} {fs : List oFd} {f : oFd} (hk : KT[p1]? = some (C, n, fs)) (hf : fs[p2]? = some f) : Jvm.Cond.fieldLink y.cls j C f.1 f.2.1 ∈ ws ∧ (f.2.2.2 = true → y.cls = C ∧ y.name = "<init>") := by
  have h2 := (Bool.and_eq_true_iff.mp h).2
  obtain ⟨f1, f2, f3, f4⟩ := f
  simp only [hk, hf, Bool.and_eq_true, Bool.or_eq_true, Bool.not_eq_true', decide_eq_true_eq] at h2
  refine ⟨oHas_mem h2.1, fun q => ?_⟩
  rcases h2.2 with r | r
  · dsimp only at q; rw [q] at r; cases r
  · exact r
theorem oOk_new (h : oOpOk ws KT CT MT y bytes (pc, .new j, p1, p2) = true) {C : String} {n : Nat} {fs : List oFd} (hk : KT[p1]? = some (C, n, fs)) : Jvm.Cond.classLink y.cls j C ∈ ws := by
  have h2 := (Bool.and_eq_true_iff.mp h).2
  simp only [hk] at h2
  exact oHas_mem h2
theorem oOk_newarr {t : ArrayType} (h : oOpOk ws KT CT MT y bytes (pc, .newarray t, p1, p2) = true) : Jvm.Cond.arrayClass (newarray.typeOf t) ∈ ws := oHas_mem (Bool.and_eq_true_iff.mp h).2
theorem oNm_spec {z : MethodName} {n : Nat} (h : oNm z n = true) : (z.cls ≠ "java/lang/invoke/MethodHandle" ∧ z.cls ≠ "java/lang/invoke/VarHandle") ∧ ∀ sig, parseMethodDescriptor z.desc = some sig → sig.parameters.length = n := by
  simp only [oNm, Bool.and_eq_true, decide_eq_true_eq] at h
  refine ⟨h.1, fun sig hs => ?_⟩
  have h2 := h.2
  rw [hs] at h2
  exact of_decide_eq_true h2
variable {z : MethodName} {zb : ByteArray} {ml zn : Nat} {rt : Option FieldType} {rm : Jvm.Room}
theorem oOk_copy (h : oOpOk ws KT CT MT y bytes (pc, .invokestatic j, p1, 2) = true) :
    Jvm.Cond.methodLink y.cls j Jvm.Stand.acN ∈ ws ∧ Jvm.Cond.native Jvm.Stand.acN ∈ ws ∧ Jvm.Cond.static Jvm.Stand.acN ∈ ws ∧ Jvm.Cond.initialized "java/lang/System" ∈ ws := by
  have h2 := (Bool.and_eq_true_iff.mp h).2
  simp only [if_true, Bool.and_eq_true] at h2
  exact ⟨oHas_mem h2.1.1.1, oHas_mem h2.1.1.2, oHas_mem h2.1.2, oHas_mem h2.2⟩
theorem oOk_static (h : oOpOk ws KT CT MT y bytes (pc, .invokestatic j, p1, p2) = true) (hp : ¬ p2 = 2) (hk : MT[p1]? = some (z, zb, ml, rt, rm, zn)) :
    Jvm.Cond.methodLink y.cls j z ∈ ws ∧ Jvm.Cond.static z ∈ ws ∧ Jvm.Cond.initialized z.cls ∈ ws ∧ Jvm.Cond.code z zb ml rt ∈ ws ∧ oNm z zn = true := by
  have h2 := (Bool.and_eq_true_iff.mp h).2
  simp only [hk, if_neg hp, Bool.and_eq_true] at h2
  obtain ⟨⟨⟨⟨q1, q2⟩, q3⟩, q4⟩, q5⟩ := h2
  exact ⟨oHas_mem q1, oHas_mem q2, oHas_mem q3, oHas_mem q4, q5⟩
theorem oOk_init (h : oOpOk ws KT CT MT y bytes (pc, .invokespecial j, p1, 1) = true) :
    Jvm.Cond.methodLink y.cls j Lib.objectInit ∈ ws ∧ Jvm.Cond.instanceMethod Lib.objectInit ∈ ws ∧ Jvm.Cond.code Lib.objectInit ⟨#[0xb1]⟩ 1 none ∈ ws := by
  have h2 := (Bool.and_eq_true_iff.mp h).2
  simp only [if_true, Bool.and_eq_true] at h2
  exact ⟨oHas_mem h2.1.1, oHas_mem h2.1.2, oHas_mem h2.2⟩
theorem oOk_special (h : oOpOk ws KT CT MT y bytes (pc, .invokespecial j, p1, p2) = true) (hp : ¬ p2 = 1) (hk : MT[p1]? = some (z, zb, ml, rt, rm, zn)) :
    z.name = "<init>" ∧ rt = none ∧ Jvm.Cond.methodLink y.cls j z ∈ ws ∧ Jvm.Cond.instanceMethod z ∈ ws ∧ Jvm.Cond.initialized z.cls ∈ ws ∧ Jvm.Cond.code z zb ml none ∈ ws ∧ oNm z zn = true := by
  have h2 := (Bool.and_eq_true_iff.mp h).2
  simp only [hk, if_neg hp, Bool.and_eq_true, decide_eq_true_eq] at h2
  obtain ⟨⟨⟨⟨⟨⟨q1, q2⟩, q3⟩, q4⟩, q5⟩, q6⟩, q7⟩ := h2
  exact ⟨q1, q2, oHas_mem q3, oHas_mem q4, oHas_mem q5, oHas_mem q6, q7⟩
theorem oOk_virtual (h : oOpOk ws KT CT MT y bytes (pc, .invokevirtual j, p1, p2) = true) (hk : MT[p1]? = some (z, zb, ml, rt, rm, zn)) {C : String} {n : Nat} {fs : List oFd} (hC : KT[p2]? = some (C, n, fs)) :
    Jvm.Cond.methodLink y.cls j z ∈ ws ∧ Jvm.Cond.declares z ∈ ws ∧ Jvm.Cond.selects C z z ∈ ws ∧ Jvm.Cond.instanceMethod z ∈ ws ∧ Jvm.Cond.initialized z.cls ∈ ws ∧ Jvm.Cond.code z zb ml rt ∈ ws ∧ oNm z zn = true := by
  have h2 := (Bool.and_eq_true_iff.mp h).2
  simp only [hk, hC, Bool.and_eq_true] at h2
  obtain ⟨⟨⟨⟨⟨⟨q1, q2⟩, q3⟩, q4⟩, q5⟩, q6⟩, q7⟩ := h2
  exact ⟨oHas_mem q1, oHas_mem q2, oHas_mem q3, oHas_mem q4, oHas_mem q5, oHas_mem q6, q7⟩
/-! the steps on the heap, one law each -/
variable {q : Nat × List Value × List oObj × Nat × Nat}
theorem oGet_ok (X : Stand p l e R s m args below meth c T locs cells slots) (hx : p.tables.exec = Jvm.exec) (hZ : Z.Warmed39 s.vm) (hown : s.vm.findClass y.cls = some m.cls) (hw : ∀ d ∈ ws, d.before a0 Z = true)
    (hd : decode c.code pc = .ok (.getfield j, 3)) (hop : oOpOk ws KT CT MT y bytes (pc, .getfield j, p1, p2) = true) (N : Fr n0 locs) (hn0 : n0 ≤ T.heap.size) (hk : oKR ad sk ST) (hH : oHR Z T.heap n0 ad KT H) (h : oStep2 KT R (.getfield j) p1 p2 pc sk H cells slots = some q) :
    oN2 p l e R s m args below meth c Z n0 KT T ad pc Ls ST q := by
  simp only [oStep2] at h
  split at h
  · obtain ⟨_, ST', rfl, ⟨a, ha, rfl⟩, hr⟩ := hk
    split at h
    · rename_i hq
      split at h
      · rename_i hcp
        subst hcp
        split at h
        · rename_i v hv
          cases h
          obtain ⟨C, n, fs, k1, k2, E, F⟩ := hH.2.2.2 _ _ _ hq ha
          have hlt : p2 < fs.length := by rw [← k2]; exact (List.getElem?_eq_some_iff.mp hv).1
          have hf := List.getElem?_eq_getElem hlt
          obtain ⟨w, hvw, Fw⟩ := F p2 _ v hf hv
          obtain ⟨T', X', eT, st⟩ := getF X hx hZ hown (host := "") (Or.inl (hw _ (oOk_get hop k1 hf))) Via.refl rfl Fw (g := mkF m pc Ls (.ref a :: ST')) rfl rfl hd
          exact ⟨T', locs, w :: ST', ad, X', N, by rw [eT]; exact hn0, oPre.rfl' ad, ⟨w, ST', rfl, hvw, hr⟩, by rw [eT]; exact hH, st⟩
        · cases h
      · cases h
    · cases h
  · cases h
theorem oPut_ok (X : Stand p l e R s m args below meth c T locs cells slots) (hx : p.tables.exec = Jvm.exec) (hZ : Z.Warmed39 s.vm) (hown : s.vm.findClass y.cls = some m.cls) (hnm : meth.name = y.name) (hw : ∀ d ∈ ws, d.before a0 Z = true) (hK : KT.all (oKOk ws) = true)
    (hd : decode c.code pc = .ok (.putfield j, 3)) (hop : oOpOk ws KT CT MT y bytes (pc, .putfield j, p1, p2) = true) (N : Fr n0 locs) (hn0 : n0 ≤ T.heap.size) (hk : oKR ad sk ST) (hH : oHR Z T.heap n0 ad KT H) (h : oStep2 KT R (.putfield j) p1 p2 pc sk H cells slots = some q) :
    oN2 p l e R s m args below meth c Z n0 KT T ad pc Ls ST q := by
  simp only [oStep2] at h
  split at h
  · rename_i v k r
    obtain ⟨w, _, rfl, hv, _, ST', rfl, ⟨a, ha, rfl⟩, hr⟩ := hk
    split at h
    · rename_i c1 vs hq
      split at h
      · rename_i C n fs hKp
        split at h
        · rename_i nm ds ty fin hf
          split at h
          · rename_i hcond
            obtain ⟨rfl, hlt, hfit⟩ := hcond
            cases h
            obtain ⟨C', n', fs', k1, k2, E, F⟩ := hH.2.2.2 _ _ _ hq ha
            cases hKp.symm.trans k1
            obtain ⟨w0, -, F0⟩ := F p2 _ vs[p2] hf (List.getElem?_eq_getElem hlt)
            obtain ⟨o1, o2⟩ := oOk_put hop k1 hf
            obtain ⟨K1, -, K3, -⟩ := oK_facts hK k1
            obtain ⟨r1, r2, -⟩ := K3 p2 _ hf
            obtain ⟨hv', hfit'⟩ := oVR.nar (ad := ad) (v := v) (w := w) hfit hv
            have hL : (Jvm.Cond.lays C C nm ds).before a0 Z = true ∨ ((Jvm.Cond.laysFinal C C nm ds).before a0 Z = true ∧ y.cls = C ∧ meth.name = "<init>") := by
              cases fin
              · exact Or.inl (hw _ r1)
              · exact Or.inr ⟨hw _ r1, (o2 rfl).1, hnm.trans (o2 rfl).2⟩
            obtain ⟨T', h', X', eT, W, st⟩ := putFN X hx hZ hown (hw _ o1) Via.refl rfl F0 E hL (hw _ K1) r2 rfl hfit' (g := mkF m pc Ls (w :: .ref a :: ST')) rfl rfl hd
            subst eT
            refine ⟨T', _, ST', ad, X', N.app (fun z hz => by cases List.mem_singleton.mp hz; exact (hH.2.2.1 _ _ ha).1), by rw [W.size]; exact hn0, oPre.rfl' ad, hr, hH.put hq ha W (oOR.putf hK hw (hH.2.2.2 _ _ _ hq ha) k1 hf W hv'), st⟩
          · cases h
        · cases h
      · cases h
    · cases h
  · cases h
theorem oNew_ok (X : Stand p l e R s m args below meth c T locs cells slots) (hx : p.tables.exec = Jvm.exec) (hZ : Z.Warmed39 s.vm) (hown : s.vm.findClass y.cls = some m.cls) (hw : ∀ d ∈ ws, d.before a0 Z = true) (hK : KT.all (oKOk ws) = true)
    (hd : decode c.code pc = .ok (.new j, 3)) (hop : oOpOk ws KT CT MT y bytes (pc, .new j, p1, p2) = true) (N : Fr n0 locs) (hn0 : n0 ≤ T.heap.size) (hk : oKR ad sk ST) (hH : oHR Z T.heap n0 ad KT H) (h : oStep2 KT R (.new j) p1 p2 pc sk H cells slots = some q) :
    oN2 p l e R s m args below meth c Z n0 KT T ad pc Ls ST q := by
  simp only [oStep2] at h
  split at h
  · rename_i C n fs hKp
    split at h
    · rename_i hcond
      cases h
      obtain ⟨K1, K2, K3, -⟩ := oK_facts hK hKp
      obtain ⟨T', h', X', eT, E, A, D, -, st⟩ := newO X hx hZ hown (hw _ (oOk_new hop hKp)) (hw _ K1) (hw _ K2) rfl (g := mkF m pc Ls ST) rfl hd hcond.1 hcond.2
      subst eT
      refine ⟨T', locs, _, ad ++ [T.heap.size], X', N, Nat.le_trans hn0 E.1, oPre.snoc _ _, ⟨_, _, rfl, ⟨T.heap.size, ?_, rfl⟩, hk.mono (oPre.snoc _ _)⟩, hH.new hn0 E A.lt ⟨C, n, fs, hKp, by simp, A, fun i f v hf hv => ?_⟩, st⟩
      · rw [← hH.1, List.getElem?_append_right (Nat.le_refl _)]; simp
      · rw [List.getElem?_map, hf] at hv
        cases hv
        obtain ⟨r1, r2, r3, r4⟩ := K3 i f hf
        exact ⟨_, oDef r3 r4, D (oLaid hw r1) r2⟩
    · cases h
  · cases h
theorem oNewA_ok {t : ArrayType} (X : Stand p l e R s m args below meth c T locs cells slots) (hx : p.tables.exec = Jvm.exec) (hZ : Z.Warmed39 s.vm) (hw : ∀ d ∈ ws, d.before a0 Z = true)
    (hd : decode c.code pc = .ok (.newarray t, 2)) (hop : oOpOk ws KT CT MT y bytes (pc, .newarray t, p1, p2) = true) (N : Fr n0 locs) (hn0 : n0 ≤ T.heap.size) (hk : oKR ad sk ST) (hH : oHR Z T.heap n0 ad KT H) (h : oStep2 KT R (.newarray t) p1 p2 pc sk H cells slots = some q) :
    oN2 p l e R s m args below meth c Z n0 KT T ad pc Ls ST q := by
  simp only [oStep2] at h
  split at h
  · rename_i n r
    obtain ⟨_, ST', rfl, rfl, hr⟩ := hk
    split at h
    · rename_i hcond
      obtain ⟨ht, hn, hb, hc, hs⟩ := hcond
      cases h
      obtain ⟨T', h', cA, X', eT, E, A, st⟩ := newP X hx hZ (hw _ (oOk_newarr hop)) rfl (g := mkF m pc Ls (.int n :: ST')) rfl hd rfl hn (cap := n.toNatClampNeg) (Nat.le_refl _) hb hc hs
      subst eT
      refine ⟨T', locs, _, ad ++ [T.heap.size], X', N, Nat.le_trans hn0 E.1, oPre.snoc _ _, ⟨_, _, rfl, ⟨T.heap.size, ?_, rfl⟩, hr.mono (oPre.snoc _ _)⟩, hH.new hn0 E A.lt ⟨_, A, ?_⟩, st⟩
      · rw [← hH.1, List.getElem?_append_right (Nat.le_refl _)]; simp
      · rcases ht with rfl | rfl <;> simp [newA, newarray.typeOf, defaultValue]
    · cases h
  · cases h
theorem oALen_ok (X : Stand p l e R s m args below meth c T locs cells slots) (hx : p.tables.exec = Jvm.exec) (hZ : Z.Warmed39 s.vm)
    (hd : decode c.code pc = .ok (.arraylength, 1)) (N : Fr n0 locs) (hn0 : n0 ≤ T.heap.size) (hk : oKR ad sk ST) (hH : oHR Z T.heap n0 ad KT H) (h : oStep2 KT R .arraylength p1 p2 pc sk H cells slots = some q) :
    oN2 p l e R s m args below meth c Z n0 KT T ad pc Ls ST q := by
  simp only [oStep2] at h
  split at h
  · obtain ⟨_, ST', rfl, ⟨a, ha, rfl⟩, hr⟩ := hk
    split at h
    · rename_i ty vs hq
      cases h
      obtain ⟨cl, A, hsl⟩ := hH.2.2.2 _ _ _ hq ha
      refine ⟨T, locs, _, ad, X, N, hn0, oPre.rfl' ad, ⟨_, _, rfl, rfl, hr⟩, hH, fun t k => X.arraylength hx A.1 (State.isArrayOf_alike hZ.alike A.2.1) (g := mkF m pc Ls (.ref a :: ST')) rfl rfl hd t ?_⟩
      rw [oSz hsl]
      exact k
    · cases h
  · cases h
theorem oILd_ok (X : Stand p l e R s m args below meth c T locs cells slots) (hx : p.tables.exec = Jvm.exec) (hZ : Z.Warmed39 s.vm)
    (hd : decode c.code pc = .ok (.iaload, 1)) (N : Fr n0 locs) (hn0 : n0 ≤ T.heap.size) (hk : oKR ad sk ST) (hH : oHR Z T.heap n0 ad KT H) (h : oStep2 KT R .iaload p1 p2 pc sk H cells slots = some q) :
    oN2 p l e R s m args below meth c Z n0 KT T ad pc Ls ST q := by
  simp only [oStep2] at h
  split at h
  · obtain ⟨_, _, rfl, rfl, _, ST', rfl, ⟨a, ha, rfl⟩, hr⟩ := hk
    split at h
    · rename_i vs hq
      split at h
      · cases h
      · rename_i hj
        split at h
        · rename_i x hv
          cases h
          obtain ⟨cl, A, hsl⟩ := hH.2.2.2 _ _ _ hq ha
          exact ⟨T, locs, _, ad, X, N, hn0, oPre.rfl' ad, ⟨_, _, rfl, rfl, hr⟩, hH, fun t k => X.iaload hx A.1 (State.isArrayOf_alike hZ.alike A.2.1) A.2.2 (oBnd hsl hj (List.getElem?_eq_some_iff.mp hv).1) (by rw [oAt' hsl, hv]; rfl) (g := mkF m pc Ls _) rfl rfl hd t k⟩
        · cases h
    · cases h
  · cases h
theorem oBLd_ok (X : Stand p l e R s m args below meth c T locs cells slots) (hx : p.tables.exec = Jvm.exec) (hZ : Z.Warmed39 s.vm)
    (hd : decode c.code pc = .ok (.baload, 1)) (N : Fr n0 locs) (hn0 : n0 ≤ T.heap.size) (hk : oKR ad sk ST) (hH : oHR Z T.heap n0 ad KT H) (h : oStep2 KT R .baload p1 p2 pc sk H cells slots = some q) :
    oN2 p l e R s m args below meth c Z n0 KT T ad pc Ls ST q := by
  simp only [oStep2] at h
  split at h
  · obtain ⟨_, _, rfl, rfl, _, ST', rfl, ⟨a, ha, rfl⟩, hr⟩ := hk
    split at h
    · rename_i vs hq
      split at h
      · cases h
      · rename_i hj
        split at h
        · rename_i x hv
          cases h
          obtain ⟨cl, A, hsl⟩ := hH.2.2.2 _ _ _ hq ha
          exact ⟨T, locs, _, ad, X, N, hn0, oPre.rfl' ad, ⟨_, _, rfl, rfl, hr⟩, hH, fun t k => X.baloadBooleans hx A.1 (State.isArrayOf_alike hZ.alike A.2.1) A.2.2 (oBnd hsl hj (List.getElem?_eq_some_iff.mp hv).1) (by rw [oAt' hsl, hv]; rfl) (g := mkF m pc Ls _) rfl rfl hd t k⟩
        · cases h
    · cases h
  · cases h
theorem oISt_ok (X : Stand p l e R s m args below meth c T locs cells slots) (hx : p.tables.exec = Jvm.exec) (hZ : Z.Warmed39 s.vm)
    (hd : decode c.code pc = .ok (.iastore, 1)) (N : Fr n0 locs) (hn0 : n0 ≤ T.heap.size) (hk : oKR ad sk ST) (hH : oHR Z T.heap n0 ad KT H) (h : oStep2 KT R .iastore p1 p2 pc sk H cells slots = some q) :
    oN2 p l e R s m args below meth c Z n0 KT T ad pc Ls ST q := by
  simp only [oStep2] at h
  split at h
  · obtain ⟨_, _, rfl, rfl, _, _, rfl, rfl, _, ST', rfl, ⟨a, ha, rfl⟩, hr⟩ := hk
    split at h
    · rename_i vs hq
      split at h
      · rename_i hin
        cases h
        obtain ⟨hj, hlt⟩ := oIn_spec hin
        obtain ⟨cl, A, hsl⟩ := hH.2.2.2 _ _ _ hq ha
        obtain ⟨T', h', X', eT, W, st⟩ := stI X hx hZ rfl A (oBnd hsl hj hlt) (g := mkF m pc Ls _) rfl rfl hd
        subst eT
        exact ⟨T', _, ST', ad, X', N.app (fun z hz => by cases List.mem_singleton.mp hz; exact (hH.2.2.1 _ _ ha).1), by rw [W.size]; exact hn0, oPre.rfl' ad, hr, hH.put hq ha W ⟨_, A.same W, oSet hsl _ _⟩, st⟩
      · cases h
    · cases h
  · cases h
theorem oBSt_ok (X : Stand p l e R s m args below meth c T locs cells slots) (hx : p.tables.exec = Jvm.exec) (hZ : Z.Warmed39 s.vm)
    (hd : decode c.code pc = .ok (.bastore, 1)) (N : Fr n0 locs) (hn0 : n0 ≤ T.heap.size) (hk : oKR ad sk ST) (hH : oHR Z T.heap n0 ad KT H) (h : oStep2 KT R .bastore p1 p2 pc sk H cells slots = some q) :
    oN2 p l e R s m args below meth c Z n0 KT T ad pc Ls ST q := by
  simp only [oStep2] at h
  split at h
  · obtain ⟨_, _, rfl, rfl, _, _, rfl, rfl, _, ST', rfl, ⟨a, ha, rfl⟩, hr⟩ := hk
    split at h
    · rename_i vs hq
      split at h
      · rename_i hin
        cases h
        obtain ⟨hj, hlt⟩ := oIn_spec hin
        obtain ⟨cl, A, hsl⟩ := hH.2.2.2 _ _ _ hq ha
        obtain ⟨T', h', X', eT, W, st⟩ := stZ X hx hZ rfl A (oBnd hsl hj hlt) (g := mkF m pc Ls _) rfl rfl hd
        subst eT
        exact ⟨T', _, ST', ad, X', N.app (fun z hz => by cases List.mem_singleton.mp hz; exact (hH.2.2.1 _ _ ha).1), by rw [W.size]; exact hn0, oPre.rfl' ad, hr, hH.put hq ha W ⟨_, A.same W, oSet hsl _ _⟩, st⟩
      · cases h
    · cases h
  · cases h
theorem oStep2_ok (X : Stand p l e R s m args below meth c T locs cells slots) (hx : p.tables.exec = Jvm.exec) (hZ : Z.Warmed39 s.vm) (hown : s.vm.findClass y.cls = some m.cls) (hnm : meth.name = y.name) (hw : ∀ d ∈ ws, d.before a0 Z = true) (hK : KT.all (oKOk ws) = true) {i : Instr} (hby : c.code = bytes)
    (hop : oOpOk ws KT CT MT y bytes (pc, i, p1, p2) = true) (N : Fr n0 locs) (hn0 : n0 ≤ T.heap.size) (hk : oKR ad sk ST) (hH : oHR Z T.heap n0 ad KT H) (h : oStep2 KT R i p1 p2 pc sk H cells slots = some q) :
    oN2 p l e R s m args below meth c Z n0 KT T ad pc Ls ST q := by
  obtain ⟨n, hd, hn⟩ := oOk_dec hop
  rw [← hby] at hd
  cases i
  all_goals (first | exact oNone h | (have hn' := hn.resolve_right (fun q => Bool.false_ne_true q); subst hn'))
  case getfield j => exact oGet_ok X hx hZ hown hw hd hop N hn0 hk hH h
  case putfield j => exact oPut_ok X hx hZ hown hnm hw hK hd hop N hn0 hk hH h
  case new j => exact oNew_ok X hx hZ hown hw hK hd hop N hn0 hk hH h
  case newarray t => exact oNewA_ok X hx hZ hw hd hop N hn0 hk hH h
  case arraylength => exact oALen_ok X hx hZ hd N hn0 hk hH h
  case iaload => exact oILd_ok X hx hZ hd N hn0 hk hH h
  case baload => exact oBLd_ok X hx hZ hd N hn0 hk hH h
  case iastore => exact oISt_ok X hx hZ hd N hn0 hk hH h
  case bastore => exact oBSt_ok X hx hZ hd N hn0 hk hH h
/-! calls: by the callee's contract -/
def oOV (ad : List Addr) : Option Value → Option Value → Prop
  | none, v => v = none
  | some x, v => ∃ w, v = some w ∧ oVR ad x w
def oQ (Z : State) (n0 : Nat) (KT : List oKl) (ad : List Addr) (H' : List oObj) (r : Option Value) (v : Option Value) (h : Heap) (L : List Loc) : Prop :=
  Fr n0 L ∧ n0 ≤ h.size ∧ ∃ ad', oPre ad ad' ∧ oHR Z h n0 ad' KT H' ∧ oOV ad' r v
/-- a method's contract: called on what stands for vs and H it returns what stands for r and leaves what stands for H' -/
def oMet (l : Launch) (Z : State) (n0 : Nat) (KT : List oKl) (q : oMt) (vs : List Value) (H : List oObj) (r : Option Value) (H' : List oObj) : Prop :=
  ∀ (wv : List Value) (h0 : Heap) (ad : List Addr), oKR ad vs wv → oHR Z h0 n0 ad KT H → n0 ≤ h0.size → ∀ ws0 : List Jvm.Cond,
    MetFree l q.1 (head1 (Jvm.Cond.code q.1 q.2.1 q.2.2.1 q.2.2.2.1 :: ws0) q.2.2.2.2.1) (fun a U => a = wv.toArray ∧ Z.Warmed39 U.vm ∧ U.heap = h0) (fun _ _ _ _ _ => True)
      (fun _ U o U' => ∃ v L, o = .returned v ∧ oQ Z n0 KT ad H' r v U'.heap L ∧ FrameEnd U o U' L q.2.2.2.2.1.cells q.2.2.2.2.1.slots)
def oCallOk (l : Launch) (Z : State) (n0 : Nat) (KT : List oKl) (q : oMt) (f : List Value → List oObj → Option (Option Value × List oObj)) : Prop :=
  ∀ vs H r H', f vs H = some (r, H') → oMet l Z n0 KT q vs H r H'
theorem oOV.kr {ad : List Addr} {r v : Option Value} (h : oOV ad r v) : oKR ad r.toList v.toList := by
  cases r with
  | none => cases h; rfl
  | some x => obtain ⟨w, rfl, hw⟩ := h; exact ⟨w, [], rfl, hw, rfl⟩
variable {callf : oCf} {mx : Nat}
theorem oStatic_ok (hC : ∀ (k : Nat) (q : oMt), MT[k]? = some q → oCallOk l Z n0 KT q (callf k)) (X : Stand p l e R s m args below meth c T locs cells slots) (hx : p.tables.exec = Jvm.exec) (hZ : Z.Warmed39 s.vm) (hown : s.vm.findClass y.cls = some m.cls) (hw : ∀ d ∈ ws, d.before a0 Z = true) (hmx : c.maxLocals = mx) (hp2 : ¬ p2 = 2)
    (hd : decode c.code pc = .ok (.invokestatic j, 3)) (hop : oOpOk ws KT CT MT y bytes (pc, .invokestatic j, p1, p2) = true) (N : Fr n0 locs) (hn0 : n0 ≤ T.heap.size) (hl : oLR ad ls Ls) (hk : oKR ad sk ST) (hH : oHR Z T.heap n0 ad KT H) (h : oStep3 KT MT callf R mx (.invokestatic j) p1 p2 pc ls sk H cells slots = some q) :
    oN2 p l e R s m args below meth c Z n0 KT T ad pc Ls ST q := by
  simp only [oStep3, if_neg hp2] at h
  split at h
  · rename_i z zb ml rt rm zn hq
    split at h
    · rename_i hcond
      obtain ⟨hsz, hlen, hfr, hlo, hce, hsl⟩ := hcond
      split at h
      · rename_i r H' hcall
        cases h
        obtain ⟨q1, q2, q3, q4, q5⟩ := oOk_static hop hp2 hq
        obtain ⟨n1, n2⟩ := oNm_spec q5
        have hM := hC p1 _ hq _ _ _ _ hcall (ST.take zn).reverse T.heap ad (hk.take zn).rev hH hn0 []
        have hW : 2 * (mkF m pc Ls ST).monitorRoom + ((ST.drop zn).map fun v => v.category).sum ≤ oCatS (sk.drop zn) := by
          rw [(hk.drop zn).cats]; exact Nat.le_of_eq (Nat.zero_add _)
        obtain ⟨v, vm1, ⟨T', L', k', n'⟩, -, X', ⟨Lc, hQ, l1, y1, z1⟩, st⟩ := Jvm.LawKit.callS X hx (y := z) hown (mvT hZ (hw _ q1)) (mvT hZ (hw _ q2)) (mvT hZ (hw _ q3)) (mvT hZ (hw _ q4)) n1
          (backOf (W := oCatS (sk.drop zn)) hM hZ (hw _ q4) (hw _ q3) hfr hlo) (g := mkF m pc Ls ST) rfl (by rw [hmx, ← hsz]; exact hl.1.symm) (argsL := (ST.take zn).reverse) (rest := ST.drop zn)
          (fun sig hs => by rw [n2 sig hs, List.length_reverse, List.length_take, hk.len]; omega) (by show ST = _; rw [List.reverse_reverse, List.take_append_drop]) hW hd (fun _ _ => ⟨rfl, rfl, hce, hsl⟩)
        dsimp only [Pt.U, Pt.locs, Pt.cells, Pt.slots] at X' l1 y1 z1 st hQ
        subst l1 y1 z1
        obtain ⟨N', hn', ad', pr, hH', hv⟩ := hQ
        exact ⟨T', _, _, ad', X', N.app N', hn', pr, oKR.app ((hk.drop zn).mono pr) hv.kr, hH', st⟩
      · cases h
    · cases h
  · cases h
theorem oN31 {n : Nat} (h : n < 2147483648) : ¬ n.toInt32 < 0 ∧ n.toInt32.toNatClampNeg = n := by
  have q : n.toInt32.toInt = n := len_toInt (by omega)
  constructor
  · rw [Int32.lt_iff_toInt_lt, q]; simp only [Int32.reduceToInt]; omega
  · simp only [Int32.toNatClampNeg, q]; omega
theorem oArv {h : Heap} {a : Addr} {cl : Cell} {vs : List Int32} (A : Arr Z h a cl .int) (hs : cl.slots = (vs.map Value.int).toArray) (hn : vs.length < 2147483648) : Arv Z h a cl.cls .int vs.length.toInt32 (vs.map Value.int) (.int 0) := by
  obtain ⟨h1, h2⟩ := oN31 hn
  refine ⟨cl, A, rfl, by rw [h2]; exact oSz hs, h1, fun k hk => ?_, fun i hi => ?_⟩
  · rw [oSz hs] at hk
    rw [oAt' hs, List.getElem?_eq_getElem hk, List.getD_eq_getElem?_getD, List.getElem?_map, List.getElem?_eq_getElem hk]; rfl
  · rw [oSz hs] at hi
    rw [List.getD_eq_getElem?_getD, List.getElem?_map, List.getElem?_eq_getElem hi]; rfl
theorem oOR.keep {h h' : Heap} {a : Addr} {o : oObj} {us : List Addr} (q : oOR Z h ad KT a o) (K : Keep h h' us) (hn : a ∉ us) : oOR Z h' ad KT a o := by
  rcases o with ⟨k, vs⟩ | ⟨ty, vs⟩
  · obtain ⟨C, n, fs, h1, h0, h2, h3⟩ := q
    exact ⟨C, n, fs, h1, h0, h2.keep K, fun i f v hf hv => by obtain ⟨w, e1, e2⟩ := h3 i f v hf hv; exact ⟨w, e1, e2.keep K hn⟩⟩
  · obtain ⟨c, h1, h2⟩ := q
    exact ⟨c, ⟨K.2.1 _ _ h1.1 hn, h1.2⟩, h2⟩
theorem oHR.keep {h h' : Heap} {b : Addr} {k : Nat} {o o' : oObj} (q : oHR Z h n0 ad KT H) (e : H[k]? = some o) (hb : ad[k]? = some b) (K : Keep h h' [b]) (hn : oOR Z h' ad KT b o') : oHR Z h' n0 ad KT (H.set k o') := by
  refine ⟨by simp [q.1], q.2.1, fun i c hc => ⟨(q.2.2.1 i c hc).1, Nat.lt_of_lt_of_le (q.2.2.1 i c hc).2 K.1⟩, fun j o1 c ho hc => ?_⟩
  by_cases ej : k = j
  · subst ej
    rw [List.getElem?_set_self (List.getElem?_eq_some_iff.mp e).1] at ho
    cases ho
    cases hb.symm.trans hc
    exact hn
  · rw [List.getElem?_set_ne ej] at ho
    exact (q.2.2.2 j o1 c ho hc).keep K (ninS (fun hab => ej (q.2.1 k j b hb (hab ▸ hc))) nin0)
theorem oUs (vs : List Int32) (a n : Nat) (h : a + n ≤ vs.length) : ((List.range n).map fun i => (vs.map Value.int).getD (a + i) (.int 0)) = ((vs.drop a).take n).map Value.int := by
  refine List.ext_getElem? fun i => ?_
  by_cases hi : i < n
  · simp only [List.getElem?_map, List.getElem?_range hi, List.getElem?_take_of_lt hi, List.getElem?_drop, Option.map_some, List.getD_eq_getElem?_getD]
    rw [List.getElem?_eq_getElem (by omega : a + i < vs.length)]; rfl
  · rw [List.getElem?_eq_none (by simpa using Nat.le_of_not_lt hi), List.getElem?_eq_none (by simp; omega)]
theorem oCopy_ok (X : Stand p l e R s m args below meth c T locs cells slots) (hx : p.tables.exec = Jvm.exec) (hZ : Z.Warmed39 s.vm) (hown : s.vm.findClass y.cls = some m.cls) (hw : ∀ d ∈ ws, d.before a0 Z = true) (hmx : c.maxLocals = mx)
    (hd : decode c.code pc = .ok (.invokestatic j, 3)) (hop : oOpOk ws KT CT MT y bytes (pc, .invokestatic j, p1, 2) = true) (N : Fr n0 locs) (hn0 : n0 ≤ T.heap.size) (hl : oLR ad ls Ls) (hk : oKR ad sk ST) (hH : oHR Z T.heap n0 ad KT H) (h : oStep3 KT MT callf R mx (.invokestatic j) p1 2 pc ls sk H cells slots = some q) :
    oN2 p l e R s m args below meth c Z n0 KT T ad pc Ls ST q := by
  simp only [oStep3, if_true] at h
  split at h
  · rename_i nn dp b sp a r
    obtain ⟨_, _, rfl, rfl, _, _, rfl, rfl, _, _, rfl, ⟨ab, hb, rfl⟩, _, _, rfl, rfl, _, ST', rfl, ⟨aa, ha, rfl⟩, hr⟩ := hk
    split at h
    · rename_i vs hA
      split at h
      · rename_i vd hB
        split at h
        · rename_i hcond
          obtain ⟨hsz, h1, h2, h3, h4, h5, h6, h7, h8, h9⟩ := hcond
          cases h
          obtain ⟨q1, q2, q3, q4⟩ := oOk_copy hop
          obtain ⟨ca, Aa, sa⟩ := hH.2.2.2 _ _ _ hA ha
          obtain ⟨cb, Ab, sb⟩ := hH.2.2.2 _ _ _ hB hb
          obtain ⟨z1, z2⟩ := oN31 h6
          obtain ⟨z3, z4⟩ := oN31 h7
          obtain ⟨T', h', L, X', eT, N', K, V', st⟩ := cpA X hx hZ hown (hw _ q1) (hw _ q2) (hw _ q3) (hw _ q4) rfl (oArv Aa sa h6) (oArv Ab sb h7) (us := ((vs.drop sp.toNatClampNeg).take nn.toNatClampNeg).map Value.int) (Or.inl ⟨rfl, rfl⟩) h1 h2 h3 (by rw [z2]; exact h4) (by rw [z4]; exact h5)
            (oUs vs _ _ h4).symm (by rw [List.length_map]; exact h5) N (hH.2.2.1 _ _ hb).1 (g := mkF m pc Ls _) rfl (by rw [hmx, ← hsz]; exact hl.1.symm) (rest := ST') rfl hd h8 (W := oCatS r) (by rw [hr.cats]; exact Nat.le_of_eq (Nat.zero_add _)) (by rw [show nativeFrameWords "java/lang/System" "arraycopy" 5 = 7 from by decide]; exact h9)
          subst eT
          refine ⟨T', L, ST', ad, X', N', Nat.le_trans hn0 K.1, oPre.rfl' ad, hr, hH.keep hB hb K ?_, st⟩
          obtain ⟨c', A', -, S', -, Hs, -⟩ := V'
          rw [z4] at S'
          have hlen : (vd.take dp.toNatClampNeg ++ (vs.drop sp.toNatClampNeg).take nn.toNatClampNeg ++ vd.drop (dp.toNatClampNeg + nn.toNatClampNeg)).length = vd.length := by simp; omega
          refine ⟨c', A', Array.ext (by rw [S', List.size_toArray, List.length_map, hlen]) fun i hi1 hi2 => ?_⟩
          have e1 := Hs i hi1
          rw [Array.getElem?_eq_getElem hi1] at e1
          have e2 := Option.some.inj e1
          rw [e2, ← List.map_take, ← List.map_drop, ← List.map_append, ← List.map_append, List.getD_eq_getElem?_getD]
          rw [List.getElem?_eq_getElem (by rw [List.length_map, hlen, ← S']; exact hi1)]
          simp
        · cases h
      · cases h
    · cases h
  · cases h
theorem oInit_ok (X : Stand p l e R s m args below meth c T locs cells slots) (hx : p.tables.exec = Jvm.exec) (hZ : Z.Warmed39 s.vm) (hown : s.vm.findClass y.cls = some m.cls) (hw : ∀ d ∈ ws, d.before a0 Z = true) (hmx : c.maxLocals = mx)
    (hd : decode c.code pc = .ok (.invokespecial j, 3)) (hop : oOpOk ws KT CT MT y bytes (pc, .invokespecial j, p1, 1) = true) (N : Fr n0 locs) (hn0 : n0 ≤ T.heap.size) (hl : oLR ad ls Ls) (hk : oKR ad sk ST) (hH : oHR Z T.heap n0 ad KT H) (h : oStep3 KT MT callf R mx (.invokespecial j) p1 1 pc ls sk H cells slots = some q) :
    oN2 p l e R s m args below meth c Z n0 KT T ad pc Ls ST q := by
  simp only [oStep3, if_true] at h
  split at h
  · obtain ⟨_, ST', rfl, ⟨a, ha, rfl⟩, hr⟩ := hk
    split at h
    · rename_i hcond
      obtain ⟨hsz, hfr, hlo⟩ := hcond
      cases h
      obtain ⟨q1, q2, q3⟩ := oOk_init hop
      obtain ⟨T', X', eT, st⟩ := initO X hx hZ hown (hw _ q1) (hw _ q2) (hw _ q3) rfl (g := mkF m pc Ls (.ref a :: ST')) rfl (by rw [hmx, ← hsz]; exact hl.1.symm) rfl hd hfr (by rw [hr.cats]; exact Nat.le_of_eq (Nat.zero_add _)) hlo
      exact ⟨T', locs, ST', ad, X', N, by rw [eT]; exact hn0, oPre.rfl' ad, hr, by rw [eT]; exact hH, st⟩
    · cases h
  · cases h
theorem oSpecial_ok (hC : ∀ (k : Nat) (q : oMt), MT[k]? = some q → oCallOk l Z n0 KT q (callf k)) (X : Stand p l e R s m args below meth c T locs cells slots) (hx : p.tables.exec = Jvm.exec) (hZ : Z.Warmed39 s.vm) (hown : s.vm.findClass y.cls = some m.cls) (hw : ∀ d ∈ ws, d.before a0 Z = true) (hmx : c.maxLocals = mx) (hp2 : ¬ p2 = 1)
    (hd : decode c.code pc = .ok (.invokespecial j, 3)) (hop : oOpOk ws KT CT MT y bytes (pc, .invokespecial j, p1, p2) = true) (N : Fr n0 locs) (hn0 : n0 ≤ T.heap.size) (hl : oLR ad ls Ls) (hk : oKR ad sk ST) (hH : oHR Z T.heap n0 ad KT H) (h : oStep3 KT MT callf R mx (.invokespecial j) p1 p2 pc ls sk H cells slots = some q) :
    oN2 p l e R s m args below meth c Z n0 KT T ad pc Ls ST q := by
  simp only [oStep3, if_neg hp2] at h
  split at h
  · rename_i z zb ml rt rm zn hq
    split at h
    · rename_i k r hdrop
      have hkd := hk.drop zn
      rw [hdrop] at hkd
      obtain ⟨_, ST', hST, ⟨a, ha, rfl⟩, hr⟩ := hkd
      split at h
      · rename_i hcond
        obtain ⟨hsz, hfr, hlo, hce, hsl⟩ := hcond
        split at h
        · rename_i rv H' hcall
          cases h
          obtain ⟨q0, rfl, q1, q2, q3, q4, q5⟩ := oOk_special hop hp2 hq
          obtain ⟨n1, n2⟩ := oNm_spec q5
          have hlen : zn ≤ ST.length := by
            have := congrArg List.length hST
            simp only [List.length_drop, List.length_cons] at this
            omega
          have hM := hC p1 _ hq _ _ _ _ hcall (.ref a :: (ST.take zn).reverse) T.heap ad ⟨_, _, rfl, ⟨a, ha, rfl⟩, (hk.take zn).rev⟩ hH hn0 []
          have hW : 2 * (mkF m pc Ls ST).monitorRoom + (ST'.map fun v => v.category).sum ≤ oCatS r := by
            rw [hr.cats]; exact Nat.le_of_eq (Nat.zero_add _)
          obtain ⟨v, vm1, ⟨T', L', k', n'⟩, -, X', ⟨Lc, hQ, l1, y1, z1⟩, st⟩ := Jvm.LawKit.callI X hx (y := z) hown q0 (mvT hZ (hw _ q1)) (mvT hZ (hw _ q2)) (mvT hZ (hw _ q4)) n1
            (backOf (W := oCatS r) hM hZ (hw _ q4) (hw _ q3) hfr hlo) (g := mkF m pc Ls ST) rfl (by rw [hmx, ← hsz]; exact hl.1.symm) (a := a) (argsL := (ST.take zn).reverse) (rest := ST')
            (fun sig hs => by rw [n2 sig hs, List.length_reverse, List.length_take]; omega) (by show ST = _; rw [List.reverse_reverse, ← hST, List.take_append_drop]) hW hd (fun _ _ => ⟨rfl, rfl, hce, hsl⟩)
          dsimp only [Pt.U, Pt.locs, Pt.cells, Pt.slots] at X' l1 y1 z1 st hQ
          subst l1 y1 z1
          obtain ⟨N', hn', ad', pr, hH', hv⟩ := hQ
          exact ⟨T', _, _, ad', X', N.app N', hn', pr, oKR.app (hr.mono pr) hv.kr, hH', st⟩
        · cases h
      · cases h
    · cases h
  · cases h
theorem oVirtual_ok (hC : ∀ (k : Nat) (q : oMt), MT[k]? = some q → oCallOk l Z n0 KT q (callf k)) (X : Stand p l e R s m args below meth c T locs cells slots) (hx : p.tables.exec = Jvm.exec) (hZ : Z.Warmed39 s.vm) (hown : s.vm.findClass y.cls = some m.cls) (hw : ∀ d ∈ ws, d.before a0 Z = true) (hmx : c.maxLocals = mx)
    (hd : decode c.code pc = .ok (.invokevirtual j, 3)) (hop : oOpOk ws KT CT MT y bytes (pc, .invokevirtual j, p1, p2) = true) (N : Fr n0 locs) (hn0 : n0 ≤ T.heap.size) (hl : oLR ad ls Ls) (hk : oKR ad sk ST) (hH : oHR Z T.heap n0 ad KT H) (h : oStep3 KT MT callf R mx (.invokevirtual j) p1 p2 pc ls sk H cells slots = some q) :
    oN2 p l e R s m args below meth c Z n0 KT T ad pc Ls ST q := by
  simp only [oStep3] at h
  split at h
  · rename_i z zb ml rt rm zn hq
    split at h
    · rename_i k r hdrop
      have hkd := hk.drop zn
      rw [hdrop] at hkd
      obtain ⟨_, ST', hST, ⟨a, ha, rfl⟩, hr⟩ := hkd
      split at h
      · rename_i c1 vs1 hHk
        split at h
        · rename_i hcond
          obtain ⟨rfl, hsz, hfr, hlo, hce, hsl⟩ := hcond
          split at h
          · rename_i rv H' hcall
            cases h
            obtain ⟨C, nC, fs, k1, -, E, -⟩ := hH.2.2.2 _ _ _ hHk ha
            obtain ⟨q1, q2, q3, q4, q5, q6, q7⟩ := oOk_virtual hop hq k1
            obtain ⟨n1, n2⟩ := oNm_spec q7
            have hlen : zn ≤ ST.length := by
              have := congrArg List.length hST
              simp only [List.length_drop, List.length_cons] at this
              omega
            have hM := hC p1 _ hq _ _ _ _ hcall (.ref a :: (ST.take zn).reverse) T.heap ad ⟨_, _, rfl, ⟨a, ha, rfl⟩, (hk.take zn).rev⟩ hH hn0 []
            have hW : 2 * (mkF m pc Ls ST).monitorRoom + (ST'.map fun v => v.category).sum ≤ oCatS r := by
              rw [hr.cats]; exact Nat.le_of_eq (Nat.zero_add _)
            obtain ⟨cB, kB, b1, b2, b3⟩ := isOf (T := T) hZ rfl E
            obtain ⟨v, vm1, ⟨T', L', k', n'⟩, -, X', ⟨Lc, hQ, l1, y1, z1⟩, st⟩ := X.virtualBack hx (y := z) (z := z) hown (mvT hZ (hw _ q1)) (mvT hZ (hw _ q2)) (notFace_of_selects (args := #[]) (mvT hZ (hw _ q3))) (mvT hZ (hw _ q3)) (mvT hZ (hw _ q4)) n1
              (backOf (W := oCatS r) hM hZ (hw _ q6) (hw _ q5) hfr hlo) b1 b3 (g := mkF m pc Ls ST) rfl (by rw [hmx, ← hsz]; exact hl.1.symm) (Steps.refl _) (argsL := (ST.take zn).reverse) (rest := ST')
              (fun sig hs => by rw [n2 sig hs, List.length_reverse, List.length_take]; omega) (by show ST = _; rw [List.reverse_reverse, ← hST, List.take_append_drop]) hW hd (fun _ _ => ⟨rfl, rfl, hce, hsl⟩)
            dsimp only [Pt.U, Pt.locs, Pt.cells, Pt.slots] at X' l1 y1 z1 st hQ
            subst l1 y1 z1
            obtain ⟨N', hn', ad', pr, hH', hv⟩ := hQ
            exact ⟨T', _, _, ad', X', N.app N', hn', pr, oKR.app (hr.mono pr) hv.kr, hH', fun t k => st.trans k⟩
          · cases h
        · cases h
      · cases h
    · cases h
  · cases h
theorem oStep3_ok (hC : ∀ (k : Nat) (q : oMt), MT[k]? = some q → oCallOk l Z n0 KT q (callf k)) (X : Stand p l e R s m args below meth c T locs cells slots) (hx : p.tables.exec = Jvm.exec) (hZ : Z.Warmed39 s.vm) (hown : s.vm.findClass y.cls = some m.cls) (hw : ∀ d ∈ ws, d.before a0 Z = true) (hmx : c.maxLocals = mx) {i : Instr} (hby : c.code = bytes)
    (hop : oOpOk ws KT CT MT y bytes (pc, i, p1, p2) = true) (N : Fr n0 locs) (hn0 : n0 ≤ T.heap.size) (hl : oLR ad ls Ls) (hk : oKR ad sk ST) (hH : oHR Z T.heap n0 ad KT H) (h : oStep3 KT MT callf R mx i p1 p2 pc ls sk H cells slots = some q) :
    oN2 p l e R s m args below meth c Z n0 KT T ad pc Ls ST q := by
  obtain ⟨n, hd, hn⟩ := oOk_dec hop
  rw [← hby] at hd
  cases i
  all_goals (first | exact oNone h | (have hn' := hn.resolve_right (fun q => Bool.false_ne_true q); subst hn'))
  case invokestatic j =>
    by_cases hp : p2 = 2
    · subst hp
      exact oCopy_ok X hx hZ hown hw hmx hd hop N hn0 hl hk hH h
    · exact oStatic_ok hC X hx hZ hown hw hmx hp hd hop N hn0 hl hk hH h
  case invokespecial j =>
    by_cases hp : p2 = 1
    · subst hp
      exact oInit_ok X hx hZ hown hw hmx hd hop N hn0 hl hk hH h
    · exact oSpecial_ok hC X hx hZ hown hw hmx hp hd hop N hn0 hl hk hH h
  case invokevirtual j => exact oVirtual_ok hC X hx hZ hown hw hmx hd hop N hn0 hl hk hH h
end Sound

/-! A7. many steps; a method's contract -/
def oAt (p : Program) (l : Launch) (e : Env) (R : Jvm.Room) (s : State) (m : MethodId) (args : Array Value) (below : List Frame) (meth : Method) (c : Code) (Z : State) (n0 : Nat) (KT : List oKl) (T : State) (st : oSt) (Ls : Array Slot) (ST : List Value) (ad : List Addr) : Prop :=
  ∃ locs, Stand p l e R s m args below meth c T locs st.2.2.2.2.1 st.2.2.2.2.2 ∧ Fr n0 locs ∧ n0 ≤ T.heap.size ∧ oLR ad st.2.1 Ls ∧ oKR ad st.2.2.1 ST ∧ oHR Z T.heap n0 ad KT st.2.2.2.1
def oReach (l : Launch) (Z : State) (n0 : Nat) (KT : List oKl) (q : oMt) (st st' : oSt) : Prop :=
  ∀ (p : Program) (e : Env) (s : State) (m : MethodId) (args : Array Value) (below : List Frame) (meth : Method) (c : Code), p.tables.exec = Jvm.exec → Z.Warmed39 s.vm → s.vm.findClass q.1.cls = some m.cls → meth.name = q.1.name → c.code = q.2.1 → c.maxLocals = q.2.2.1 →
    ∀ (T : State) (Ls : Array Slot) (ST : List Value) (ad : List Addr), oAt p l e q.2.2.2.2.1 s m args below meth c Z n0 KT T st Ls ST ad →
      ∃ T' Ls' ST' ad', oAt p l e q.2.2.2.2.1 s m args below meth c Z n0 KT T' st' Ls' ST' ad' ∧ oPre ad ad' ∧
        ∀ target, Steps p.tables e below (T'.setTop (mkF m st'.1 Ls' ST')) target → Steps p.tables e below (T.setTop (mkF m st.1 Ls ST)) target
section Many
variable {l : Launch} {Z : State} {a0 : Array Value} {n0 : Nat} {ws : List Jvm.Cond} {KT : List oKl} {CT : List Value} {MT : List oMt} {callf : oCf} {q : oMt} {st st' st'' : oSt} {ops : List oOp}
theorem oReach.rfl' : oReach l Z n0 KT q st st := fun p e s m args below meth c _ _ _ _ _ _ T Ls ST ad h => ⟨T, Ls, ST, ad, h, oPre.rfl' ad, fun _ k => k⟩
theorem oReach.trans (h : oReach l Z n0 KT q st st') (h' : oReach l Z n0 KT q st' st'') : oReach l Z n0 KT q st st'' :=
  fun p e s m args below meth c a1 a2 a3 a4 a5 a6 T Ls ST ad hA => by
    obtain ⟨T1, Ls1, ST1, ad1, hA1, pr1, k1⟩ := h p e s m args below meth c a1 a2 a3 a4 a5 a6 T Ls ST ad hA
    obtain ⟨T2, Ls2, ST2, ad2, hA2, pr2, k2⟩ := h' p e s m args below meth c a1 a2 a3 a4 a5 a6 T1 Ls1 ST1 ad1 hA1
    exact ⟨T2, Ls2, ST2, ad2, hA2, pr1.trans pr2, fun t k => k1 t (k2 t k)⟩
theorem oReach.step (hw : ∀ d ∈ ws, d.before a0 Z = true) (hK : KT.all (oKOk ws) = true) (hC : ∀ (k : Nat) (q : oMt), MT[k]? = some q → oCallOk l Z n0 KT q (callf k)) {op : Instr × Nat × Nat} (hop : oOpOk ws KT CT MT q.1 q.2.1 (st.1, op) = true)
    (h : oStep KT CT MT callf q.2.2.2.2.1 q.2.2.1 op st = some st') : oReach l Z n0 KT q st st' := by
  intro p e s m args below meth c hx hZ hown hnm hby hmx T Ls ST ad ⟨locs, X, N, hn0, hl, hk, hH⟩
  obtain ⟨pc, ls, sk, H, cells, slots⟩ := st
  obtain ⟨i, p1, p2⟩ := op
  dsimp only at hop X N hn0 hl hk hH ⊢
  simp only [oStep] at h
  split at h
  · rename_i pc' ls' sk' h1
    cases h
    have hd := oOk_dec hop
    rw [← hby] at hd
    obtain ⟨Ls', ST', r1, r2, r3⟩ := oStep1_ok X hx hZ hown hw hd (fun j hj x hx' => by subst hj; exact oOk_ldc hop hx') (fun j hj x hx' => by subst hj; exact oOk_ldc2 hop hx') hl hk h1
    exact ⟨T, Ls', ST', ad, ⟨locs, X, N, hn0, r1, r2, hH⟩, oPre.rfl' ad, r3⟩
  · split at h
    · rename_i pc' sk' H' c' s' h2
      cases h
      obtain ⟨T', locs', ST', ad', X', N', hn', pr, hk', hH', k⟩ := oStep2_ok (Ls := Ls) X hx hZ hown hnm hw hK hby hop N hn0 hk hH h2
      exact ⟨T', Ls, ST', ad', ⟨locs', X', N', hn', hl.mono pr, hk', hH'⟩, pr, k⟩
    · split at h
      · rename_i pc' sk' H' c' s' h3
        cases h
        obtain ⟨T', locs', ST', ad', X', N', hn', pr, hk', hH', k⟩ := oStep3_ok hC X hx hZ hown hw hmx hby hop N hn0 hl hk hH h3
        exact ⟨T', Ls, ST', ad', ⟨locs', X', N', hn', hl.mono pr, hk', hH'⟩, pr, k⟩
      · cases h
theorem oFetch_mem : ∀ {ops : List oOp} {pc : Nat} {op : Instr × Nat × Nat}, oFetch ops pc = some op → (pc, op) ∈ ops
  | [], _, _, h => by cases h
  | (a, r) :: t, pc, op, h => by
    cases hb : Nat.beq a pc with
    | true =>
      simp only [oFetch, hb] at h
      cases h
      rw [Nat.eq_of_beq_eq_true hb]
      exact List.mem_cons_self ..
    | false =>
      simp only [oFetch, hb] at h
      exact List.mem_cons_of_mem _ (oFetch_mem h)
theorem oReach.run (hw : ∀ d ∈ ws, d.before a0 Z = true) (hK : KT.all (oKOk ws) = true) (hC : ∀ (k : Nat) (q : oMt), MT[k]? = some q → oCallOk l Z n0 KT q (callf k)) (hops : ops.all (oOpOk ws KT CT MT q.1 q.2.1) = true) :
    ∀ {n : Nat} {st st' : oSt}, oRun KT CT MT callf q.2.2.2.2.1 q.2.2.1 ops n st = some st' → oReach l Z n0 KT q st st'
  | 0, st, st', h => by cases h; exact oReach.rfl'
  | n + 1, st, st', h => by
    simp only [oRun] at h
    split at h
    · cases h
    · rename_i op hf
      split at h
      · cases h; exact oReach.rfl'
      · split at h
        · cases h
        · rename_i st1 h1
          exact (oReach.step hw hK hC (List.all_eq_true.mp hops _ (oFetch_mem hf)) h1).trans (oReach.run hw hK hC hops h)
theorem oRet_dec (hops : ops.all (oOpOk ws KT CT MT q.1 q.2.1) = true) {pc : Nat} {i : Instr} {r : Nat × Nat} (h : oFetch ops pc = some (i, r)) (hs : oLen i = 1) (hns : oSw i = false) : decode q.2.1 pc = .ok (i, 1) := by
  obtain ⟨p1, p2⟩ := r
  obtain ⟨n, h1, h2⟩ := oOk_dec (List.all_eq_true.mp hops _ (oFetch_mem h))
  rcases h2 with rfl | h2
  · rw [h1, hs]
  · rw [hns] at h2; cases h2
theorem oMet_of_reach0 (hpn : plainFor q.1 = true) (hops : ops.all (oOpOk ws KT CT MT q.1 q.2.1) = true) {vs : List Value} {H H' : List oObj} {r : Option Value} (hR : oReach l Z n0 KT q (0, argsToLocals vs.toArray q.2.2.1, [], H, 0, 0) st') (hret : oRet q ops st' = some (r, H')) :
    oMet l Z n0 KT q vs H r H' := by
  intro wv h0 ad hk hH hn ws0
  refine MetFree.of_bodySF hpn hisR ?_
  intro p e s m args below meth c s₁ Bd hml0 hP hK
  obtain ⟨rfl, hZ, hh⟩ := hP
  have hx := Bd.exec
  have hby := Bd.bytes
  have hown : s.vm.findClass q.1.cls = some m.cls := findClass_of_methodNamed Bd.named
  have hnm := (name_of_methodNamed Bd.named Bd.method).1
  have X0 : Stand p l e q.2.2.2.2.1 s m wv.toArray below meth c s₁ [] 0 0 := Stand.of_body Bd
  have e0 : s₁.heap = h0 := by rw [← hh, Bd.state]; rfl
  obtain ⟨T', Ls', ST', ad', ⟨locs', X', N', hn', hl', hk', hH'⟩, pr, st⟩ := hR p e s m _ below meth c hx hZ hown hnm hby hml0 s₁ (argsToLocals wv.toArray q.2.2.1) [] ad ⟨[], X0, Fr.nil n0, by rw [e0]; exact hn, oLR.entry hk _, rfl, by rw [e0]; exact hH⟩
  obtain ⟨pc, ls, sk, H1, cells, slots⟩ := st'
  dsimp only at X' N' hn' hl' hk' hH' st
  simp only [oRet] at hret
  split at hret
  · rename_i hroom
    split at hret
    · rename_i r1 hf
      have hd := oRet_dec hops hf rfl rfl
      rw [← hby] at hd
      split at hret
      · rename_i hrt
        cases hret
        cases hk'
        have hrt' := Bd.returns
        rw [hrt] at hrt'
        obtain ⟨fs, hr, hrun, hended, hW, hsame⟩ := X'.leave (v := none) (fun _ => rfl)
        exact ⟨_, _, st _ (X'.returnOut hx hrt' hd hr), hrun, hended, _, _, rfl, ⟨N', hn', ad', pr, hH', rfl⟩, ⟨_, rfl⟩, hW, hsame.mono hroom.1 hroom.2⟩
      · cases hret
    · rename_i r1 hf
      have hd := oRet_dec hops hf rfl rfl
      rw [← hby] at hd
      split at hret
      · rename_i x rest
        obtain ⟨_, ST1, rfl, rfl, hr1⟩ := hk'
        split at hret
        · rename_i hc
          cases hret
          have hrt' := Bd.returns
          obtain ⟨c1, c2⟩ := hc
          have ht : ∃ t, q.2.2.2.1 = some t ∧ (t = .int ∨ t = .boolean ∨ t = .byte ∨ t = .char ∨ t = .short) ∧ narrow t (.int x) = .int x := by
            cases hq : q.2.2.2.1 with
            | none => rw [hq] at c1; cases c1
            | some t =>
              rw [hq] at c1 c2
              refine ⟨t, rfl, ?_, by cases t <;> first | rfl | exact of_decide_eq_true c2⟩
              cases t <;> first | exact Or.inl rfl | exact Or.inr (Or.inl rfl) | exact Or.inr (Or.inr (Or.inl rfl)) | exact Or.inr (Or.inr (Or.inr (Or.inl rfl))) | exact Or.inr (Or.inr (Or.inr (Or.inr rfl))) | cases c1
          obtain ⟨t, hq, ht1, ht2⟩ := ht
          rw [hq] at hrt'
          obtain ⟨fs, hr, hrun, hended, hW, hsame⟩ := X'.leave (v := some (.int x)) (fun h => by rw [hrt'] at h; cases h)
          exact ⟨_, _, st _ (retOut X' hx hrt' ht2 (Or.inl ⟨rfl, ht1, x, rfl⟩) hd hr), hrun, hended, _, _, rfl, ⟨N', hn', ad', pr, hH', _, rfl, rfl⟩, ⟨_, rfl⟩, hW, hsame.mono hroom.1 hroom.2⟩
        · cases hret
      · cases hret
    · rename_i r1 hf
      have hd := oRet_dec hops hf rfl rfl
      rw [← hby] at hd
      split at hret
      · rename_i x rest
        obtain ⟨_, ST1, rfl, rfl, hr1⟩ := hk'
        split at hret
        · rename_i hc
          cases hret
          have hrt' := Bd.returns
          rw [hc] at hrt'
          obtain ⟨fs, hr, hrun, hended, hW, hsame⟩ := X'.leave (v := some (.long x)) (fun h => by rw [hrt'] at h; cases h)
          exact ⟨_, _, st _ (retOut X' hx hrt' rfl (Or.inr (Or.inl ⟨rfl, rfl, x, rfl⟩)) hd hr), hrun, hended, _, _, rfl, ⟨N', hn', ad', pr, hH', _, rfl, rfl⟩, ⟨_, rfl⟩, hW, hsame.mono hroom.1 hroom.2⟩
        · cases hret
      · cases hret
    · rename_i r1 hf
      have hd := oRet_dec hops hf rfl rfl
      rw [← hby] at hd
      have key : ∀ (v w : Value) (rest ST1 : List Value), ST' = w :: ST1 → oVR ad' v w → w.isRef = true → oRefT q.2.2.2.1 = true → r = some v → H' = H1 →
          ∃ s₂ o, Steps p.tables e below (s₁.setTop (entryFrame m wv.toArray q.2.2.1)) s₂ ∧ s₂.status = .running ∧ Ended s₂ below o ∧ ∃ v L, o = .returned v ∧ oQ Z n0 KT ad H' r v s₂.heap L ∧ FrameEnd s o s₂ L q.2.2.2.2.1.cells q.2.2.2.2.1.slots := by
        intro v w rest ST1 e1 hv href hT e2 e3
        subst e1 e2 e3
        have hrt' := Bd.returns
        have ht : ∃ t, q.2.2.2.1 = some t ∧ t.isReference = true := by
          cases hq : q.2.2.2.1 with
          | none => rw [hq] at hT; cases hT
          | some t => rw [hq] at hT; exact ⟨t, rfl, hT⟩
        obtain ⟨t, hq, ht1⟩ := ht
        rw [hq] at hrt'
        have hnw : narrow t w = w := by
          rcases ref_cases href with rfl | ⟨a, rfl⟩ <;> cases t <;> rfl
        obtain ⟨fs, hr, hrun, hended, hW, hsame⟩ := X'.leave (v := some w) (fun h => by rw [hrt'] at h; cases h)
        exact ⟨_, _, st _ (retOut X' hx hrt' hnw (Or.inr (Or.inr (Or.inr (Or.inr ⟨rfl, ht1, href⟩)))) hd hr), hrun, hended, _, _, rfl, ⟨N', hn', ad', pr, hH', _, rfl, hv⟩, ⟨_, rfl⟩, hW, hsame.mono hroom.1 hroom.2⟩
      split at hret
      · rename_i k rest
        obtain ⟨w, ST1, e1, ⟨a, ha, rfl⟩, hr1⟩ := hk'
        split at hret
        · rename_i hc
          cases hret
          exact key (.ref k) _ rest ST1 e1 ⟨a, ha, rfl⟩ rfl hc rfl rfl
        · cases hret
      · rename_i rest
        obtain ⟨w, ST1, e1, rfl, hr1⟩ := hk'
        split at hret
        · rename_i hc
          cases hret
          exact key .null _ rest ST1 e1 rfl rfl hc rfl rfl
        · cases hret
      · cases hret
    · cases hret
  · cases hret
theorem oBody_ok {fuel : Nat} (hw : ∀ d ∈ ws, d.before a0 Z = true) (hK : KT.all (oKOk ws) = true) (hC : ∀ (k : Nat) (q : oMt), MT[k]? = some q → oCallOk l Z n0 KT q (callf k)) (hpn : plainFor q.1 = true) (hops : ops.all (oOpOk ws KT CT MT q.1 q.2.1) = true) :
    oCallOk l Z n0 KT q (oBody KT CT MT callf q ops fuel) := fun vs H r H' h => by
  unfold oBody at h
  split at h
  · rename_i st hst
    exact oMet_of_reach0 hpn hops (oReach.run hw hK hC hops hst) h
  · cases h
/-! the table of what is proved of the callees -/
def oCall (fs : List (List Value → List oObj → Option (Option Value × List oObj))) : oCf := fun k => match fs[k]? with
  | some f => f
  | none => fun _ _ => none
def oFsOk (l : Launch) (Z : State) (n0 : Nat) (KT : List oKl) (MT : List oMt) (fs : List (List Value → List oObj → Option (Option Value × List oObj))) : Prop := ∀ (k : Nat) (q : oMt) (f : List Value → List oObj → Option (Option Value × List oObj)), MT[k]? = some q → fs[k]? = some f → oCallOk l Z n0 KT q f
theorem oFsOk.nil : oFsOk l Z n0 KT MT [] := fun k q f _ h => by simp at h
theorem oFsOk.snoc {fs : List (List Value → List oObj → Option (Option Value × List oObj))} {f : List Value → List oObj → Option (Option Value × List oObj)} (h : oFsOk l Z n0 KT MT fs) (hq : MT[fs.length]? = some q) (hf : oCallOk l Z n0 KT q f) : oFsOk l Z n0 KT MT (fs ++ [f]) := fun k q' g hk hg => by
  by_cases hlt : k < fs.length
  · rw [List.getElem?_append_left hlt] at hg
    exact h k q' g hk hg
  · rw [List.getElem?_append_right (Nat.le_of_not_lt hlt)] at hg
    obtain ⟨h1, h2⟩ := List.getElem?_eq_some_iff.mp hg
    simp only [List.length_singleton, Nat.lt_one_iff] at h1
    have hk' : k = fs.length := by omega
    subst hk'
    cases hq.symm.trans hk
    simp only [Nat.sub_self, List.getElem_singleton] at h2
    subst h2
    exact hf
theorem oFsOk.call {fs : List (List Value → List oObj → Option (Option Value × List oObj))} (h : oFsOk l Z n0 KT MT fs) : ∀ (k : Nat) (q : oMt), MT[k]? = some q → oCallOk l Z n0 KT q (oCall fs k) := fun k q hk => by
  unfold oCall
  split
  · rename_i f hf
    exact h k q f hk hf
  · intro vs H r H' hh; cases hh
/-! forgetting what local variables hold -/
def oHv : List Bool → List Slot → List Slot
  | true :: ms, .val v :: ls => (if v.category = 2 then .val (.double 0) else .val (.retAddr 0)) :: oHv ms ls
  | _ :: ms, x :: ls => x :: oHv ms ls
  | [], ls => ls
  | _, [] => []
theorem oHv_len : ∀ (ms : List Bool) (ls : List Slot), (oHv ms ls).length = ls.length
  | [], _ => by simp [oHv]
  | _ :: _, [] => by simp [oHv]
  | b :: ms, x :: ls => by cases b <;> cases x <;> simp [oHv, oHv_len ms ls]
theorem oHv_at {ad : List Addr} : ∀ (ms : List Bool) (ls : List Slot) (i : Nat) (x' y : Slot), (oHv ms ls)[i]? = some x' → (∀ x, ls[i]? = some x → oSR ad x y) → oSR ad x' y
  | [], ls, i, x', y, h, k => by simp only [oHv] at h; exact k _ h
  | b :: ms, [], i, x', y, h, k => by simp [oHv] at h
  | b :: ms, x :: ls, 0, x', y, h, k => by
    have kx := k x rfl
    cases b <;> cases x <;> simp only [oHv, List.getElem?_cons_zero, Option.some.injEq] at h
    all_goals first | (subst h; exact kx) | skip
    obtain ⟨w, rfl, hw⟩ := kx
    split at h
    · rename_i hc
      subst h
      exact ⟨w, rfl, hw.cat.trans hc⟩
    · rename_i hc
      subst h
      refine ⟨w, rfl, ?_⟩
      show w.category = 1
      rw [hw.cat]
      revert hc
      rename_i v
      cases v <;> simp [Value.category]
  | b :: ms, x :: ls, i + 1, x', y, h, k => by
    cases b <;> cases x <;> simp only [oHv, List.getElem?_cons_succ] at h <;> exact oHv_at ms ls i x' y h (fun z hz => k z (by simpa using hz))
theorem oReach.hav (ms : List Bool) {pc : Nat} {ls : Array Slot} {sk : List Value} {H : List oObj} {cl sl : Nat} : oReach l Z n0 KT q (pc, ls, sk, H, cl, sl) (pc, (oHv ms ls.toList).toArray, sk, H, cl, sl) :=
  fun p e s m args below meth c _ _ _ _ _ _ T Ls ST ad ⟨locs, X, N, hn0, hl, hk, hH⟩ => by
    refine ⟨T, Ls, ST, ad, ⟨locs, X, N, hn0, ⟨?_, fun i x' hx' => ?_⟩, hk, hH⟩, oPre.rfl' ad, fun _ k => k⟩
    · dsimp only
      rw [List.size_toArray, oHv_len, Array.length_toList]
      exact hl.1
    · dsimp only at hx'
      rw [List.getElem?_toArray] at hx'
      have hi : i < ls.size := by
        have := (List.getElem?_eq_some_iff.mp hx').1
        rw [oHv_len, Array.length_toList] at this
        exact this
      obtain ⟨y, hy, -⟩ := hl.2 i _ (Array.getElem?_eq_getElem hi)
      refine ⟨y, hy, oHv_at ms ls.toList i x' y hx' fun x hx => ?_⟩
      rw [Array.getElem?_toList] at hx
      obtain ⟨y', hy', hr⟩ := hl.2 i x hx
      cases hy.symm.trans hy'
      exact hr
theorem oHR.nil {h : Heap} : oHR Z h n0 [] KT [] := ⟨rfl, fun i j a hi _ => by simp at hi, fun i a hi => by simp at hi, fun k o a hk _ => by simp at hk⟩
end Many
/-! A8. single steps that ask something of symbols -/
section Single
variable {l : Launch} {Z : State} {a0 : Array Value} {n0 : Nat} {ws : List Jvm.Cond} {KT : List oKl} {CT : List Value} {MT : List oMt} {callf : oCf} {q : oMt} {ops : List oOp} {pc pc' : Nat} {ls : Array Slot} {r : List Value} {H : List oObj} {cl sl : Nat} {pp : Nat × Nat}
theorem oReach.one (hw : ∀ d ∈ ws, d.before a0 Z = true) (hK : KT.all (oKOk ws) = true) (hC : ∀ (k : Nat) (q : oMt), MT[k]? = some q → oCallOk l Z n0 KT q (callf k)) (hops : ops.all (oOpOk ws KT CT MT q.1 q.2.1) = true) {st st' : oSt} {op : Instr × Nat × Nat} (hf : oFetch ops st.1 = some op) (h : oStep KT CT MT callf q.2.2.2.2.1 q.2.2.1 op st = some st') : oReach l Z n0 KT q st st' :=
  oReach.step hw hK hC (List.all_eq_true.mp hops _ (oFetch_mem hf)) h
theorem oReach.icmpY (hw : ∀ d ∈ ws, d.before a0 Z = true) (hK : KT.all (oKOk ws) = true) (hC : ∀ (k : Nat) (q : oMt), MT[k]? = some q → oCallOk l Z n0 KT q (callf k)) (hops : ops.all (oOpOk ws KT CT MT q.1 q.2.1) = true) {cd : ClassFile.Cond} {o : Int} {x y : Int32}
    (hf : oFetch ops pc = some (.if_icmp cd o, pp)) (h : if_icmp.holds cd x y = true) (ho : 0 ≤ (pc : Int) + o) (hp : ((pc : Int) + o).toNat = pc') : oReach l Z n0 KT q (pc, ls, .int y :: .int x :: r, H, cl, sl) (pc', ls, r, H, cl, sl) :=
  oReach.one (callf := callf) hw hK hC hops hf (by simp only [oStep, oStep1, if_pos h, oJmp, if_pos ho, hp])
theorem oReach.icmpN (hw : ∀ d ∈ ws, d.before a0 Z = true) (hK : KT.all (oKOk ws) = true) (hC : ∀ (k : Nat) (q : oMt), MT[k]? = some q → oCallOk l Z n0 KT q (callf k)) (hops : ops.all (oOpOk ws KT CT MT q.1 q.2.1) = true) {cd : ClassFile.Cond} {o : Int} {x y : Int32}
    (hf : oFetch ops pc = some (.if_icmp cd o, pp)) (h : ¬ if_icmp.holds cd x y = true) : oReach l Z n0 KT q (pc, ls, .int y :: .int x :: r, H, cl, sl) (pc + 3, ls, r, H, cl, sl) :=
  oReach.one (callf := callf) hw hK hC hops hf (by simp only [oStep, oStep1, if_neg h])
theorem oReach.ifY (hw : ∀ d ∈ ws, d.before a0 Z = true) (hK : KT.all (oKOk ws) = true) (hC : ∀ (k : Nat) (q : oMt), MT[k]? = some q → oCallOk l Z n0 KT q (callf k)) (hops : ops.all (oOpOk ws KT CT MT q.1 q.2.1) = true) {cd : ClassFile.Cond} {o : Int} {x : Int32}
    (hf : oFetch ops pc = some (.ifCond cd o, pp)) (h : ifCond.holds cd x = true) (ho : 0 ≤ (pc : Int) + o) (hp : ((pc : Int) + o).toNat = pc') : oReach l Z n0 KT q (pc, ls, .int x :: r, H, cl, sl) (pc', ls, r, H, cl, sl) :=
  oReach.one (callf := callf) hw hK hC hops hf (by simp only [oStep, oStep1, if_pos h, oJmp, if_pos ho, hp])
theorem oReach.ifN (hw : ∀ d ∈ ws, d.before a0 Z = true) (hK : KT.all (oKOk ws) = true) (hC : ∀ (k : Nat) (q : oMt), MT[k]? = some q → oCallOk l Z n0 KT q (callf k)) (hops : ops.all (oOpOk ws KT CT MT q.1 q.2.1) = true) {cd : ClassFile.Cond} {o : Int} {x : Int32}
    (hf : oFetch ops pc = some (.ifCond cd o, pp)) (h : ¬ ifCond.holds cd x = true) : oReach l Z n0 KT q (pc, ls, .int x :: r, H, cl, sl) (pc + 3, ls, r, H, cl, sl) :=
  oReach.one (callf := callf) hw hK hC hops hf (by simp only [oStep, oStep1, if_neg h])
theorem oReach.sw (hw : ∀ d ∈ ws, d.before a0 Z = true) (hK : KT.all (oKOk ws) = true) (hC : ∀ (k : Nat) (q : oMt), MT[k]? = some q → oCallOk l Z n0 KT q (callf k)) (hops : ops.all (oOpOk ws KT CT MT q.1 q.2.1) = true) {dflt o : Int} {prs : Array (Int × Int)} {x : Int32}
    (hf : oFetch ops pc = some (.lookupswitch dflt prs, pp)) (hs : (prs.toList.zip (prs.toList.drop 1)).all (fun q => decide (q.1.1 < q.2.1)) = true) (h : lookupswitch.offset prs.toList dflt x.toInt = o) (ho : 0 ≤ (pc : Int) + o) (hp : ((pc : Int) + o).toNat = pc') :
    oReach l Z n0 KT q (pc, ls, .int x :: r, H, cl, sl) (pc', ls, r, H, cl, sl) :=
  oReach.one (callf := callf) hw hK hC hops hf (by simp only [oStep, oStep1, if_pos hs, h, oJmp, if_pos ho, hp])
theorem oReach.iald (hw : ∀ d ∈ ws, d.before a0 Z = true) (hK : KT.all (oKOk ws) = true) (hC : ∀ (k : Nat) (q : oMt), MT[k]? = some q → oCallOk l Z n0 KT q (callf k)) (hops : ops.all (oOpOk ws KT CT MT q.1 q.2.1) = true) {k : Nat} {j x : Int32} {vs : List Int32}
    (hf : oFetch ops pc = some (.iaload, pp)) (hH : H[k]? = some (.inr (.int, vs))) (hj : ¬ j < 0) (hx : vs[j.toNatClampNeg]? = some x) : oReach l Z n0 KT q (pc, ls, .int j :: .ref k :: r, H, cl, sl) (pc + 1, ls, .int x :: r, H, cl, sl) :=
  oReach.one (callf := callf) hw hK hC hops hf (by simp only [oStep, oStep1, oStep2, hH, if_neg hj, hx])
theorem oReach.getf (hw : ∀ d ∈ ws, d.before a0 Z = true) (hK : KT.all (oKOk ws) = true) (hC : ∀ (k : Nat) (q : oMt), MT[k]? = some q → oCallOk l Z n0 KT q (callf k)) (hops : ops.all (oOpOk ws KT CT MT q.1 q.2.1) = true) {j k p1 p2 : Nat} {v : Value} {vs : List Value}
    (hf : oFetch ops pc = some (.getfield j, p1, p2)) (hH : H[k]? = some (.inl (p1, vs))) (hv : vs[p2]? = some v) : oReach l Z n0 KT q (pc, ls, .ref k :: r, H, cl, sl) (pc + 3, ls, v :: r, H, cl, sl) :=
  oReach.one (callf := callf) hw hK hC hops hf (by simp only [oStep, oStep1, oStep2, hH, hv, if_true])
theorem oReach.bald (hw : ∀ d ∈ ws, d.before a0 Z = true) (hK : KT.all (oKOk ws) = true) (hC : ∀ (k : Nat) (q : oMt), MT[k]? = some q → oCallOk l Z n0 KT q (callf k)) (hops : ops.all (oOpOk ws KT CT MT q.1 q.2.1) = true) {k : Nat} {j x : Int32} {vs : List Int32}
    (hf : oFetch ops pc = some (.baload, pp)) (hH : H[k]? = some (.inr (.boolean, vs))) (hj : ¬ j < 0) (hx : vs[j.toNatClampNeg]? = some x) : oReach l Z n0 KT q (pc, ls, .int j :: .ref k :: r, H, cl, sl) (pc + 1, ls, .int x :: r, H, cl, sl) :=
  oReach.one (callf := callf) hw hK hC hops hf (by simp only [oStep, oStep1, oStep2, hH, if_neg hj, hx])
theorem oReach.bast (hw : ∀ d ∈ ws, d.before a0 Z = true) (hK : KT.all (oKOk ws) = true) (hC : ∀ (k : Nat) (q : oMt), MT[k]? = some q → oCallOk l Z n0 KT q (callf k)) (hops : ops.all (oOpOk ws KT CT MT q.1 q.2.1) = true) {k : Nat} {j x : Int32} {vs : List Int32}
    (hf : oFetch ops pc = some (.bastore, pp)) (hH : H[k]? = some (.inr (.boolean, vs))) (hin : oIn j vs.length = true) : oReach l Z n0 KT q (pc, ls, .int x :: .int j :: .ref k :: r, H, cl, sl) (pc + 1, ls, r, H.set k (.inr (.boolean, vs.set j.toNatClampNeg (x &&& 1))), cl, sl) :=
  oReach.one (callf := callf) hw hK hC hops hf (by simp only [oStep, oStep1, oStep2, hH, if_pos hin])
theorem oReach.havS {sk : List Value} (n : Nat) : oReach l Z n0 KT q (pc, ls, sk, H, cl, sl) (pc, ls, sk.take n ++ (sk.drop n).map (fun v => if v.category = 2 then .double 0 else .retAddr 0), H, cl, sl) :=
  fun p e s m args below meth c _ _ _ _ _ _ T Ls ST ad ⟨locs, X, N, hn0, hl, hk, hH⟩ => by
    refine ⟨T, Ls, ST, ad, ⟨locs, X, N, hn0, hl, ?_, hH⟩, oPre.rfl' ad, fun _ k => k⟩
    have key : ∀ {vs ws : List Value}, oKR ad vs ws → oKR ad (vs.map (fun v => if v.category = 2 then .double 0 else .retAddr 0)) ws := by
      intro vs
      induction vs with
      | nil => intro ws h; exact h
      | cons v vs ih =>
        intro ws h
        obtain ⟨w, ws', rfl, hv, hr⟩ := h
        refine ⟨w, ws', rfl, ?_, ih hr⟩
        show oVR ad (if v.category = 2 then .double 0 else .retAddr 0) w
        split
        · rename_i hc
          exact hv.cat.trans hc
        · rename_i hc
          show w.category = 1
          rw [hv.cat]
          revert hc
          cases v <;> simp [Value.category]
    have h1 := oKR.app (key (hk.drop n)) (hk.take n)
    rw [List.take_append_drop] at h1
    exact h1
end Single
/-! A10. a call by what is proved of that one call -/
section Calls
variable {l : Launch} {Z : State} {a0 : Array Value} {n0 : Nat} {ws : List Jvm.Cond} {KT : List oKl} {CT : List Value} {MT : List oMt} {q : oMt} {ops : List oOp} {pc : Nat} {ls : Array Slot} {sk : List Value} {H : List oObj} {cl sl : Nat}
theorem oPick {p1 : Nat} {z : oMt} {vs : List Value} {H' : List oObj} {v : Option Value} (hm : MT[p1]? = some z) (hM : oMet l Z n0 KT z vs H v H') : ∃ g : oCf, g p1 vs H = some (v, H') ∧ ∀ (k : Nat) (q : oMt), MT[k]? = some q → oCallOk l Z n0 KT q (g k) := by
  refine ⟨fun k us H1 => @ite (Option (Option Value × List oObj)) (k = p1 ∧ us = vs ∧ H1 = H) (Classical.propDecidable _) (some (v, H')) none, ?_, fun k q hk us H1 r H2 h => ?_⟩
  · exact if_pos ⟨rfl, rfl, rfl⟩
  · have h0 : @ite (Option (Option Value × List oObj)) (k = p1 ∧ us = vs ∧ H1 = H) (Classical.propDecidable _) (some (v, H')) none = some (r, H2) := h
    by_cases hc : k = p1 ∧ us = vs ∧ H1 = H
    · rw [if_pos hc] at h0
      cases h0
      obtain ⟨rfl, rfl, rfl⟩ := hc
      cases hm.symm.trans hk
      exact hM
    · rw [if_neg hc] at h0
      cases h0
theorem oReach.mS (hw : ∀ d ∈ ws, d.before a0 Z = true) (hK : KT.all (oKOk ws) = true) (hops : ops.all (oOpOk ws KT CT MT q.1 q.2.1) = true) {j p1 p2 : Nat} {z : oMt} {vs : List Value} {v : Option Value} {H' : List oObj}
    (hM : oMet l Z n0 KT z vs H v H') (hf : oFetch ops pc = some (.invokestatic j, p1, p2)) (hp : ¬ p2 = 2) (hm : MT[p1]? = some z) (hv : (sk.take z.2.2.2.2.2).reverse = vs)
    (hc : decide (ls.size = q.2.2.1 ∧ z.2.2.2.2.2 ≤ sk.length ∧ z.2.2.2.2.1.frames + 1 ≤ q.2.2.2.2.1.frames ∧ oCatS (sk.drop z.2.2.2.2.2) + (z.2.2.1 + 11) + z.2.2.2.2.1.locals ≤ q.2.2.2.2.1.locals ∧ cl + z.2.2.2.2.1.cells ≤ q.2.2.2.2.1.cells ∧ sl + z.2.2.2.2.1.slots ≤ q.2.2.2.2.1.slots) = true) :
    oReach l Z n0 KT q (pc, ls, sk, H, cl, sl) (pc + 3, ls, v.toList ++ sk.drop z.2.2.2.2.2, H', cl + z.2.2.2.2.1.cells, sl + z.2.2.2.2.1.slots) := by
  obtain ⟨z0, zb, ml, rt, rm, zn⟩ := z
  obtain ⟨g, hg, hC⟩ := oPick hm hM
  subst hv
  have hc' := of_decide_eq_true hc
  dsimp only at hc' hg ⊢
  exact oReach.one (callf := g) hw hK hC hops hf (by simp only [oStep, oStep1, oStep2, oStep3, if_neg hp, hm, if_pos hc', hg])
theorem oReach.mI (hw : ∀ d ∈ ws, d.before a0 Z = true) (hK : KT.all (oKOk ws) = true) (hops : ops.all (oOpOk ws KT CT MT q.1 q.2.1) = true) {j k p1 p2 : Nat} {z : oMt} {vs r : List Value} {v : Option Value} {H' : List oObj}
    (hM : oMet l Z n0 KT z (.ref k :: vs) H v H') (hf : oFetch ops pc = some (.invokespecial j, p1, p2)) (hp : ¬ p2 = 1) (hm : MT[p1]? = some z) (hd : sk.drop z.2.2.2.2.2 = .ref k :: r) (hv : (sk.take z.2.2.2.2.2).reverse = vs)
    (hc : decide (ls.size = q.2.2.1 ∧ z.2.2.2.2.1.frames + 1 ≤ q.2.2.2.2.1.frames ∧ oCatS r + (z.2.2.1 + 11) + z.2.2.2.2.1.locals ≤ q.2.2.2.2.1.locals ∧ cl + z.2.2.2.2.1.cells ≤ q.2.2.2.2.1.cells ∧ sl + z.2.2.2.2.1.slots ≤ q.2.2.2.2.1.slots) = true) :
    oReach l Z n0 KT q (pc, ls, sk, H, cl, sl) (pc + 3, ls, v.toList ++ r, H', cl + z.2.2.2.2.1.cells, sl + z.2.2.2.2.1.slots) := by
  obtain ⟨z0, zb, ml, rt, rm, zn⟩ := z
  obtain ⟨g, hg, hC⟩ := oPick hm hM
  subst hv
  have hc' := of_decide_eq_true hc
  dsimp only at hc' hg hd ⊢
  exact oReach.one (callf := g) hw hK hC hops hf (by simp only [oStep, oStep1, oStep2, oStep3, if_neg hp, hm, hd, if_pos hc', hg])
theorem oReach.mV (hw : ∀ d ∈ ws, d.before a0 Z = true) (hK : KT.all (oKOk ws) = true) (hops : ops.all (oOpOk ws KT CT MT q.1 q.2.1) = true) {j k c p1 p2 : Nat} {z : oMt} {vs r us : List Value} {v : Option Value} {H' : List oObj}
    (hM : oMet l Z n0 KT z (.ref k :: vs) H v H') (hf : oFetch ops pc = some (.invokevirtual j, p1, p2)) (hm : MT[p1]? = some z) (hd : sk.drop z.2.2.2.2.2 = .ref k :: r) (hH : H[k]? = some (.inl (c, us))) (hv : (sk.take z.2.2.2.2.2).reverse = vs)
    (hc : decide (c = p2 ∧ ls.size = q.2.2.1 ∧ z.2.2.2.2.1.frames + 1 ≤ q.2.2.2.2.1.frames ∧ oCatS r + (z.2.2.1 + 11) + z.2.2.2.2.1.locals ≤ q.2.2.2.2.1.locals ∧ cl + z.2.2.2.2.1.cells ≤ q.2.2.2.2.1.cells ∧ sl + z.2.2.2.2.1.slots ≤ q.2.2.2.2.1.slots) = true) :
    oReach l Z n0 KT q (pc, ls, sk, H, cl, sl) (pc + 3, ls, v.toList ++ r, H', cl + z.2.2.2.2.1.cells, sl + z.2.2.2.2.1.slots) := by
  obtain ⟨z0, zb, ml, rt, rm, zn⟩ := z
  obtain ⟨g, hg, hC⟩ := oPick hm hM
  subst hv
  have hc' := of_decide_eq_true hc
  dsimp only at hc' hg hd ⊢
  exact oReach.one (callf := g) hw hK hC hops hf (by simp only [oStep, oStep1, oStep2, oStep3, hm, hd, hH, if_pos hc', hg])
end Calls
/-! what a branch's condition says of numbers -/
def oRel : ClassFile.Cond → Int → Int → Prop
  | .eq, a, b => a = b
  | .ne, a, b => a ≠ b
  | .lt, a, b => a < b
  | .ge, a, b => b ≤ a
  | .gt, a, b => b < a
  | .le, a, b => a ≤ b
theorem oRel_iff (cd : ClassFile.Cond) (x y : Int32) : if_icmp.holds cd x y = true ↔ oRel cd x.toInt y.toInt := by
  cases cd <;> simp only [if_icmp.holds, oRel, beq_iff_eq, bne_iff_ne, ne_eq, decide_eq_true_eq, Int32.toInt_inj, Int32.lt_iff_toInt_lt, Int32.le_iff_toInt_le, GE.ge, GT.gt]
theorem oI_t {cd : ClassFile.Cond} {x y : Int32} {a b : Int} (hx : x.toInt = a) (hy : y.toInt = b) (h : if_icmp.holds cd x y = true) : oRel cd a b := by subst hx hy; exact (oRel_iff cd x y).mp h
theorem oI_f {cd : ClassFile.Cond} {x y : Int32} {a b : Int} (hx : x.toInt = a) (hy : y.toInt = b) (h : ¬ if_icmp.holds cd x y = true) : ¬ oRel cd a b := by subst hx hy; exact fun q => h ((oRel_iff cd x y).mpr q)
theorem oC_t {cd : ClassFile.Cond} {x : Int32} {a : Int} (hx : x.toInt = a) (h : ifCond.holds cd x = true) : oRel cd a 0 := oI_t (y := 0) hx rfl ((if0 cd x) ▸ h)
theorem oC_f {cd : ClassFile.Cond} {x : Int32} {a : Int} (hx : x.toInt = a) (h : ¬ ifCond.holds cd x = true) : ¬ oRel cd a 0 := oI_f (y := 0) hx rfl ((if0 cd x) ▸ h)
theorem oSelfT {cd : ClassFile.Cond} (x : Int32) (h : oRel cd 0 0 := by first | rfl | exact Int.le_refl _) : if_icmp.holds cd x x = true := (oRel_iff cd x x).mpr (by cases cd <;> simp [oRel] at h ⊢)
theorem oSelfF {cd : ClassFile.Cond} (x : Int32) (h : ¬ oRel cd 0 0 := by simp [oRel]) : ¬ if_icmp.holds cd x x = true := fun q => by
  have := (oRel_iff cd x x).mp q
  cases cd <;> simp [oRel] at h this
/-! A9. the end of a law by evaluation: what is left is closed -/
def oRes (q : oMt) (ops : List oOp) : Option oSt → Bool
  | some st => (match oRet q ops st with
    | some (some (.int v), _) => decide (v = 1)
    | _ => false)
  | none => false
theorem oLaw_of_res0 {l : Launch} {Z : State} {a0 : Array Value} {n0 : Nat} {ws : List Jvm.Cond} {KT : List oKl} {CT : List Value} {MT : List oMt} {callf : oCf} {q : oMt} {ops : List oOp} (hw : ∀ d ∈ ws, d.before a0 Z = true) (hK : KT.all (oKOk ws) = true) (hC : ∀ (k : Nat) (q : oMt), MT[k]? = some q → oCallOk l Z n0 KT q (callf k))
    (hpn : plainFor q.1 = true) (hops : ops.all (oOpOk ws KT CT MT q.1 q.2.1) = true) {n : Nat} {st : oSt} {vs : List Value} {H : List oObj} (hR : oReach l Z n0 KT q (0, argsToLocals vs.toArray q.2.2.1, [], H, 0, 0) st)
    (h : oRes q ops (oRun KT CT MT callf q.2.2.2.2.1 q.2.2.1 ops n st) = true) : ∃ H', oMet l Z n0 KT q vs H (some (.int 1)) H' := by
  cases hr : oRun KT CT MT callf q.2.2.2.2.1 q.2.2.1 ops n st with
  | none => rw [hr] at h; cases h
  | some st' =>
    rw [hr] at h
    simp only [oRes] at h
    split at h
    · rename_i v H' he
      have hv := of_decide_eq_true h
      subst hv
      exact ⟨H', oMet_of_reach0 hpn hops (hR.trans (oReach.run hw hK hC hops hr)) he⟩
    · cases h
/-! what local variables a call begins with, as a list -/
def oEnt : List Value → List Slot
  | [] => []
  | v :: r => match v.category with
    | 2 => .val v :: .second :: oEnt r
    | _ => .val v :: oEnt r
theorem oEnt_fold : ∀ (vs : List Value) (l : Array Slot), vs.foldl (fun acc v => if v.category = 2 then (acc.push (.val v)).push .second else acc.push (.val v)) l = (l.toList ++ oEnt vs).toArray
  | [], l => by simp [oEnt]
  | v :: vs, l => by
    rw [List.foldl_cons, oEnt_fold vs]
    cases v <;> simp [oEnt, Value.category]
theorem oEnt_eq (vs : List Value) (n : Nat) {L : List Slot} (h : oEnt vs ++ List.replicate (n - (oEnt vs).length) .unset = L) : argsToLocals vs.toArray n = L.toArray := by
  subst h
  unfold argsToLocals
  rw [List.foldl_toArray]
  dsimp only
  rw [oEnt_fold]
  simp
theorem oMet_of_reach {l : Launch} {Z : State} {n0 : Nat} {ws : List Jvm.Cond} {KT : List oKl} {CT : List Value} {MT : List oMt} {q : oMt} {ops : List oOp} {st' : oSt} {L : List Slot} (hpn : plainFor q.1 = true) (hops : ops.all (oOpOk ws KT CT MT q.1 q.2.1) = true) {vs : List Value} {H H' : List oObj} {r : Option Value}
    (hR : oReach l Z n0 KT q (0, L.toArray, [], H, 0, 0) st') (hret : oRet q ops st' = some (r, H')) (he : oEnt vs ++ List.replicate (q.2.2.1 - (oEnt vs).length) .unset = L := by rfl) : oMet l Z n0 KT q vs H r H' := by
  rw [← oEnt_eq vs q.2.2.1 he] at hR
  exact oMet_of_reach0 hpn hops hR hret
theorem oLaw_of_res {l : Launch} {Z : State} {a0 : Array Value} {n0 : Nat} {ws : List Jvm.Cond} {KT : List oKl} {CT : List Value} {MT : List oMt} {callf : oCf} {q : oMt} {ops : List oOp} {L : List Slot} (hw : ∀ d ∈ ws, d.before a0 Z = true) (hK : KT.all (oKOk ws) = true) (hC : ∀ (k : Nat) (q : oMt), MT[k]? = some q → oCallOk l Z n0 KT q (callf k))
    (hpn : plainFor q.1 = true) (hops : ops.all (oOpOk ws KT CT MT q.1 q.2.1) = true) {n : Nat} {st : oSt} {vs : List Value} {H : List oObj} (hR : oReach l Z n0 KT q (0, L.toArray, [], H, 0, 0) st)
    (h : oRes q ops (oRun KT CT MT callf q.2.2.2.2.1 q.2.2.1 ops n st) = true) (he : oEnt vs ++ List.replicate (q.2.2.1 - (oEnt vs).length) .unset = L := by rfl) : ∃ H', oMet l Z n0 KT q vs H (some (.int 1)) H' := by
  rw [← oEnt_eq vs q.2.2.1 he] at hR
  exact oLaw_of_res0 hw hK hC hpn hops hR h
theorem oMask (x m : Int32) (k : Nat) (hm : 0 ≤ m.toInt) (hk : m.toInt < k) : ∃ a : Fin k, x &&& m = Int32.ofNat a.val := by
  have h := c_and x m hm
  have h2 := Int32.toInt_lt m
  refine ⟨⟨(x &&& m).toInt.toNat, by omega⟩, Int32.toInt_inj.mp ?_⟩
  rw [Int32.toInt_ofNat_of_lt (by show (x &&& m).toInt.toNat < 2 ^ 31; omega)]
  show _ = ((x &&& m).toInt.toNat : Int)
  omega

/-! ## PART B. this claim -/
def oKT : List oKl := []
def oCT : List Value := [.int (65535)]
def oM0 : oMt := (⟨"com/example/lucid_grant/lucidgrant/web/Ascii", "isDigit", "(C)Z"⟩, prog_35_method_2_code, 1, (some .boolean), { frames := 0, cells := 0, slots := 0, locals := 0 }, 1)
def oM1 : oMt := (⟨"com/example/lucid_grant/lucidgrant/web/Ascii", "hexDigit", "(C)I"⟩, prog_35_method_4_code, 1, (some .int), { frames := 1, cells := 0, slots := 0, locals := 12 }, 1)
def oMx : oMt := (x, code, maxLocals, ret, room_1, 1)
def oMT : List oMt := [oM0, oM1]
def oP0 : List oOp := [(0, .iload_n 0, 0, 0), (1, .bipush 48, 0, 0), (3, .if_icmp .lt 13, 0, 0), (6, .iload_n 0, 0, 0), (7, .bipush 57, 0, 0), (9, .if_icmp .gt 7, 0, 0), (12, .iconst 1, 0, 0), (13, .goto 4, 0, 0), (16, .iconst 0, 0, 0), (17, .ireturn, 0, 0)]
def oP1 : List oOp := [(0, .iload_n 0, 0, 0), (1, .invokestatic 7, 0, 0), (4, .ifCond .eq 8, 0, 0), (7, .iload_n 0, 0, 0), (8, .bipush 48, 0, 0), (10, .isub, 0, 0), (11, .ireturn, 0, 0), (12, .iload_n 0, 0, 0), (13, .bipush 97, 0, 0), (15, .if_icmp .lt 9, 0, 0), (18, .iload_n 0, 0, 0), (19, .bipush 102, 0, 0), (21, .if_icmp .le 15, 0, 0), (24, .iload_n 0, 0, 0), (25, .bipush 65, 0, 0), (27, .if_icmp .lt 20, 0, 0), (30, .iload_n 0, 0, 0), (31, .bipush 70, 0, 0), (33, .if_icmp .gt 14, 0, 0), (36, .iload_n 0, 0, 0), (37, .bipush 32, 0, 0), (39, .ior, 0, 0), (40, .bipush 97, 0, 0), (42, .isub, 0, 0), (43, .bipush 10, 0, 0), (45, .iadd, 0, 0), (46, .ireturn, 0, 0), (47, .iconst (-1), 0, 0), (48, .ireturn, 0, 0)]
def oPx : List oOp := [(0, .iload_n 0, 0, 0), (1, .ldc 7, 0, 0), (3, .iand, 0, 0), (4, .i2c, 0, 0), (5, .istore_n 1, 0, 0), (6, .iload_n 1, 0, 0), (7, .invokestatic 8, 1, 0), (10, .istore_n 2, 0, 0), (11, .iload_n 1, 0, 0), (12, .bipush 48, 0, 0), (14, .if_icmp .lt 9, 0, 0), (17, .iload_n 1, 0, 0), (18, .bipush 57, 0, 0), (20, .if_icmp .le 27, 0, 0), (23, .iload_n 1, 0, 0), (24, .bipush 97, 0, 0), (26, .if_icmp .lt 9, 0, 0), (29, .iload_n 1, 0, 0), (30, .bipush 102, 0, 0), (32, .if_icmp .le 15, 0, 0), (35, .iload_n 1, 0, 0), (36, .bipush 65, 0, 0), (38, .if_icmp .lt 13, 0, 0), (41, .iload_n 1, 0, 0), (42, .bipush 70, 0, 0), (44, .if_icmp .gt 7, 0, 0), (47, .iconst 1, 0, 0), (48, .goto 4, 0, 0), (51, .iconst 0, 0, 0), (52, .istore_n 3, 0, 0), (53, .iload_n 2, 0, 0), (54, .iconst (-1), 0, 0), (55, .if_icmp .ne 13, 0, 0), (58, .iload_n 3, 0, 0), (59, .ifCond .ne 7, 0, 0), (62, .iconst 1, 0, 0), (63, .goto 4, 0, 0), (66, .iconst 0, 0, 0), (67, .ireturn, 0, 0), (68, .iload_n 2, 0, 0), (69, .ifCond .lt 9, 0, 0), (72, .iload_n 2, 0, 0), (73, .bipush 15, 0, 0), (75, .if_icmp .le 5, 0, 0), (78, .iconst 0, 0, 0), (79, .ireturn, 0, 0), (80, .ldc 14, 99999, 0), (82, .astore 4, 0, 0), (84, .ldc 16, 99999, 0), (86, .astore 5, 0, 0), (88, .iload_n 1, 0, 0), (89, .aload 4, 0, 0), (91, .iload_n 2, 0, 0), (92, .invokevirtual 18, 99999, 0), (95, .if_icmp .eq 13, 0, 0), (98, .iload_n 1, 0, 0), (99, .aload 5, 0, 0), (101, .iload_n 2, 0, 0), (102, .invokevirtual 18, 99999, 0), (105, .if_icmp .ne 7, 0, 0), (108, .iconst 1, 0, 0), (109, .goto 4, 0, 0), (112, .iconst 0, 0, 0), (113, .ireturn, 0, 0)]
set_option maxRecDepth 65536 in
theorem oK_ok : oKT.all (oKOk tables_1) = true := by decide +kernel
set_option maxRecDepth 65536 in
theorem ops0 : oP0.all (oOpOk tables_1 oKT oCT oMT oM0.1 oM0.2.1) = true := by decide +kernel
theorem pn0 : plainFor oM0.1 = true := plainFor_of_name (by
  show plainName "com/example/lucid_grant/lucidgrant/web/Ascii" = true
  first | (simp [plainName, overriddenIn]; done) | decide +kernel)
set_option maxRecDepth 65536 in
theorem ops1 : oP1.all (oOpOk tables_1 oKT oCT oMT oM1.1 oM1.2.1) = true := by decide +kernel
theorem pn1 : plainFor oM1.1 = true := plainFor_of_name (by
  show plainName "com/example/lucid_grant/lucidgrant/web/Ascii" = true
  first | (simp [plainName, overriddenIn]; done) | decide +kernel)
set_option maxRecDepth 65536 in
theorem opsx : oPx.all (oOpOk tables_1 oKT oCT oMT oMx.1 oMx.2.1) = true := by decide +kernel
theorem pnx : plainFor oMx.1 = true := plainFor_of_name (by
  show plainName "com/example/lucid_grant/lucidgrant/web/AsciiHexDigitPinLaw" = true
  first | (simp [plainName, overriddenIn]; done) | decide +kernel)
section Claim
variable {l : Launch} {Z : State} {a0 : Array Value} {n0 : Nat}
abbrev oHw (a0 : Array Value) (Z : State) : Prop := ∀ d ∈ tables_1, d.before a0 Z = true
theorem fs0 (hw : oHw a0 Z) : oFsOk l Z n0 oKT oMT [] := oFsOk.nil
theorem own_nor (n : Nat) : n ||| 32 = if n % 64 < 32 then n + 32 else n := by
  have e1 : (n ||| 32) / 2 ^ 6 = n / 2 ^ 6 ||| 32 / 2 ^ 6 := Nat.or_div_two_pow
  have e2 : (n ||| 32) % 2 ^ 6 = n % 2 ^ 6 ||| 32 % 2 ^ 6 := Nat.or_mod_two_pow
  have e3 : ∀ r : Fin 64, r.val ||| 32 = if r.val < 32 then r.val + 32 else r.val := by decide +kernel
  have e4 : n % 2 ^ 6 ||| 32 = if n % 2 ^ 6 < 32 then n % 2 ^ 6 + 32 else n % 2 ^ 6 := e3 ⟨n % 2 ^ 6, Nat.mod_lt _ (by decide)⟩
  rw [show 32 / 2 ^ 6 = 0 from rfl, Nat.or_zero] at e1
  rw [show 32 % 2 ^ 6 = 32 from rfl, e4] at e2
  split at e2 <;> split <;> omega
theorem own_or32 (c : Int32) (h0 : 0 ≤ c.toInt) (h1 : c.toInt < 65536) : ((c ||| 32).toInt = c.toInt ∧ 32 ≤ c.toInt % 64) ∨ ((c ||| 32).toInt = c.toInt + 32 ∧ c.toInt % 64 < 32) := by
  have hb : (c ||| 32).toBitVec.toNat = c.toBitVec.toNat ||| 32 := by
    show (c.toBitVec ||| (32 : Int32).toBitVec).toNat = _
    rw [BitVec.toNat_or]; rfl
  rw [own_nor] at hb
  have hlt := c.toBitVec.isLt
  change 0 ≤ c.toBitVec.toInt at h0
  change c.toBitVec.toInt < 65536 at h1
  show ((c ||| 32).toBitVec.toInt = c.toBitVec.toInt ∧ 32 ≤ c.toBitVec.toInt % 64) ∨ ((c ||| 32).toBitVec.toInt = c.toBitVec.toInt + 32 ∧ c.toBitVec.toInt % 64 < 32)
  have e1 := BitVec.toInt_eq_toNat_cond c.toBitVec
  have e2 := BitVec.toInt_eq_toNat_cond (c ||| 32).toBitVec
  split at e1 <;> split at e2 <;> split at hb <;> omega
def sp0 (c : Int32) : Int32 := if 48 ≤ c.toInt ∧ c.toInt ≤ 57 then 1 else 0
theorem sp0_cases (c : Int32) : ((48 ≤ c.toInt ∧ c.toInt ≤ 57) ∧ (sp0 c).toInt = 1) ∨ (¬ (48 ≤ c.toInt ∧ c.toInt ≤ 57) ∧ (sp0 c).toInt = 0) := by
  unfold sp0
  split
  · exact Or.inl ⟨‹_›, rfl⟩
  · exact Or.inr ⟨‹_›, rfl⟩
def f0 (vs : List Value) (H : List oObj) : Option (Option Value × List oObj) := match vs with
  | [.int c] => some (some (.int (sp0 c)), H)
  | _ => none
set_option maxRecDepth 65536 in
set_option maxHeartbeats 4000000 in
theorem ok0 (hw : oHw a0 Z) : oCallOk l Z n0 oKT oM0 f0 := by
  intro vs H r H' h
  have hK := oK_ok
  have hC := (fs0 hw : oFsOk l Z n0 oKT oMT []).call
  unfold f0 at h
  split at h
  case h_2 => cases h
  rename_i c
  cases h
  have R1 := oReach.run (l := l) (n0 := n0) (q := oM0) (CT := oCT) (MT := oMT) (callf := (oCall [])) (ops := oP0) (n := 2) (st := (0, #[.val (.int c)], [], H, 0, 0)) (st' := (3, #[.val (.int c)], [.int (48 : Int32), .int c], H, 0, 0)) hw hK hC ops0 rfl
  by_cases c2 : if_icmp.holds .lt c (48 : Int32) = true
  · -- taken
    have d2 : c.toInt < 48 := oI_t rfl rfl c2
    have R3 := R1.trans (oReach.icmpY (CT := oCT) (MT := oMT) (callf := (oCall [])) (ops := oP0) (pc' := 16) hw hK hC ops0 rfl c2 (by decide) (by decide))
    have R4 := R3.trans (oReach.run (l := l) (n0 := n0) (q := oM0) (CT := oCT) (MT := oMT) (callf := (oCall [])) (ops := oP0) (n := 1) (st' := (17, #[.val (.int c)], [.int (0 : Int32)], H, 0, 0)) hw hK hC ops0 rfl)
    have e : (sp0 c) = (0 : Int32) := if_neg (by omega)
    rw [e]
    exact oMet_of_reach pn0 ops0 R4 rfl
  · -- not taken
    have d2 : ¬ (c.toInt < 48) := oI_f rfl rfl c2
    have R5 := R1.trans (oReach.icmpN (CT := oCT) (MT := oMT) (callf := (oCall [])) (ops := oP0) hw hK hC ops0 rfl c2)
    have R6 := R5.trans (oReach.run (l := l) (n0 := n0) (q := oM0) (CT := oCT) (MT := oMT) (callf := (oCall [])) (ops := oP0) (n := 2) (st' := (9, #[.val (.int c)], [.int (57 : Int32), .int c], H, 0, 0)) hw hK hC ops0 rfl)
    by_cases c7 : if_icmp.holds .gt c (57 : Int32) = true
    · -- taken
      have d7 : 57 < c.toInt := oI_t rfl rfl c7
      have R8 := R6.trans (oReach.icmpY (CT := oCT) (MT := oMT) (callf := (oCall [])) (ops := oP0) (pc' := 16) hw hK hC ops0 rfl c7 (by decide) (by decide))
      have R9 := R8.trans (oReach.run (l := l) (n0 := n0) (q := oM0) (CT := oCT) (MT := oMT) (callf := (oCall [])) (ops := oP0) (n := 1) (st' := (17, #[.val (.int c)], [.int (0 : Int32)], H, 0, 0)) hw hK hC ops0 rfl)
      have e : (sp0 c) = (0 : Int32) := if_neg (by omega)
      rw [e]
      exact oMet_of_reach pn0 ops0 R9 rfl
    · -- not taken
      have d7 : ¬ (57 < c.toInt) := oI_f rfl rfl c7
      have R10 := R6.trans (oReach.icmpN (CT := oCT) (MT := oMT) (callf := (oCall [])) (ops := oP0) hw hK hC ops0 rfl c7)
      have R11 := R10.trans (oReach.run (l := l) (n0 := n0) (q := oM0) (CT := oCT) (MT := oMT) (callf := (oCall [])) (ops := oP0) (n := 2) (st' := (17, #[.val (.int c)], [.int (1 : Int32)], H, 0, 0)) hw hK hC ops0 rfl)
      have e : (sp0 c) = (1 : Int32) := if_pos (by omega)
      rw [e]
      exact oMet_of_reach pn0 ops0 R11 rfl
theorem fs1 (hw : oHw a0 Z) : oFsOk l Z n0 oKT oMT [f0] := (fs0 hw).snoc (fs := []) (q := oM0) rfl (ok0 hw)
def sp1 (c : Int32) : Int32 := if 48 ≤ c.toInt ∧ c.toInt ≤ 57 then c - (48 : Int32) else if (97 ≤ c.toInt ∧ c.toInt ≤ 102) ∨ (65 ≤ c.toInt ∧ c.toInt ≤ 70) then ((c ||| (32 : Int32)) - (97 : Int32)) + (10 : Int32) else (-1 : Int32)
def f1 (vs : List Value) (H : List oObj) : Option (Option Value × List oObj) := match vs with
  | [.int c] => some (some (.int (sp1 c)), H)
  | _ => none
set_option maxRecDepth 65536 in
set_option maxHeartbeats 4000000 in
theorem ok1 (hw : oHw a0 Z) : oCallOk l Z n0 oKT oM1 f1 := by
  intro vs H r H' h
  have hK := oK_ok
  have hC := (fs1 hw : oFsOk l Z n0 oKT oMT [f0]).call
  unfold f1 at h
  split at h
  case h_2 => cases h
  rename_i c
  cases h
  have z1 := sp0_cases c
  have R1 := oReach.run (l := l) (n0 := n0) (q := oM1) (CT := oCT) (MT := oMT) (callf := (oCall [f0])) (ops := oP1) (n := 2) (st := (0, #[.val (.int c)], [], H, 0, 0)) (st' := (4, #[.val (.int c)], [.int (sp0 c)], H, 0, 0)) hw hK hC ops1 rfl
  by_cases c2 : ifCond.holds .eq (sp0 c) = true
  · -- taken
    have d2 : (sp0 c).toInt = 0 := oC_t rfl c2
    have R3 := R1.trans (oReach.ifY (CT := oCT) (MT := oMT) (callf := (oCall [f0])) (ops := oP1) (pc' := 12) hw hK hC ops1 rfl c2 (by decide) (by decide))
    have R4 := R3.trans (oReach.run (l := l) (n0 := n0) (q := oM1) (CT := oCT) (MT := oMT) (callf := (oCall [f0])) (ops := oP1) (n := 2) (st' := (15, #[.val (.int c)], [.int (97 : Int32), .int c], H, 0, 0)) hw hK hC ops1 rfl)
    by_cases c5 : if_icmp.holds .lt c (97 : Int32) = true
    · -- taken
      have d5 : c.toInt < 97 := oI_t rfl rfl c5
      have R6 := R4.trans (oReach.icmpY (CT := oCT) (MT := oMT) (callf := (oCall [f0])) (ops := oP1) (pc' := 24) hw hK hC ops1 rfl c5 (by decide) (by decide))
      have R7 := R6.trans (oReach.run (l := l) (n0 := n0) (q := oM1) (CT := oCT) (MT := oMT) (callf := (oCall [f0])) (ops := oP1) (n := 2) (st' := (27, #[.val (.int c)], [.int (65 : Int32), .int c], H, 0, 0)) hw hK hC ops1 rfl)
      by_cases c8 : if_icmp.holds .lt c (65 : Int32) = true
      · -- taken
        have d8 : c.toInt < 65 := oI_t rfl rfl c8
        have R9 := R7.trans (oReach.icmpY (CT := oCT) (MT := oMT) (callf := (oCall [f0])) (ops := oP1) (pc' := 47) hw hK hC ops1 rfl c8 (by decide) (by decide))
        have R10 := R9.trans (oReach.run (l := l) (n0 := n0) (q := oM1) (CT := oCT) (MT := oMT) (callf := (oCall [f0])) (ops := oP1) (n := 1) (st' := (48, #[.val (.int c)], [.int (-1 : Int32)], H, 0, 0)) hw hK hC ops1 rfl)
        have e : (sp1 c) = (-1 : Int32) := (by unfold sp1; split <;> first | rfl | (exfalso; omega) | (split <;> first | rfl | (exfalso; omega)))
        rw [e]
        exact oMet_of_reach pn1 ops1 R10 rfl
      · -- not taken
        have d8 : ¬ (c.toInt < 65) := oI_f rfl rfl c8
        have R11 := R7.trans (oReach.icmpN (CT := oCT) (MT := oMT) (callf := (oCall [f0])) (ops := oP1) hw hK hC ops1 rfl c8)
        have R12 := R11.trans (oReach.run (l := l) (n0 := n0) (q := oM1) (CT := oCT) (MT := oMT) (callf := (oCall [f0])) (ops := oP1) (n := 2) (st' := (33, #[.val (.int c)], [.int (70 : Int32), .int c], H, 0, 0)) hw hK hC ops1 rfl)
        by_cases c13 : if_icmp.holds .gt c (70 : Int32) = true
        · -- taken
          have d13 : 70 < c.toInt := oI_t rfl rfl c13
          have R14 := R12.trans (oReach.icmpY (CT := oCT) (MT := oMT) (callf := (oCall [f0])) (ops := oP1) (pc' := 47) hw hK hC ops1 rfl c13 (by decide) (by decide))
          have R15 := R14.trans (oReach.run (l := l) (n0 := n0) (q := oM1) (CT := oCT) (MT := oMT) (callf := (oCall [f0])) (ops := oP1) (n := 1) (st' := (48, #[.val (.int c)], [.int (-1 : Int32)], H, 0, 0)) hw hK hC ops1 rfl)
          have e : (sp1 c) = (-1 : Int32) := (by unfold sp1; split <;> first | rfl | (exfalso; omega) | (split <;> first | rfl | (exfalso; omega)))
          rw [e]
          exact oMet_of_reach pn1 ops1 R15 rfl
        · -- not taken
          have d13 : ¬ (70 < c.toInt) := oI_f rfl rfl c13
          have R16 := R12.trans (oReach.icmpN (CT := oCT) (MT := oMT) (callf := (oCall [f0])) (ops := oP1) hw hK hC ops1 rfl c13)
          have R17 := R16.trans (oReach.run (l := l) (n0 := n0) (q := oM1) (CT := oCT) (MT := oMT) (callf := (oCall [f0])) (ops := oP1) (n := 7) (st' := (46, #[.val (.int c)], [.int (((c ||| (32 : Int32)) - (97 : Int32)) + (10 : Int32))], H, 0, 0)) hw hK hC ops1 rfl)
          have e : (sp1 c) = (((c ||| (32 : Int32)) - (97 : Int32)) + (10 : Int32)) := (by unfold sp1; split <;> first | rfl | (exfalso; omega) | (split <;> first | rfl | (exfalso; omega)))
          rw [e]
          exact oMet_of_reach pn1 ops1 R17 rfl
    · -- not taken
      have d5 : ¬ (c.toInt < 97) := oI_f rfl rfl c5
      have R18 := R4.trans (oReach.icmpN (CT := oCT) (MT := oMT) (callf := (oCall [f0])) (ops := oP1) hw hK hC ops1 rfl c5)
      have R19 := R18.trans (oReach.run (l := l) (n0 := n0) (q := oM1) (CT := oCT) (MT := oMT) (callf := (oCall [f0])) (ops := oP1) (n := 2) (st' := (21, #[.val (.int c)], [.int (102 : Int32), .int c], H, 0, 0)) hw hK hC ops1 rfl)
      by_cases c20 : if_icmp.holds .le c (102 : Int32) = true
      · -- taken
        have d20 : c.toInt ≤ 102 := oI_t rfl rfl c20
        have R21 := R19.trans (oReach.icmpY (CT := oCT) (MT := oMT) (callf := (oCall [f0])) (ops := oP1) (pc' := 36) hw hK hC ops1 rfl c20 (by decide) (by decide))
        have R22 := R21.trans (oReach.run (l := l) (n0 := n0) (q := oM1) (CT := oCT) (MT := oMT) (callf := (oCall [f0])) (ops := oP1) (n := 7) (st' := (46, #[.val (.int c)], [.int (((c ||| (32 : Int32)) - (97 : Int32)) + (10 : Int32))], H, 0, 0)) hw hK hC ops1 rfl)
        have e : (sp1 c) = (((c ||| (32 : Int32)) - (97 : Int32)) + (10 : Int32)) := (by unfold sp1; split <;> first | rfl | (exfalso; omega) | (split <;> first | rfl | (exfalso; omega)))
        rw [e]
        exact oMet_of_reach pn1 ops1 R22 rfl
      · -- not taken
        have d20 : ¬ (c.toInt ≤ 102) := oI_f rfl rfl c20
        have R23 := R19.trans (oReach.icmpN (CT := oCT) (MT := oMT) (callf := (oCall [f0])) (ops := oP1) hw hK hC ops1 rfl c20)
        have R24 := R23.trans (oReach.run (l := l) (n0 := n0) (q := oM1) (CT := oCT) (MT := oMT) (callf := (oCall [f0])) (ops := oP1) (n := 2) (st' := (27, #[.val (.int c)], [.int (65 : Int32), .int c], H, 0, 0)) hw hK hC ops1 rfl)
        by_cases c25 : if_icmp.holds .lt c (65 : Int32) = true
        · -- taken
          have d25 : c.toInt < 65 := oI_t rfl rfl c25
          have R26 := R24.trans (oReach.icmpY (CT := oCT) (MT := oMT) (callf := (oCall [f0])) (ops := oP1) (pc' := 47) hw hK hC ops1 rfl c25 (by decide) (by decide))
          have R27 := R26.trans (oReach.run (l := l) (n0 := n0) (q := oM1) (CT := oCT) (MT := oMT) (callf := (oCall [f0])) (ops := oP1) (n := 1) (st' := (48, #[.val (.int c)], [.int (-1 : Int32)], H, 0, 0)) hw hK hC ops1 rfl)
          have e : (sp1 c) = (-1 : Int32) := (by unfold sp1; split <;> first | rfl | (exfalso; omega) | (split <;> first | rfl | (exfalso; omega)))
          rw [e]
          exact oMet_of_reach pn1 ops1 R27 rfl
        · -- not taken
          have d25 : ¬ (c.toInt < 65) := oI_f rfl rfl c25
          have R28 := R24.trans (oReach.icmpN (CT := oCT) (MT := oMT) (callf := (oCall [f0])) (ops := oP1) hw hK hC ops1 rfl c25)
          have R29 := R28.trans (oReach.run (l := l) (n0 := n0) (q := oM1) (CT := oCT) (MT := oMT) (callf := (oCall [f0])) (ops := oP1) (n := 2) (st' := (33, #[.val (.int c)], [.int (70 : Int32), .int c], H, 0, 0)) hw hK hC ops1 rfl)
          by_cases c30 : if_icmp.holds .gt c (70 : Int32) = true
          · -- taken
            have d30 : 70 < c.toInt := oI_t rfl rfl c30
            have R31 := R29.trans (oReach.icmpY (CT := oCT) (MT := oMT) (callf := (oCall [f0])) (ops := oP1) (pc' := 47) hw hK hC ops1 rfl c30 (by decide) (by decide))
            have R32 := R31.trans (oReach.run (l := l) (n0 := n0) (q := oM1) (CT := oCT) (MT := oMT) (callf := (oCall [f0])) (ops := oP1) (n := 1) (st' := (48, #[.val (.int c)], [.int (-1 : Int32)], H, 0, 0)) hw hK hC ops1 rfl)
            have e : (sp1 c) = (-1 : Int32) := (by unfold sp1; split <;> first | rfl | (exfalso; omega) | (split <;> first | rfl | (exfalso; omega)))
            rw [e]
            exact oMet_of_reach pn1 ops1 R32 rfl
          · -- not taken
            have d30 : ¬ (70 < c.toInt) := oI_f rfl rfl c30
            have R33 := R29.trans (oReach.icmpN (CT := oCT) (MT := oMT) (callf := (oCall [f0])) (ops := oP1) hw hK hC ops1 rfl c30)
            have R34 := R33.trans (oReach.run (l := l) (n0 := n0) (q := oM1) (CT := oCT) (MT := oMT) (callf := (oCall [f0])) (ops := oP1) (n := 7) (st' := (46, #[.val (.int c)], [.int (((c ||| (32 : Int32)) - (97 : Int32)) + (10 : Int32))], H, 0, 0)) hw hK hC ops1 rfl)
            have e : (sp1 c) = (((c ||| (32 : Int32)) - (97 : Int32)) + (10 : Int32)) := (by unfold sp1; split <;> first | rfl | (exfalso; omega) | (split <;> first | rfl | (exfalso; omega)))
            rw [e]
            exact oMet_of_reach pn1 ops1 R34 rfl
  · -- not taken
    have d2 : ¬ ((sp0 c).toInt = 0) := oC_f rfl c2
    have R35 := R1.trans (oReach.ifN (CT := oCT) (MT := oMT) (callf := (oCall [f0])) (ops := oP1) hw hK hC ops1 rfl c2)
    have R36 := R35.trans (oReach.run (l := l) (n0 := n0) (q := oM1) (CT := oCT) (MT := oMT) (callf := (oCall [f0])) (ops := oP1) (n := 3) (st' := (11, #[.val (.int c)], [.int (c - (48 : Int32))], H, 0, 0)) hw hK hC ops1 rfl)
    have e : (sp1 c) = (c - (48 : Int32)) := (by unfold sp1; split <;> first | rfl | (exfalso; omega) | (split <;> first | rfl | (exfalso; omega)))
    rw [e]
    exact oMet_of_reach pn1 ops1 R36 rfl
theorem fs2 (hw : oHw a0 Z) : oFsOk l Z n0 oKT oMT [f0, f1] := (fs1 hw).snoc (fs := [f0]) (q := oM1) rfl (ok1 hw)
theorem sp1_cases (c : Int32) (h0 : 0 ≤ c.toInt) (h1 : c.toInt < 65536) : (48 ≤ c.toInt ∧ c.toInt ≤ 57 ∧ (sp1 c).toInt = c.toInt - 48) ∨ (97 ≤ c.toInt ∧ c.toInt ≤ 102 ∧ (sp1 c).toInt = c.toInt - 87) ∨ (65 ≤ c.toInt ∧ c.toInt ≤ 70 ∧ (sp1 c).toInt = c.toInt - 55) ∨ (¬ (48 ≤ c.toInt ∧ c.toInt ≤ 57) ∧ ¬ (97 ≤ c.toInt ∧ c.toInt ≤ 102) ∧ ¬ (65 ≤ c.toInt ∧ c.toInt ≤ 70) ∧ (sp1 c).toInt = -1) := by
  have q1 := c_isub c (48 : Int32)
  have q2 := own_or32 c h0 h1
  have q3 := c_isub (c ||| (32 : Int32)) (97 : Int32)
  have q4 := c_iadd ((c ||| (32 : Int32)) - (97 : Int32)) (10 : Int32)
  have r1 := rng32 (c - (48 : Int32))
  have r3 := rng32 ((c ||| (32 : Int32)) - (97 : Int32))
  have r4 := rng32 (((c ||| (32 : Int32)) - (97 : Int32)) + (10 : Int32))
  simp only [Int32.reduceToInt] at q1 q3 q4
  unfold sp1
  split
  · omega
  · split
    · omega
    · have e : (-1 : Int32).toInt = -1 := by decide
      omega
def lowL : List Int32 := [48, 49, 50, 51, 52, 53, 54, 55, 56, 57, 97, 98, 99, 100, 101, 102]
def upL : List Int32 := [48, 49, 50, 51, 52, 53, 54, 55, 56, 57, 65, 66, 67, 68, 69, 70]
theorem own_lt : ∀ i : Nat, i < 10 → (lowL.getD i 0).toInt = 48 + (i : Int) := by decide +kernel
theorem own_lh : ∀ i : Nat, i < 16 → 10 ≤ i → (lowL.getD i 0).toInt = 87 + (i : Int) := by decide +kernel
theorem own_uh : ∀ i : Nat, i < 16 → 10 ≤ i → (upL.getD i 0).toInt = 55 + (i : Int) := by decide +kernel
theorem own_of (r : Int32) (h0 : 0 ≤ r.toInt) : r = Int32.ofNat r.toInt.toNat := by
  have h2 := Int32.toInt_lt r
  apply Int32.toInt_inj.mp
  rw [Int32.toInt_ofNat_of_lt (by show r.toInt.toNat < 2 ^ 31; omega)]
  show _ = (r.toInt.toNat : Int)
  omega
theorem own_at (c r : Int32) (h : (48 ≤ c.toInt ∧ c.toInt ≤ 57 ∧ r.toInt = c.toInt - 48) ∨ (97 ≤ c.toInt ∧ c.toInt ≤ 102 ∧ r.toInt = c.toInt - 87) ∨ (65 ≤ c.toInt ∧ c.toInt ≤ 70 ∧ r.toInt = c.toInt - 55)) : ∃ i : Nat, i < 16 ∧ r = Int32.ofNat i ∧ (c = lowL.getD i 0 ∨ c = upL.getD i 0) := by
  rcases h with ⟨h1, h2, h3⟩ | ⟨h1, h2, h3⟩ | ⟨h1, h2, h3⟩
  · refine ⟨r.toInt.toNat, by omega, own_of r (by omega), Or.inl (Int32.toInt_inj.mp ?_)⟩
    rw [own_lt _ (by omega)]
    omega
  · refine ⟨r.toInt.toNat, by omega, own_of r (by omega), Or.inl (Int32.toInt_inj.mp ?_)⟩
    rw [own_lh _ (by omega) (by omega)]
    omega
  · refine ⟨r.toInt.toNat, by omega, own_of r (by omega), Or.inr (Int32.toInt_inj.mp ?_)⟩
    rw [own_uh _ (by omega) (by omega)]
    omega
set_option maxRecDepth 65536 in
set_option maxHeartbeats 40000000 in
theorem head_ok (hw : oHw a0 Z) (xx : Int32) : (∃ H', oMet l Z n0 oKT oMx [.int xx] [] (some (.int 1)) H') ∨ ∃ b : Int32, oReach l Z n0 oKT oMx (0, #[.val (.int xx), .unset, .unset, .unset, .unset, .unset], [], [], 0, 0) (80, #[.val (.int xx), .val (.int ((xx &&& (65535 : Int32)).toUInt32.toUInt16.toUInt32.toInt32)), .val (.int (sp1 ((xx &&& (65535 : Int32)).toUInt32.toUInt16.toUInt32.toInt32))), .val (.int b), .unset, .unset], [], [], 0, 0) ∧ ∃ i : Nat, i < 16 ∧ (sp1 ((xx &&& (65535 : Int32)).toUInt32.toUInt16.toUInt32.toInt32)) = Int32.ofNat i ∧ (((xx &&& (65535 : Int32)).toUInt32.toUInt16.toUInt32.toInt32) = lowL.getD i 0 ∨ ((xx &&& (65535 : Int32)).toUInt32.toUInt16.toUInt32.toInt32) = upL.getD i 0) := by
  have hK := oK_ok
  have hC := (fs2 hw : oFsOk l Z n0 oKT oMT [f0, f1]).call
  have q1 := c_i2c (xx &&& (65535 : Int32))
  have q2 := sp1_cases ((xx &&& (65535 : Int32)).toUInt32.toUInt16.toUInt32.toInt32) q1.2.1 q1.2.2
  have R1 := oReach.run (l := l) (n0 := n0) (q := oMx) (CT := oCT) (MT := oMT) (callf := (oCall [f0, f1])) (ops := oPx) (n := 10) (st := (0, #[.val (.int xx), .unset, .unset, .unset, .unset, .unset], [], [], 0, 0)) (st' := (14, #[.val (.int xx), .val (.int ((xx &&& (65535 : Int32)).toUInt32.toUInt16.toUInt32.toInt32)), .val (.int (sp1 ((xx &&& (65535 : Int32)).toUInt32.toUInt16.toUInt32.toInt32))), .unset, .unset, .unset], [.int (48 : Int32), .int ((xx &&& (65535 : Int32)).toUInt32.toUInt16.toUInt32.toInt32)], [], 0, 0)) hw hK hC opsx rfl
  obtain ⟨v2, mR3, R3⟩ : ∃ v2 : Int32, ((((xx &&& (65535 : Int32)).toUInt32.toUInt16.toUInt32.toInt32).toInt < 48 ∧ ((xx &&& (65535 : Int32)).toUInt32.toUInt16.toUInt32.toInt32).toInt < 97 ∧ ((xx &&& (65535 : Int32)).toUInt32.toUInt16.toUInt32.toInt32).toInt < 65 ∧ v2.toInt = 0) ∨ (((xx &&& (65535 : Int32)).toUInt32.toUInt16.toUInt32.toInt32).toInt < 48 ∧ ((xx &&& (65535 : Int32)).toUInt32.toUInt16.toUInt32.toInt32).toInt < 97 ∧ ¬ (((xx &&& (65535 : Int32)).toUInt32.toUInt16.toUInt32.toInt32).toInt < 65) ∧ 70 < ((xx &&& (65535 : Int32)).toUInt32.toUInt16.toUInt32.toInt32).toInt ∧ v2.toInt = 0) ∨ (((xx &&& (65535 : Int32)).toUInt32.toUInt16.toUInt32.toInt32).toInt < 48 ∧ ((xx &&& (65535 : Int32)).toUInt32.toUInt16.toUInt32.toInt32).toInt < 97 ∧ ¬ (((xx &&& (65535 : Int32)).toUInt32.toUInt16.toUInt32.toInt32).toInt < 65) ∧ ¬ (70 < ((xx &&& (65535 : Int32)).toUInt32.toUInt16.toUInt32.toInt32).toInt) ∧ v2.toInt = 1) ∨ (((xx &&& (65535 : Int32)).toUInt32.toUInt16.toUInt32.toInt32).toInt < 48 ∧ ¬ (((xx &&& (65535 : Int32)).toUInt32.toUInt16.toUInt32.toInt32).toInt < 97) ∧ ((xx &&& (65535 : Int32)).toUInt32.toUInt16.toUInt32.toInt32).toInt ≤ 102 ∧ v2.toInt = 1) ∨ (((xx &&& (65535 : Int32)).toUInt32.toUInt16.toUInt32.toInt32).toInt < 48 ∧ ¬ (((xx &&& (65535 : Int32)).toUInt32.toUInt16.toUInt32.toInt32).toInt < 97) ∧ ¬ (((xx &&& (65535 : Int32)).toUInt32.toUInt16.toUInt32.toInt32).toInt ≤ 102) ∧ ((xx &&& (65535 : Int32)).toUInt32.toUInt16.toUInt32.toInt32).toInt < 65 ∧ v2.toInt = 0) ∨ (((xx &&& (65535 : Int32)).toUInt32.toUInt16.toUInt32.toInt32).toInt < 48 ∧ ¬ (((xx &&& (65535 : Int32)).toUInt32.toUInt16.toUInt32.toInt32).toInt < 97) ∧ ¬ (((xx &&& (65535 : Int32)).toUInt32.toUInt16.toUInt32.toInt32).toInt ≤ 102) ∧ ¬ (((xx &&& (65535 : Int32)).toUInt32.toUInt16.toUInt32.toInt32).toInt < 65) ∧ 70 < ((xx &&& (65535 : Int32)).toUInt32.toUInt16.toUInt32.toInt32).toInt ∧ v2.toInt = 0) ∨ (((xx &&& (65535 : Int32)).toUInt32.toUInt16.toUInt32.toInt32).toInt < 48 ∧ ¬ (((xx &&& (65535 : Int32)).toUInt32.toUInt16.toUInt32.toInt32).toInt < 97) ∧ ¬ (((xx &&& (65535 : Int32)).toUInt32.toUInt16.toUInt32.toInt32).toInt ≤ 102) ∧ ¬ (((xx &&& (65535 : Int32)).toUInt32.toUInt16.toUInt32.toInt32).toInt < 65) ∧ ¬ (70 < ((xx &&& (65535 : Int32)).toUInt32.toUInt16.toUInt32.toInt32).toInt) ∧ v2.toInt = 1) ∨ (¬ (((xx &&& (65535 : Int32)).toUInt32.toUInt16.toUInt32.toInt32).toInt < 48) ∧ ((xx &&& (65535 : Int32)).toUInt32.toUInt16.toUInt32.toInt32).toInt ≤ 57 ∧ v2.toInt = 1) ∨ (¬ (((xx &&& (65535 : Int32)).toUInt32.toUInt16.toUInt32.toInt32).toInt < 48) ∧ ¬ (((xx &&& (65535 : Int32)).toUInt32.toUInt16.toUInt32.toInt32).toInt ≤ 57) ∧ ((xx &&& (65535 : Int32)).toUInt32.toUInt16.toUInt32.toInt32).toInt < 97 ∧ ((xx &&& (65535 : Int32)).toUInt32.toUInt16.toUInt32.toInt32).toInt < 65 ∧ v2.toInt = 0) ∨ (¬ (((xx &&& (65535 : Int32)).toUInt32.toUInt16.toUInt32.toInt32).toInt < 48) ∧ ¬ (((xx &&& (65535 : Int32)).toUInt32.toUInt16.toUInt32.toInt32).toInt ≤ 57) ∧ ((xx &&& (65535 : Int32)).toUInt32.toUInt16.toUInt32.toInt32).toInt < 97 ∧ ¬ (((xx &&& (65535 : Int32)).toUInt32.toUInt16.toUInt32.toInt32).toInt < 65) ∧ 70 < ((xx &&& (65535 : Int32)).toUInt32.toUInt16.toUInt32.toInt32).toInt ∧ v2.toInt = 0) ∨ (¬ (((xx &&& (65535 : Int32)).toUInt32.toUInt16.toUInt32.toInt32).toInt < 48) ∧ ¬ (((xx &&& (65535 : Int32)).toUInt32.toUInt16.toUInt32.toInt32).toInt ≤ 57) ∧ ((xx &&& (65535 : Int32)).toUInt32.toUInt16.toUInt32.toInt32).toInt < 97 ∧ ¬ (((xx &&& (65535 : Int32)).toUInt32.toUInt16.toUInt32.toInt32).toInt < 65) ∧ ¬ (70 < ((xx &&& (65535 : Int32)).toUInt32.toUInt16.toUInt32.toInt32).toInt) ∧ v2.toInt = 1) ∨ (¬ (((xx &&& (65535 : Int32)).toUInt32.toUInt16.toUInt32.toInt32).toInt < 48) ∧ ¬ (((xx &&& (65535 : Int32)).toUInt32.toUInt16.toUInt32.toInt32).toInt ≤ 57) ∧ ¬ (((xx &&& (65535 : Int32)).toUInt32.toUInt16.toUInt32.toInt32).toInt < 97) ∧ ((xx &&& (65535 : Int32)).toUInt32.toUInt16.toUInt32.toInt32).toInt ≤ 102 ∧ v2.toInt = 1) ∨ (¬ (((xx &&& (65535 : Int32)).toUInt32.toUInt16.toUInt32.toInt32).toInt < 48) ∧ ¬ (((xx &&& (65535 : Int32)).toUInt32.toUInt16.toUInt32.toInt32).toInt ≤ 57) ∧ ¬ (((xx &&& (65535 : Int32)).toUInt32.toUInt16.toUInt32.toInt32).toInt < 97) ∧ ¬ (((xx &&& (65535 : Int32)).toUInt32.toUInt16.toUInt32.toInt32).toInt ≤ 102) ∧ ((xx &&& (65535 : Int32)).toUInt32.toUInt16.toUInt32.toInt32).toInt < 65 ∧ v2.toInt = 0) ∨ (¬ (((xx &&& (65535 : Int32)).toUInt32.toUInt16.toUInt32.toInt32).toInt < 48) ∧ ¬ (((xx &&& (65535 : Int32)).toUInt32.toUInt16.toUInt32.toInt32).toInt ≤ 57) ∧ ¬ (((xx &&& (65535 : Int32)).toUInt32.toUInt16.toUInt32.toInt32).toInt < 97) ∧ ¬ (((xx &&& (65535 : Int32)).toUInt32.toUInt16.toUInt32.toInt32).toInt ≤ 102) ∧ ¬ (((xx &&& (65535 : Int32)).toUInt32.toUInt16.toUInt32.toInt32).toInt < 65) ∧ 70 < ((xx &&& (65535 : Int32)).toUInt32.toUInt16.toUInt32.toInt32).toInt ∧ v2.toInt = 0) ∨ (¬ (((xx &&& (65535 : Int32)).toUInt32.toUInt16.toUInt32.toInt32).toInt < 48) ∧ ¬ (((xx &&& (65535 : Int32)).toUInt32.toUInt16.toUInt32.toInt32).toInt ≤ 57) ∧ ¬ (((xx &&& (65535 : Int32)).toUInt32.toUInt16.toUInt32.toInt32).toInt < 97) ∧ ¬ (((xx &&& (65535 : Int32)).toUInt32.toUInt16.toUInt32.toInt32).toInt ≤ 102) ∧ ¬ (((xx &&& (65535 : Int32)).toUInt32.toUInt16.toUInt32.toInt32).toInt < 65) ∧ ¬ (70 < ((xx &&& (65535 : Int32)).toUInt32.toUInt16.toUInt32.toInt32).toInt) ∧ v2.toInt = 1)) ∧ oReach l Z n0 oKT oMx (0, #[.val (.int xx), .unset, .unset, .unset, .unset, .unset], [], [], 0, 0) (52, #[.val (.int xx), .val (.int ((xx &&& (65535 : Int32)).toUInt32.toUInt16.toUInt32.toInt32)), .val (.int (sp1 ((xx &&& (65535 : Int32)).toUInt32.toUInt16.toUInt32.toInt32))), .unset, .unset, .unset], [.int v2], [], 0, 0) := by
    by_cases c4 : if_icmp.holds .lt ((xx &&& (65535 : Int32)).toUInt32.toUInt16.toUInt32.toInt32) (48 : Int32) = true
    · -- taken
      have d4 : ((xx &&& (65535 : Int32)).toUInt32.toUInt16.toUInt32.toInt32).toInt < 48 := oI_t rfl rfl c4
      have R5 := R1.trans (oReach.icmpY (CT := oCT) (MT := oMT) (callf := (oCall [f0, f1])) (ops := oPx) (pc' := 23) hw hK hC opsx rfl c4 (by decide) (by decide))
      have R6 := R5.trans (oReach.run (l := l) (n0 := n0) (q := oMx) (CT := oCT) (MT := oMT) (callf := (oCall [f0, f1])) (ops := oPx) (n := 2) (st' := (26, #[.val (.int xx), .val (.int ((xx &&& (65535 : Int32)).toUInt32.toUInt16.toUInt32.toInt32)), .val (.int (sp1 ((xx &&& (65535 : Int32)).toUInt32.toUInt16.toUInt32.toInt32))), .unset, .unset, .unset], [.int (97 : Int32), .int ((xx &&& (65535 : Int32)).toUInt32.toUInt16.toUInt32.toInt32)], [], 0, 0)) hw hK hC opsx rfl)
      by_cases c7 : if_icmp.holds .lt ((xx &&& (65535 : Int32)).toUInt32.toUInt16.toUInt32.toInt32) (97 : Int32) = true
      · -- taken
        have d7 : ((xx &&& (65535 : Int32)).toUInt32.toUInt16.toUInt32.toInt32).toInt < 97 := oI_t rfl rfl c7
        have R8 := R6.trans (oReach.icmpY (CT := oCT) (MT := oMT) (callf := (oCall [f0, f1])) (ops := oPx) (pc' := 35) hw hK hC opsx rfl c7 (by decide) (by decide))
        have R9 := R8.trans (oReach.run (l := l) (n0 := n0) (q := oMx) (CT := oCT) (MT := oMT) (callf := (oCall [f0, f1])) (ops := oPx) (n := 2) (st' := (38, #[.val (.int xx), .val (.int ((xx &&& (65535 : Int32)).toUInt32.toUInt16.toUInt32.toInt32)), .val (.int (sp1 ((xx &&& (65535 : Int32)).toUInt32.toUInt16.toUInt32.toInt32))), .unset, .unset, .unset], [.int (65 : Int32), .int ((xx &&& (65535 : Int32)).toUInt32.toUInt16.toUInt32.toInt32)], [], 0, 0)) hw hK hC opsx rfl)
        by_cases c10 : if_icmp.holds .lt ((xx &&& (65535 : Int32)).toUInt32.toUInt16.toUInt32.toInt32) (65 : Int32) = true
        · -- taken
          have d10 : ((xx &&& (65535 : Int32)).toUInt32.toUInt16.toUInt32.toInt32).toInt < 65 := oI_t rfl rfl c10
          have R11 := R9.trans (oReach.icmpY (CT := oCT) (MT := oMT) (callf := (oCall [f0, f1])) (ops := oPx) (pc' := 51) hw hK hC opsx rfl c10 (by decide) (by decide))
          have R12 := R11.trans (oReach.run (l := l) (n0 := n0) (q := oMx) (CT := oCT) (MT := oMT) (callf := (oCall [f0, f1])) (ops := oPx) (n := 1) (st' := (52, #[.val (.int xx), .val (.int ((xx &&& (65535 : Int32)).toUInt32.toUInt16.toUInt32.toInt32)), .val (.int (sp1 ((xx &&& (65535 : Int32)).toUInt32.toUInt16.toUInt32.toInt32))), .unset, .unset, .unset], [.int (0 : Int32)], [], 0, 0)) hw hK hC opsx rfl)
          exact ⟨(0 : Int32), Or.inl ⟨d4, d7, d10, rfl⟩, R12⟩
        · -- not taken
          have d10 : ¬ (((xx &&& (65535 : Int32)).toUInt32.toUInt16.toUInt32.toInt32).toInt < 65) := oI_f rfl rfl c10
          have R13 := R9.trans (oReach.icmpN (CT := oCT) (MT := oMT) (callf := (oCall [f0, f1])) (ops := oPx) hw hK hC opsx rfl c10)
          have R14 := R13.trans (oReach.run (l := l) (n0 := n0) (q := oMx) (CT := oCT) (MT := oMT) (callf := (oCall [f0, f1])) (ops := oPx) (n := 2) (st' := (44, #[.val (.int xx), .val (.int ((xx &&& (65535 : Int32)).toUInt32.toUInt16.toUInt32.toInt32)), .val (.int (sp1 ((xx &&& (65535 : Int32)).toUInt32.toUInt16.toUInt32.toInt32))), .unset, .unset, .unset], [.int (70 : Int32), .int ((xx &&& (65535 : Int32)).toUInt32.toUInt16.toUInt32.toInt32)], [], 0, 0)) hw hK hC opsx rfl)
          by_cases c15 : if_icmp.holds .gt ((xx &&& (65535 : Int32)).toUInt32.toUInt16.toUInt32.toInt32) (70 : Int32) = true
          · -- taken
            have d15 : 70 < ((xx &&& (65535 : Int32)).toUInt32.toUInt16.toUInt32.toInt32).toInt := oI_t rfl rfl c15
            have R16 := R14.trans (oReach.icmpY (CT := oCT) (MT := oMT) (callf := (oCall [f0, f1])) (ops := oPx) (pc' := 51) hw hK hC opsx rfl c15 (by decide) (by decide))
            have R17 := R16.trans (oReach.run (l := l) (n0 := n0) (q := oMx) (CT := oCT) (MT := oMT) (callf := (oCall [f0, f1])) (ops := oPx) (n := 1) (st' := (52, #[.val (.int xx), .val (.int ((xx &&& (65535 : Int32)).toUInt32.toUInt16.toUInt32.toInt32)), .val (.int (sp1 ((xx &&& (65535 : Int32)).toUInt32.toUInt16.toUInt32.toInt32))), .unset, .unset, .unset], [.int (0 : Int32)], [], 0, 0)) hw hK hC opsx rfl)
            exact ⟨(0 : Int32), Or.inr (Or.inl ⟨d4, d7, d10, d15, rfl⟩), R17⟩
          · -- not taken
            have d15 : ¬ (70 < ((xx &&& (65535 : Int32)).toUInt32.toUInt16.toUInt32.toInt32).toInt) := oI_f rfl rfl c15
            have R18 := R14.trans (oReach.icmpN (CT := oCT) (MT := oMT) (callf := (oCall [f0, f1])) (ops := oPx) hw hK hC opsx rfl c15)
            have R19 := R18.trans (oReach.run (l := l) (n0 := n0) (q := oMx) (CT := oCT) (MT := oMT) (callf := (oCall [f0, f1])) (ops := oPx) (n := 2) (st' := (52, #[.val (.int xx), .val (.int ((xx &&& (65535 : Int32)).toUInt32.toUInt16.toUInt32.toInt32)), .val (.int (sp1 ((xx &&& (65535 : Int32)).toUInt32.toUInt16.toUInt32.toInt32))), .unset, .unset, .unset], [.int (1 : Int32)], [], 0, 0)) hw hK hC opsx rfl)
            exact ⟨(1 : Int32), Or.inr (Or.inr (Or.inl ⟨d4, d7, d10, d15, rfl⟩)), R19⟩
      · -- not taken
        have d7 : ¬ (((xx &&& (65535 : Int32)).toUInt32.toUInt16.toUInt32.toInt32).toInt < 97) := oI_f rfl rfl c7
        have R20 := R6.trans (oReach.icmpN (CT := oCT) (MT := oMT) (callf := (oCall [f0, f1])) (ops := oPx) hw hK hC opsx rfl c7)
        have R21 := R20.trans (oReach.run (l := l) (n0 := n0) (q := oMx) (CT := oCT) (MT := oMT) (callf := (oCall [f0, f1])) (ops := oPx) (n := 2) (st' := (32, #[.val (.int xx), .val (.int ((xx &&& (65535 : Int32)).toUInt32.toUInt16.toUInt32.toInt32)), .val (.int (sp1 ((xx &&& (65535 : Int32)).toUInt32.toUInt16.toUInt32.toInt32))), .unset, .unset, .unset], [.int (102 : Int32), .int ((xx &&& (65535 : Int32)).toUInt32.toUInt16.toUInt32.toInt32)], [], 0, 0)) hw hK hC opsx rfl)
        by_cases c22 : if_icmp.holds .le ((xx &&& (65535 : Int32)).toUInt32.toUInt16.toUInt32.toInt32) (102 : Int32) = true
        · -- taken
          have d22 : ((xx &&& (65535 : Int32)).toUInt32.toUInt16.toUInt32.toInt32).toInt ≤ 102 := oI_t rfl rfl c22
          have R23 := R21.trans (oReach.icmpY (CT := oCT) (MT := oMT) (callf := (oCall [f0, f1])) (ops := oPx) (pc' := 47) hw hK hC opsx rfl c22 (by decide) (by decide))
          have R24 := R23.trans (oReach.run (l := l) (n0 := n0) (q := oMx) (CT := oCT) (MT := oMT) (callf := (oCall [f0, f1])) (ops := oPx) (n := 2) (st' := (52, #[.val (.int xx), .val (.int ((xx &&& (65535 : Int32)).toUInt32.toUInt16.toUInt32.toInt32)), .val (.int (sp1 ((xx &&& (65535 : Int32)).toUInt32.toUInt16.toUInt32.toInt32))), .unset, .unset, .unset], [.int (1 : Int32)], [], 0, 0)) hw hK hC opsx rfl)
          exact ⟨(1 : Int32), Or.inr (Or.inr (Or.inr (Or.inl ⟨d4, d7, d22, rfl⟩))), R24⟩
        · -- not taken
          have d22 : ¬ (((xx &&& (65535 : Int32)).toUInt32.toUInt16.toUInt32.toInt32).toInt ≤ 102) := oI_f rfl rfl c22
          have R25 := R21.trans (oReach.icmpN (CT := oCT) (MT := oMT) (callf := (oCall [f0, f1])) (ops := oPx) hw hK hC opsx rfl c22)
          have R26 := R25.trans (oReach.run (l := l) (n0 := n0) (q := oMx) (CT := oCT) (MT := oMT) (callf := (oCall [f0, f1])) (ops := oPx) (n := 2) (st' := (38, #[.val (.int xx), .val (.int ((xx &&& (65535 : Int32)).toUInt32.toUInt16.toUInt32.toInt32)), .val (.int (sp1 ((xx &&& (65535 : Int32)).toUInt32.toUInt16.toUInt32.toInt32))), .unset, .unset, .unset], [.int (65 : Int32), .int ((xx &&& (65535 : Int32)).toUInt32.toUInt16.toUInt32.toInt32)], [], 0, 0)) hw hK hC opsx rfl)
          by_cases c27 : if_icmp.holds .lt ((xx &&& (65535 : Int32)).toUInt32.toUInt16.toUInt32.toInt32) (65 : Int32) = true
          · -- taken
            have d27 : ((xx &&& (65535 : Int32)).toUInt32.toUInt16.toUInt32.toInt32).toInt < 65 := oI_t rfl rfl c27
            have R28 := R26.trans (oReach.icmpY (CT := oCT) (MT := oMT) (callf := (oCall [f0, f1])) (ops := oPx) (pc' := 51) hw hK hC opsx rfl c27 (by decide) (by decide))
            have R29 := R28.trans (oReach.run (l := l) (n0 := n0) (q := oMx) (CT := oCT) (MT := oMT) (callf := (oCall [f0, f1])) (ops := oPx) (n := 1) (st' := (52, #[.val (.int xx), .val (.int ((xx &&& (65535 : Int32)).toUInt32.toUInt16.toUInt32.toInt32)), .val (.int (sp1 ((xx &&& (65535 : Int32)).toUInt32.toUInt16.toUInt32.toInt32))), .unset, .unset, .unset], [.int (0 : Int32)], [], 0, 0)) hw hK hC opsx rfl)
            exact ⟨(0 : Int32), Or.inr (Or.inr (Or.inr (Or.inr (Or.inl ⟨d4, d7, d22, d27, rfl⟩)))), R29⟩
          · -- not taken
            have d27 : ¬ (((xx &&& (65535 : Int32)).toUInt32.toUInt16.toUInt32.toInt32).toInt < 65) := oI_f rfl rfl c27
            have R30 := R26.trans (oReach.icmpN (CT := oCT) (MT := oMT) (callf := (oCall [f0, f1])) (ops := oPx) hw hK hC opsx rfl c27)
            have R31 := R30.trans (oReach.run (l := l) (n0 := n0) (q := oMx) (CT := oCT) (MT := oMT) (callf := (oCall [f0, f1])) (ops := oPx) (n := 2) (st' := (44, #[.val (.int xx), .val (.int ((xx &&& (65535 : Int32)).toUInt32.toUInt16.toUInt32.toInt32)), .val (.int (sp1 ((xx &&& (65535 : Int32)).toUInt32.toUInt16.toUInt32.toInt32))), .unset, .unset, .unset], [.int (70 : Int32), .int ((xx &&& (65535 : Int32)).toUInt32.toUInt16.toUInt32.toInt32)], [], 0, 0)) hw hK hC opsx rfl)
            by_cases c32 : if_icmp.holds .gt ((xx &&& (65535 : Int32)).toUInt32.toUInt16.toUInt32.toInt32) (70 : Int32) = true
            · -- taken
              have d32 : 70 < ((xx &&& (65535 : Int32)).toUInt32.toUInt16.toUInt32.toInt32).toInt := oI_t rfl rfl c32
              have R33 := R31.trans (oReach.icmpY (CT := oCT) (MT := oMT) (callf := (oCall [f0, f1])) (ops := oPx) (pc' := 51) hw hK hC opsx rfl c32 (by decide) (by decide))
              have R34 := R33.trans (oReach.run (l := l) (n0 := n0) (q := oMx) (CT := oCT) (MT := oMT) (callf := (oCall [f0, f1])) (ops := oPx) (n := 1) (st' := (52, #[.val (.int xx), .val (.int ((xx &&& (65535 : Int32)).toUInt32.toUInt16.toUInt32.toInt32)), .val (.int (sp1 ((xx &&& (65535 : Int32)).toUInt32.toUInt16.toUInt32.toInt32))), .unset, .unset, .unset], [.int (0 : Int32)], [], 0, 0)) hw hK hC opsx rfl)
              exact ⟨(0 : Int32), Or.inr (Or.inr (Or.inr (Or.inr (Or.inr (Or.inl ⟨d4, d7, d22, d27, d32, rfl⟩))))), R34⟩
            · -- not taken
              have d32 : ¬ (70 < ((xx &&& (65535 : Int32)).toUInt32.toUInt16.toUInt32.toInt32).toInt) := oI_f rfl rfl c32
              have R35 := R31.trans (oReach.icmpN (CT := oCT) (MT := oMT) (callf := (oCall [f0, f1])) (ops := oPx) hw hK hC opsx rfl c32)
              have R36 := R35.trans (oReach.run (l := l) (n0 := n0) (q := oMx) (CT := oCT) (MT := oMT) (callf := (oCall [f0, f1])) (ops := oPx) (n := 2) (st' := (52, #[.val (.int xx), .val (.int ((xx &&& (65535 : Int32)).toUInt32.toUInt16.toUInt32.toInt32)), .val (.int (sp1 ((xx &&& (65535 : Int32)).toUInt32.toUInt16.toUInt32.toInt32))), .unset, .unset, .unset], [.int (1 : Int32)], [], 0, 0)) hw hK hC opsx rfl)
              exact ⟨(1 : Int32), Or.inr (Or.inr (Or.inr (Or.inr (Or.inr (Or.inr (Or.inl ⟨d4, d7, d22, d27, d32, rfl⟩)))))), R36⟩
    · -- not taken
      have d4 : ¬ (((xx &&& (65535 : Int32)).toUInt32.toUInt16.toUInt32.toInt32).toInt < 48) := oI_f rfl rfl c4
      have R37 := R1.trans (oReach.icmpN (CT := oCT) (MT := oMT) (callf := (oCall [f0, f1])) (ops := oPx) hw hK hC opsx rfl c4)
      have R38 := R37.trans (oReach.run (l := l) (n0 := n0) (q := oMx) (CT := oCT) (MT := oMT) (callf := (oCall [f0, f1])) (ops := oPx) (n := 2) (st' := (20, #[.val (.int xx), .val (.int ((xx &&& (65535 : Int32)).toUInt32.toUInt16.toUInt32.toInt32)), .val (.int (sp1 ((xx &&& (65535 : Int32)).toUInt32.toUInt16.toUInt32.toInt32))), .unset, .unset, .unset], [.int (57 : Int32), .int ((xx &&& (65535 : Int32)).toUInt32.toUInt16.toUInt32.toInt32)], [], 0, 0)) hw hK hC opsx rfl)
      by_cases c39 : if_icmp.holds .le ((xx &&& (65535 : Int32)).toUInt32.toUInt16.toUInt32.toInt32) (57 : Int32) = true
      · -- taken
        have d39 : ((xx &&& (65535 : Int32)).toUInt32.toUInt16.toUInt32.toInt32).toInt ≤ 57 := oI_t rfl rfl c39
        have R40 := R38.trans (oReach.icmpY (CT := oCT) (MT := oMT) (callf := (oCall [f0, f1])) (ops := oPx) (pc' := 47) hw hK hC opsx rfl c39 (by decide) (by decide))
        have R41 := R40.trans (oReach.run (l := l) (n0 := n0) (q := oMx) (CT := oCT) (MT := oMT) (callf := (oCall [f0, f1])) (ops := oPx) (n := 2) (st' := (52, #[.val (.int xx), .val (.int ((xx &&& (65535 : Int32)).toUInt32.toUInt16.toUInt32.toInt32)), .val (.int (sp1 ((xx &&& (65535 : Int32)).toUInt32.toUInt16.toUInt32.toInt32))), .unset, .unset, .unset], [.int (1 : Int32)], [], 0, 0)) hw hK hC opsx rfl)
        exact ⟨(1 : Int32), Or.inr (Or.inr (Or.inr (Or.inr (Or.inr (Or.inr (Or.inr (Or.inl ⟨d4, d39, rfl⟩))))))), R41⟩
      · -- not taken
        have d39 : ¬ (((xx &&& (65535 : Int32)).toUInt32.toUInt16.toUInt32.toInt32).toInt ≤ 57) := oI_f rfl rfl c39
        have R42 := R38.trans (oReach.icmpN (CT := oCT) (MT := oMT) (callf := (oCall [f0, f1])) (ops := oPx) hw hK hC opsx rfl c39)
        have R43 := R42.trans (oReach.run (l := l) (n0 := n0) (q := oMx) (CT := oCT) (MT := oMT) (callf := (oCall [f0, f1])) (ops := oPx) (n := 2) (st' := (26, #[.val (.int xx), .val (.int ((xx &&& (65535 : Int32)).toUInt32.toUInt16.toUInt32.toInt32)), .val (.int (sp1 ((xx &&& (65535 : Int32)).toUInt32.toUInt16.toUInt32.toInt32))), .unset, .unset, .unset], [.int (97 : Int32), .int ((xx &&& (65535 : Int32)).toUInt32.toUInt16.toUInt32.toInt32)], [], 0, 0)) hw hK hC opsx rfl)
        by_cases c44 : if_icmp.holds .lt ((xx &&& (65535 : Int32)).toUInt32.toUInt16.toUInt32.toInt32) (97 : Int32) = true
        · -- taken
          have d44 : ((xx &&& (65535 : Int32)).toUInt32.toUInt16.toUInt32.toInt32).toInt < 97 := oI_t rfl rfl c44
          have R45 := R43.trans (oReach.icmpY (CT := oCT) (MT := oMT) (callf := (oCall [f0, f1])) (ops := oPx) (pc' := 35) hw hK hC opsx rfl c44 (by decide) (by decide))
          have R46 := R45.trans (oReach.run (l := l) (n0 := n0) (q := oMx) (CT := oCT) (MT := oMT) (callf := (oCall [f0, f1])) (ops := oPx) (n := 2) (st' := (38, #[.val (.int xx), .val (.int ((xx &&& (65535 : Int32)).toUInt32.toUInt16.toUInt32.toInt32)), .val (.int (sp1 ((xx &&& (65535 : Int32)).toUInt32.toUInt16.toUInt32.toInt32))), .unset, .unset, .unset], [.int (65 : Int32), .int ((xx &&& (65535 : Int32)).toUInt32.toUInt16.toUInt32.toInt32)], [], 0, 0)) hw hK hC opsx rfl)
          by_cases c47 : if_icmp.holds .lt ((xx &&& (65535 : Int32)).toUInt32.toUInt16.toUInt32.toInt32) (65 : Int32) = true
          · -- taken
            have d47 : ((xx &&& (65535 : Int32)).toUInt32.toUInt16.toUInt32.toInt32).toInt < 65 := oI_t rfl rfl c47
            have R48 := R46.trans (oReach.icmpY (CT := oCT) (MT := oMT) (callf := (oCall [f0, f1])) (ops := oPx) (pc' := 51) hw hK hC opsx rfl c47 (by decide) (by decide))
            have R49 := R48.trans (oReach.run (l := l) (n0 := n0) (q := oMx) (CT := oCT) (MT := oMT) (callf := (oCall [f0, f1])) (ops := oPx) (n := 1) (st' := (52, #[.val (.int xx), .val (.int ((xx &&& (65535 : Int32)).toUInt32.toUInt16.toUInt32.toInt32)), .val (.int (sp1 ((xx &&& (65535 : Int32)).toUInt32.toUInt16.toUInt32.toInt32))), .unset, .unset, .unset], [.int (0 : Int32)], [], 0, 0)) hw hK hC opsx rfl)
            exact ⟨(0 : Int32), Or.inr (Or.inr (Or.inr (Or.inr (Or.inr (Or.inr (Or.inr (Or.inr (Or.inl ⟨d4, d39, d44, d47, rfl⟩)))))))), R49⟩
          · -- not taken
            have d47 : ¬ (((xx &&& (65535 : Int32)).toUInt32.toUInt16.toUInt32.toInt32).toInt < 65) := oI_f rfl rfl c47
            have R50 := R46.trans (oReach.icmpN (CT := oCT) (MT := oMT) (callf := (oCall [f0, f1])) (ops := oPx) hw hK hC opsx rfl c47)
            have R51 := R50.trans (oReach.run (l := l) (n0 := n0) (q := oMx) (CT := oCT) (MT := oMT) (callf := (oCall [f0, f1])) (ops := oPx) (n := 2) (st' := (44, #[.val (.int xx), .val (.int ((xx &&& (65535 : Int32)).toUInt32.toUInt16.toUInt32.toInt32)), .val (.int (sp1 ((xx &&& (65535 : Int32)).toUInt32.toUInt16.toUInt32.toInt32))), .unset, .unset, .unset], [.int (70 : Int32), .int ((xx &&& (65535 : Int32)).toUInt32.toUInt16.toUInt32.toInt32)], [], 0, 0)) hw hK hC opsx rfl)
            by_cases c52 : if_icmp.holds .gt ((xx &&& (65535 : Int32)).toUInt32.toUInt16.toUInt32.toInt32) (70 : Int32) = true
            · -- taken
              have d52 : 70 < ((xx &&& (65535 : Int32)).toUInt32.toUInt16.toUInt32.toInt32).toInt := oI_t rfl rfl c52
              have R53 := R51.trans (oReach.icmpY (CT := oCT) (MT := oMT) (callf := (oCall [f0, f1])) (ops := oPx) (pc' := 51) hw hK hC opsx rfl c52 (by decide) (by decide))
              have R54 := R53.trans (oReach.run (l := l) (n0 := n0) (q := oMx) (CT := oCT) (MT := oMT) (callf := (oCall [f0, f1])) (ops := oPx) (n := 1) (st' := (52, #[.val (.int xx), .val (.int ((xx &&& (65535 : Int32)).toUInt32.toUInt16.toUInt32.toInt32)), .val (.int (sp1 ((xx &&& (65535 : Int32)).toUInt32.toUInt16.toUInt32.toInt32))), .unset, .unset, .unset], [.int (0 : Int32)], [], 0, 0)) hw hK hC opsx rfl)
              exact ⟨(0 : Int32), Or.inr (Or.inr (Or.inr (Or.inr (Or.inr (Or.inr (Or.inr (Or.inr (Or.inr (Or.inl ⟨d4, d39, d44, d47, d52, rfl⟩))))))))), R54⟩
            · -- not taken
              have d52 : ¬ (70 < ((xx &&& (65535 : Int32)).toUInt32.toUInt16.toUInt32.toInt32).toInt) := oI_f rfl rfl c52
              have R55 := R51.trans (oReach.icmpN (CT := oCT) (MT := oMT) (callf := (oCall [f0, f1])) (ops := oPx) hw hK hC opsx rfl c52)
              have R56 := R55.trans (oReach.run (l := l) (n0 := n0) (q := oMx) (CT := oCT) (MT := oMT) (callf := (oCall [f0, f1])) (ops := oPx) (n := 2) (st' := (52, #[.val (.int xx), .val (.int ((xx &&& (65535 : Int32)).toUInt32.toUInt16.toUInt32.toInt32)), .val (.int (sp1 ((xx &&& (65535 : Int32)).toUInt32.toUInt16.toUInt32.toInt32))), .unset, .unset, .unset], [.int (1 : Int32)], [], 0, 0)) hw hK hC opsx rfl)
              exact ⟨(1 : Int32), Or.inr (Or.inr (Or.inr (Or.inr (Or.inr (Or.inr (Or.inr (Or.inr (Or.inr (Or.inr (Or.inl ⟨d4, d39, d44, d47, d52, rfl⟩)))))))))), R56⟩
        · -- not taken
          have d44 : ¬ (((xx &&& (65535 : Int32)).toUInt32.toUInt16.toUInt32.toInt32).toInt < 97) := oI_f rfl rfl c44
          have R57 := R43.trans (oReach.icmpN (CT := oCT) (MT := oMT) (callf := (oCall [f0, f1])) (ops := oPx) hw hK hC opsx rfl c44)
          have R58 := R57.trans (oReach.run (l := l) (n0 := n0) (q := oMx) (CT := oCT) (MT := oMT) (callf := (oCall [f0, f1])) (ops := oPx) (n := 2) (st' := (32, #[.val (.int xx), .val (.int ((xx &&& (65535 : Int32)).toUInt32.toUInt16.toUInt32.toInt32)), .val (.int (sp1 ((xx &&& (65535 : Int32)).toUInt32.toUInt16.toUInt32.toInt32))), .unset, .unset, .unset], [.int (102 : Int32), .int ((xx &&& (65535 : Int32)).toUInt32.toUInt16.toUInt32.toInt32)], [], 0, 0)) hw hK hC opsx rfl)
          by_cases c59 : if_icmp.holds .le ((xx &&& (65535 : Int32)).toUInt32.toUInt16.toUInt32.toInt32) (102 : Int32) = true
          · -- taken
            have d59 : ((xx &&& (65535 : Int32)).toUInt32.toUInt16.toUInt32.toInt32).toInt ≤ 102 := oI_t rfl rfl c59
            have R60 := R58.trans (oReach.icmpY (CT := oCT) (MT := oMT) (callf := (oCall [f0, f1])) (ops := oPx) (pc' := 47) hw hK hC opsx rfl c59 (by decide) (by decide))
            have R61 := R60.trans (oReach.run (l := l) (n0 := n0) (q := oMx) (CT := oCT) (MT := oMT) (callf := (oCall [f0, f1])) (ops := oPx) (n := 2) (st' := (52, #[.val (.int xx), .val (.int ((xx &&& (65535 : Int32)).toUInt32.toUInt16.toUInt32.toInt32)), .val (.int (sp1 ((xx &&& (65535 : Int32)).toUInt32.toUInt16.toUInt32.toInt32))), .unset, .unset, .unset], [.int (1 : Int32)], [], 0, 0)) hw hK hC opsx rfl)
            exact ⟨(1 : Int32), Or.inr (Or.inr (Or.inr (Or.inr (Or.inr (Or.inr (Or.inr (Or.inr (Or.inr (Or.inr (Or.inr (Or.inl ⟨d4, d39, d44, d59, rfl⟩))))))))))), R61⟩
          · -- not taken
            have d59 : ¬ (((xx &&& (65535 : Int32)).toUInt32.toUInt16.toUInt32.toInt32).toInt ≤ 102) := oI_f rfl rfl c59
            have R62 := R58.trans (oReach.icmpN (CT := oCT) (MT := oMT) (callf := (oCall [f0, f1])) (ops := oPx) hw hK hC opsx rfl c59)
            have R63 := R62.trans (oReach.run (l := l) (n0 := n0) (q := oMx) (CT := oCT) (MT := oMT) (callf := (oCall [f0, f1])) (ops := oPx) (n := 2) (st' := (38, #[.val (.int xx), .val (.int ((xx &&& (65535 : Int32)).toUInt32.toUInt16.toUInt32.toInt32)), .val (.int (sp1 ((xx &&& (65535 : Int32)).toUInt32.toUInt16.toUInt32.toInt32))), .unset, .unset, .unset], [.int (65 : Int32), .int ((xx &&& (65535 : Int32)).toUInt32.toUInt16.toUInt32.toInt32)], [], 0, 0)) hw hK hC opsx rfl)
            by_cases c64 : if_icmp.holds .lt ((xx &&& (65535 : Int32)).toUInt32.toUInt16.toUInt32.toInt32) (65 : Int32) = true
            · -- taken
              have d64 : ((xx &&& (65535 : Int32)).toUInt32.toUInt16.toUInt32.toInt32).toInt < 65 := oI_t rfl rfl c64
              have R65 := R63.trans (oReach.icmpY (CT := oCT) (MT := oMT) (callf := (oCall [f0, f1])) (ops := oPx) (pc' := 51) hw hK hC opsx rfl c64 (by decide) (by decide))
              have R66 := R65.trans (oReach.run (l := l) (n0 := n0) (q := oMx) (CT := oCT) (MT := oMT) (callf := (oCall [f0, f1])) (ops := oPx) (n := 1) (st' := (52, #[.val (.int xx), .val (.int ((xx &&& (65535 : Int32)).toUInt32.toUInt16.toUInt32.toInt32)), .val (.int (sp1 ((xx &&& (65535 : Int32)).toUInt32.toUInt16.toUInt32.toInt32))), .unset, .unset, .unset], [.int (0 : Int32)], [], 0, 0)) hw hK hC opsx rfl)
              exact ⟨(0 : Int32), Or.inr (Or.inr (Or.inr (Or.inr (Or.inr (Or.inr (Or.inr (Or.inr (Or.inr (Or.inr (Or.inr (Or.inr (Or.inl ⟨d4, d39, d44, d59, d64, rfl⟩)))))))))))), R66⟩
            · -- not taken
              have d64 : ¬ (((xx &&& (65535 : Int32)).toUInt32.toUInt16.toUInt32.toInt32).toInt < 65) := oI_f rfl rfl c64
              have R67 := R63.trans (oReach.icmpN (CT := oCT) (MT := oMT) (callf := (oCall [f0, f1])) (ops := oPx) hw hK hC opsx rfl c64)
              have R68 := R67.trans (oReach.run (l := l) (n0 := n0) (q := oMx) (CT := oCT) (MT := oMT) (callf := (oCall [f0, f1])) (ops := oPx) (n := 2) (st' := (44, #[.val (.int xx), .val (.int ((xx &&& (65535 : Int32)).toUInt32.toUInt16.toUInt32.toInt32)), .val (.int (sp1 ((xx &&& (65535 : Int32)).toUInt32.toUInt16.toUInt32.toInt32))), .unset, .unset, .unset], [.int (70 : Int32), .int ((xx &&& (65535 : Int32)).toUInt32.toUInt16.toUInt32.toInt32)], [], 0, 0)) hw hK hC opsx rfl)
              by_cases c69 : if_icmp.holds .gt ((xx &&& (65535 : Int32)).toUInt32.toUInt16.toUInt32.toInt32) (70 : Int32) = true
              · -- taken
                have d69 : 70 < ((xx &&& (65535 : Int32)).toUInt32.toUInt16.toUInt32.toInt32).toInt := oI_t rfl rfl c69
                have R70 := R68.trans (oReach.icmpY (CT := oCT) (MT := oMT) (callf := (oCall [f0, f1])) (ops := oPx) (pc' := 51) hw hK hC opsx rfl c69 (by decide) (by decide))
                have R71 := R70.trans (oReach.run (l := l) (n0 := n0) (q := oMx) (CT := oCT) (MT := oMT) (callf := (oCall [f0, f1])) (ops := oPx) (n := 1) (st' := (52, #[.val (.int xx), .val (.int ((xx &&& (65535 : Int32)).toUInt32.toUInt16.toUInt32.toInt32)), .val (.int (sp1 ((xx &&& (65535 : Int32)).toUInt32.toUInt16.toUInt32.toInt32))), .unset, .unset, .unset], [.int (0 : Int32)], [], 0, 0)) hw hK hC opsx rfl)
                exact ⟨(0 : Int32), Or.inr (Or.inr (Or.inr (Or.inr (Or.inr (Or.inr (Or.inr (Or.inr (Or.inr (Or.inr (Or.inr (Or.inr (Or.inr (Or.inl ⟨d4, d39, d44, d59, d64, d69, rfl⟩))))))))))))), R71⟩
              · -- not taken
                have d69 : ¬ (70 < ((xx &&& (65535 : Int32)).toUInt32.toUInt16.toUInt32.toInt32).toInt) := oI_f rfl rfl c69
                have R72 := R68.trans (oReach.icmpN (CT := oCT) (MT := oMT) (callf := (oCall [f0, f1])) (ops := oPx) hw hK hC opsx rfl c69)
                have R73 := R72.trans (oReach.run (l := l) (n0 := n0) (q := oMx) (CT := oCT) (MT := oMT) (callf := (oCall [f0, f1])) (ops := oPx) (n := 2) (st' := (52, #[.val (.int xx), .val (.int ((xx &&& (65535 : Int32)).toUInt32.toUInt16.toUInt32.toInt32)), .val (.int (sp1 ((xx &&& (65535 : Int32)).toUInt32.toUInt16.toUInt32.toInt32))), .unset, .unset, .unset], [.int (1 : Int32)], [], 0, 0)) hw hK hC opsx rfl)
                exact ⟨(1 : Int32), Or.inr (Or.inr (Or.inr (Or.inr (Or.inr (Or.inr (Or.inr (Or.inr (Or.inr (Or.inr (Or.inr (Or.inr (Or.inr (Or.inr (⟨d4, d39, d44, d59, d64, d69, rfl⟩)))))))))))))), R73⟩
  have R74 := R3.trans (oReach.run (l := l) (n0 := n0) (q := oMx) (CT := oCT) (MT := oMT) (callf := (oCall [f0, f1])) (ops := oPx) (n := 3) (st' := (55, #[.val (.int xx), .val (.int ((xx &&& (65535 : Int32)).toUInt32.toUInt16.toUInt32.toInt32)), .val (.int (sp1 ((xx &&& (65535 : Int32)).toUInt32.toUInt16.toUInt32.toInt32))), .val (.int v2), .unset, .unset], [.int (-1 : Int32), .int (sp1 ((xx &&& (65535 : Int32)).toUInt32.toUInt16.toUInt32.toInt32))], [], 0, 0)) hw hK hC opsx rfl)
  by_cases c75 : if_icmp.holds .ne (sp1 ((xx &&& (65535 : Int32)).toUInt32.toUInt16.toUInt32.toInt32)) (-1 : Int32) = true
  · -- taken
    have d75 : (sp1 ((xx &&& (65535 : Int32)).toUInt32.toUInt16.toUInt32.toInt32)).toInt ≠ -1 := oI_t rfl rfl c75
    have R76 := R74.trans (oReach.icmpY (CT := oCT) (MT := oMT) (callf := (oCall [f0, f1])) (ops := oPx) (pc' := 68) hw hK hC opsx rfl c75 (by decide) (by decide))
    have R77 := R76.trans (oReach.run (l := l) (n0 := n0) (q := oMx) (CT := oCT) (MT := oMT) (callf := (oCall [f0, f1])) (ops := oPx) (n := 1) (st' := (69, #[.val (.int xx), .val (.int ((xx &&& (65535 : Int32)).toUInt32.toUInt16.toUInt32.toInt32)), .val (.int (sp1 ((xx &&& (65535 : Int32)).toUInt32.toUInt16.toUInt32.toInt32))), .val (.int v2), .unset, .unset], [.int (sp1 ((xx &&& (65535 : Int32)).toUInt32.toUInt16.toUInt32.toInt32))], [], 0, 0)) hw hK hC opsx rfl)
    by_cases c78 : ifCond.holds .lt (sp1 ((xx &&& (65535 : Int32)).toUInt32.toUInt16.toUInt32.toInt32)) = true
    · -- taken
      have d78 : (sp1 ((xx &&& (65535 : Int32)).toUInt32.toUInt16.toUInt32.toInt32)).toInt < 0 := oC_t rfl c78
      have R79 := R77.trans (oReach.ifY (CT := oCT) (MT := oMT) (callf := (oCall [f0, f1])) (ops := oPx) (pc' := 78) hw hK hC opsx rfl c78 (by decide) (by decide))
      have R80 := R79.trans (oReach.run (l := l) (n0 := n0) (q := oMx) (CT := oCT) (MT := oMT) (callf := (oCall [f0, f1])) (ops := oPx) (n := 1) (st' := (79, #[.val (.int xx), .val (.int ((xx &&& (65535 : Int32)).toUInt32.toUInt16.toUInt32.toInt32)), .val (.int (sp1 ((xx &&& (65535 : Int32)).toUInt32.toUInt16.toUInt32.toInt32))), .val (.int v2), .unset, .unset], [.int (0 : Int32)], [], 0, 0)) hw hK hC opsx rfl)
      exfalso
      omega
    · -- not taken
      have d78 : ¬ ((sp1 ((xx &&& (65535 : Int32)).toUInt32.toUInt16.toUInt32.toInt32)).toInt < 0) := oC_f rfl c78
      have R81 := R77.trans (oReach.ifN (CT := oCT) (MT := oMT) (callf := (oCall [f0, f1])) (ops := oPx) hw hK hC opsx rfl c78)
      have R82 := R81.trans (oReach.run (l := l) (n0 := n0) (q := oMx) (CT := oCT) (MT := oMT) (callf := (oCall [f0, f1])) (ops := oPx) (n := 2) (st' := (75, #[.val (.int xx), .val (.int ((xx &&& (65535 : Int32)).toUInt32.toUInt16.toUInt32.toInt32)), .val (.int (sp1 ((xx &&& (65535 : Int32)).toUInt32.toUInt16.toUInt32.toInt32))), .val (.int v2), .unset, .unset], [.int (15 : Int32), .int (sp1 ((xx &&& (65535 : Int32)).toUInt32.toUInt16.toUInt32.toInt32))], [], 0, 0)) hw hK hC opsx rfl)
      by_cases c83 : if_icmp.holds .le (sp1 ((xx &&& (65535 : Int32)).toUInt32.toUInt16.toUInt32.toInt32)) (15 : Int32) = true
      · -- taken
        have d83 : (sp1 ((xx &&& (65535 : Int32)).toUInt32.toUInt16.toUInt32.toInt32)).toInt ≤ 15 := oI_t rfl rfl c83
        have R84 := R82.trans (oReach.icmpY (CT := oCT) (MT := oMT) (callf := (oCall [f0, f1])) (ops := oPx) (pc' := 80) hw hK hC opsx rfl c83 (by decide) (by decide))
        refine Or.inr ⟨v2, R84, own_at _ _ ?_⟩
        omega
      · -- not taken
        have d83 : ¬ ((sp1 ((xx &&& (65535 : Int32)).toUInt32.toUInt16.toUInt32.toInt32)).toInt ≤ 15) := oI_f rfl rfl c83
        have R85 := R82.trans (oReach.icmpN (CT := oCT) (MT := oMT) (callf := (oCall [f0, f1])) (ops := oPx) hw hK hC opsx rfl c83)
        have R86 := R85.trans (oReach.run (l := l) (n0 := n0) (q := oMx) (CT := oCT) (MT := oMT) (callf := (oCall [f0, f1])) (ops := oPx) (n := 1) (st' := (79, #[.val (.int xx), .val (.int ((xx &&& (65535 : Int32)).toUInt32.toUInt16.toUInt32.toInt32)), .val (.int (sp1 ((xx &&& (65535 : Int32)).toUInt32.toUInt16.toUInt32.toInt32))), .val (.int v2), .unset, .unset], [.int (0 : Int32)], [], 0, 0)) hw hK hC opsx rfl)
        exfalso
        omega
  · -- not taken
    have d75 : ¬ ((sp1 ((xx &&& (65535 : Int32)).toUInt32.toUInt16.toUInt32.toInt32)).toInt ≠ -1) := oI_f rfl rfl c75
    have R87 := R74.trans (oReach.icmpN (CT := oCT) (MT := oMT) (callf := (oCall [f0, f1])) (ops := oPx) hw hK hC opsx rfl c75)
    have R88 := R87.trans (oReach.run (l := l) (n0 := n0) (q := oMx) (CT := oCT) (MT := oMT) (callf := (oCall [f0, f1])) (ops := oPx) (n := 1) (st' := (59, #[.val (.int xx), .val (.int ((xx &&& (65535 : Int32)).toUInt32.toUInt16.toUInt32.toInt32)), .val (.int (sp1 ((xx &&& (65535 : Int32)).toUInt32.toUInt16.toUInt32.toInt32))), .val (.int v2), .unset, .unset], [.int v2], [], 0, 0)) hw hK hC opsx rfl)
    by_cases c89 : ifCond.holds .ne v2 = true
    · -- taken
      have d89 : v2.toInt ≠ 0 := oC_t rfl c89
      have R90 := R88.trans (oReach.ifY (CT := oCT) (MT := oMT) (callf := (oCall [f0, f1])) (ops := oPx) (pc' := 66) hw hK hC opsx rfl c89 (by decide) (by decide))
      have R91 := R90.trans (oReach.run (l := l) (n0 := n0) (q := oMx) (CT := oCT) (MT := oMT) (callf := (oCall [f0, f1])) (ops := oPx) (n := 1) (st' := (67, #[.val (.int xx), .val (.int ((xx &&& (65535 : Int32)).toUInt32.toUInt16.toUInt32.toInt32)), .val (.int (sp1 ((xx &&& (65535 : Int32)).toUInt32.toUInt16.toUInt32.toInt32))), .val (.int v2), .unset, .unset], [.int (0 : Int32)], [], 0, 0)) hw hK hC opsx rfl)
      exfalso
      omega
    · -- not taken
      have d89 : ¬ (v2.toInt ≠ 0) := oC_f rfl c89
      have R92 := R88.trans (oReach.ifN (CT := oCT) (MT := oMT) (callf := (oCall [f0, f1])) (ops := oPx) hw hK hC opsx rfl c89)
      have R93 := R92.trans (oReach.run (l := l) (n0 := n0) (q := oMx) (CT := oCT) (MT := oMT) (callf := (oCall [f0, f1])) (ops := oPx) (n := 2) (st' := (67, #[.val (.int xx), .val (.int ((xx &&& (65535 : Int32)).toUInt32.toUInt16.toUInt32.toInt32)), .val (.int (sp1 ((xx &&& (65535 : Int32)).toUInt32.toUInt16.toUInt32.toInt32))), .val (.int v2), .unset, .unset], [.int (1 : Int32)], [], 0, 0)) hw hK hC opsx rfl)
      exact Or.inl ⟨_, oMet_of_reach pnx opsx R93 rfl⟩
end Claim
theorem own_ls {ad : List Addr} {Ls : Array Slot} {x1 x2 x3 x4 : Int32} (h : oLR ad #[.val (.int x1), .val (.int x2), .val (.int x3), .val (.int x4), .unset, .unset] Ls) : Ls = #[.val (.int x1), .val (.int x2), .val (.int x3), .val (.int x4), .unset, .unset] := by
  obtain ⟨hs, h⟩ := h
  obtain ⟨_, g0, _, rfl, rfl⟩ := h 0 _ rfl
  obtain ⟨_, g1, _, rfl, rfl⟩ := h 1 _ rfl
  obtain ⟨_, g2, _, rfl, rfl⟩ := h 2 _ rfl
  obtain ⟨_, g3, _, rfl, rfl⟩ := h 3 _ rfl
  obtain ⟨_, g4, rfl⟩ := h 4 _ rfl
  obtain ⟨_, g5, rfl⟩ := h 5 _ rfl
  obtain ⟨L⟩ := Ls
  match L, hs with
  | [y0, y1, y2, y3, y4, y5], _ =>
    cases g0; cases g1; cases g2; cases g3; cases g4; cases g5
    rfl
theorem own_cod {cs : List Int32} {n : Nat} (hn : cs.length = n) (hb : ∀ c ∈ cs, ¬ (255 : Int32) < c) : StrChars.Road.CodA cs 0 (Int32.ofNat n) ((cs.map StrChars.lo8).map Value.int) := Or.inl ⟨rfl, by rw [hn], by simp [List.map_map, Function.comp_def], hb⟩
theorem own_desc : parseMethodDescriptor "(I)C" = some ⟨[.int], some .char⟩ := by decide +kernel
theorem own_wC : ∀ d ∈ StrChars.Road.wordsChN, d ∈ tables_1 := by decide +kernel
theorem own_wS : ∀ d ∈ Bundle.stringAtoms, d ∈ tables_1 := by decide +kernel
theorem own_lo : (∀ c ∈ "0123456789abcdef".toList, c.toNat < 256) ∧ "0123456789abcdef".toList.map (fun c => Value.int (Jvm.Lit.byteI c.toNat.toUInt16)) = (lowL.map StrChars.lo8).map Value.int := by decide +kernel
theorem own_up : (∀ c ∈ "0123456789ABCDEF".toList, c.toNat < 256) ∧ "0123456789ABCDEF".toList.map (fun c => Value.int (Jvm.Lit.byteI c.toNat.toUInt16)) = (upL.map StrChars.lo8).map Value.int := by decide +kernel
theorem own_cl : ∀ c ∈ lowL, ¬ (255 : Int32) < c ∧ ¬ c < 0 ∧ ¬ (65535 : Int32) < c := by decide +kernel
theorem own_cu : ∀ c ∈ upL, ¬ (255 : Int32) < c ∧ ¬ c < 0 ∧ ¬ (65535 : Int32) < c := by decide +kernel
theorem own_mono {s t : State} {o : Outcome} {L : List Loc} {k n k' n' : Nat} (h : ReturnedEndW s o t L k n) (hk : k ≤ k') (hn : n ≤ n') : ReturnedEndW s o t L k' n' := ⟨h.1, h.2.1, h.2.2.1, h.2.2.2.mono hk hn⟩
set_option maxRecDepth 65536 in
set_option maxHeartbeats 40000000 in
theorem tail_ok (l : Launch) (s0 : State) (a0 : Array Value) (hw : oHw a0 s0) (xx c r b : Int32) (i : Nat) (hi : i < 16) (hr : r = Int32.ofNat i) (hc : c = lowL.getD i 0 ∨ c = upL.getD i 0) (z : Int32) (fm : Value) (S0 : Sta s0 s0.heap "java/lang/String" "COMPACT_STRINGS" "Z" (.int z)) (hz : ¬ z = 0) (F0 : Sta s0 s0.heap "jdk/internal/util/Preconditions" "SIOOBE_FORMATTER" "Ljava/util/function/BiFunction;" fm) (rf : fm.isRef = true)
    (h14 : Jvm.Lit.constHeld s0 "com/example/lucid_grant/lucidgrant/web/AsciiHexDigitPinLaw" 14) (h16 : Jvm.Lit.constHeld s0 "com/example/lucid_grant/lucidgrant/web/AsciiHexDigitPinLaw" 16) (hcw : Jvm.Lit.compactW.before a0 s0 = true) (R : oReach l s0 s0.heap.size oKT oMx (0, #[.val (.int xx), .unset, .unset, .unset, .unset, .unset], [], [], 0, 0) (80, #[.val (.int xx), .val (.int c), .val (.int r), .val (.int b), .unset, .unset], [], [], 0, 0)) (ws0 : List Jvm.Cond) :
    MetFree l x (head1 (Jvm.Cond.code x code maxLocals ret :: ws0) room_1) (fun a U => a = #[.int xx] ∧ U = s0) (fun _ _ _ _ _ => True) (fun _ U o U' => ∃ L, o = .returned (some (.int 1)) ∧ Fr U.heap.size L ∧ ReturnedEndW U o U' L 8 2112) := by
  refine MetFree.of_bodySF pnx hisR ?_
  intro p e s m args below meth cc s₁ Bd hml0 hP hK
  obtain ⟨rfl, rfl⟩ := hP
  have hx := Bd.exec
  have hby := Bd.bytes
  have hml : cc.maxLocals = 6 := hml0
  have hown : s.vm.findClass "com/example/lucid_grant/lucidgrant/web/AsciiHexDigitPinLaw" = some m.cls := findClass_of_methodNamed Bd.named
  have hnm := (name_of_methodNamed Bd.named Bd.method).1
  have X0 : Stand p l e room_1 s m #[.int xx] below meth cc s₁ [] 0 0 := Stand.of_body Bd
  have e0 : s₁.heap = s.heap := by rw [Bd.state]; rfl
  obtain ⟨T, Ls, ST, ad, ⟨locs, X, N, hn0, hl, hk, hH⟩, pr, stA⟩ := R p e s m _ below meth cc hx (State.Warmed39.refl s) hown hnm hby hml0 s₁ (argsToLocals [.int xx].toArray 6) [] [] ⟨[], X0, Fr.nil _, by rw [e0]; exact Nat.le_refl _, oLR.entry (vs := [.int xx]) (ws := [.int xx]) ⟨_, _, rfl, rfl, rfl⟩ 6, rfl, by rw [e0]; exact oHR.nil⟩
  have hST : ST = [] := hk
  subst hST
  have hLs := own_ls hl
  subst hLs
  dsimp only at X stA
  have E0 : Ext s.heap T.heap := ⟨hn0, oldF X N⟩
  obtain ⟨a1, T1, h1, k1, b1, kb1, X1, e1, E1, S1', kk1, hZ1, hown1, G1, C1, V1, K1, -, -, I1, st1⟩ := ldcSV (s := s) (vm0 := s.vm) (Z := s) (Ts := []) X hx (State.Warmed39.refl s) hown (hw _ (List.mem_of_getElem? (i := 8) rfl)) (fun d hd => hw d (own_wS d hd)) rfl ((State.WarmedH.refl s).since s.heap.size) hn0 N (fun _ _ h => h) IB.start (by decide) h14 hcw (vs := (lowL.map StrChars.lo8).map Value.int) (z := Int32.ofNat 16) own_lo (by decide) (by decide) (g := (mkF m 80 #[.val (.int xx), .val (.int c), .val (.int r), .val (.int b), .unset, .unset] [])) rfl (hb hby at_80) (n := 64) (by decide) (by decide) (by decide) (by decide)
  obtain ⟨a2, T2, h2, k2, b2, kb2, X2, e2, E2, S2', kk2, hZ2, hown2, G2, C2, V2, K2, -, -, I2, st2⟩ := ldcSV (s := s) (vm0 := T1.vm) (Z := s) (Ts := ["0123456789abcdef"]) X1 hx hZ1 hown1 (hw _ (List.mem_of_getElem? (i := 16) rfl)) (fun d hd => hw d (own_wS d hd)) e1 S1' kk1 N (fun _ _ h => h) I1 (by decide) h16 hcw (vs := (upL.map StrChars.lo8).map Value.int) (z := Int32.ofNat 16) own_up (by decide) (by decide) (g := (mkF m 84 #[.val (.int xx), .val (.int c), .val (.int r), .val (.int b), .val (.ref a1), .unset] [])) rfl (hb hby at_84) (n := 64) (by decide) (by decide) (by decide) (by decide)
  have G1b := G1.ext E2
  have V1b := V1.ext E2
  have C1b := C1.ext E2
  have K1b := K1.ext E2
  have S2 := ((S0.ext E0).ext E1).ext E2
  have F2 := ((F0.ext E0).ext E1).ext E2
  obtain ⟨cq3, kq3, qa3, qb3, qc3⟩ := isOf hZ2 e2 G1b
  obtain ⟨_, _, ⟨T3, Lo3, k3, n3⟩, -, X3, ⟨Lc3, ⟨rfl, rfl, hh3⟩, l3, y3, z3⟩, st3⟩ := X2.virtualBack hx (y := (⟨"java/lang/String", "charAt", "(I)C"⟩ : MethodName)) (z := (⟨"java/lang/String", "charAt", "(I)C"⟩ : MethodName)) hown2 (mvT hZ2 (hw _ (List.mem_of_getElem? (i := 17) rfl))) (mvT hZ2 (hw _ (List.mem_of_getElem? (i := 18) rfl))) (notFace_of_selects (args := #[]) (mvT hZ2 (hw _ (List.mem_of_getElem? (i := 20) rfl)))) (mvT hZ2 (hw _ (List.mem_of_getElem? (i := 20) rfl))) (mvT hZ2 (hw _ (List.mem_of_getElem? (i := 19) rfl))) (by decide) (StrChars.Road.chN (W := 1) hZ2 (fun d hd => hw d (own_wC d hd)) (hw _ (List.mem_of_getElem? (i := 10) rfl)) G1b V1b C1b K1b (own_cod (cs := lowL) (n := 16) rfl (fun c hc => (own_cl c hc).1)) (fun c hc => (own_cl c hc).2) S2 hz F2 rf (by decide) hi hr (by decide) (by decide)) qa3 qc3 (g := (mkF m 92 #[.val (.int xx), .val (.int c), .val (.int r), .val (.int b), .val (.ref a1), .val (.ref a2)] [.int r, .ref a1, .int c])) rfl (by rw [hml]; rfl) (Steps.refl _) (argsL := [.int r]) (rest := [.int c]) (lenOf own_desc rfl) rfl (by show 2 * 0 + _ ≤ _; exact Nat.le_of_eq rfl) (hb hby at_92) (fun _ _ => ⟨rfl, e2, (by decide : 4 + 0 ≤ _), (by decide : 136 + 0 ≤ _)⟩)
  dsimp only [Pt.U, Pt.locs, Pt.cells, Pt.slots] at X3 l3 y3 z3 st3 hh3
  subst l3 y3 z3
  by_cases hq : c = lowL.getD i 0
  · obtain ⟨fs, hrt, hrun, hended, hEnd⟩ := X3.leaveW S2' (by rw [hh3]; exact kk2) (v := some (.int (1 : Int32))) (fun h => by rw [Bd.returns] at h; cases h)
    refine ⟨_, _, ?_, hrun, hended, _, rfl, ?_, own_mono hEnd (by decide) (by decide)⟩
    · refine stA _ ?_
      show Steps p.tables e below (T.setTop (mkF m 80 #[.val (.int xx), .val (.int c), .val (.int r), .val (.int b), .unset, .unset] [])) _
      refine st1 _ ?_
      show Steps p.tables e below (T1.setTop (mkF m 82 #[.val (.int xx), .val (.int c), .val (.int r), .val (.int b), .unset, .unset] [.ref a1])) _
      refine XS.astore X1.here hx rfl (hb hby at_82) rfl rfl (l' := #[.val (.int xx), .val (.int c), .val (.int r), .val (.int b), .val (.ref a1), .unset]) rfl ?_
      show Steps p.tables e below (T1.setTop (mkF m 84 #[.val (.int xx), .val (.int c), .val (.int r), .val (.int b), .val (.ref a1), .unset] [])) _
      refine st2 _ ?_
      show Steps p.tables e below (T2.setTop (mkF m 86 #[.val (.int xx), .val (.int c), .val (.int r), .val (.int b), .val (.ref a1), .unset] [.ref a2])) _
      refine XS.astore X2.here hx rfl (hb hby at_86) rfl rfl (l' := #[.val (.int xx), .val (.int c), .val (.int r), .val (.int b), .val (.ref a1), .val (.ref a2)]) rfl ?_
      show Steps p.tables e below (T2.setTop (mkF m 88 #[.val (.int xx), .val (.int c), .val (.int r), .val (.int b), .val (.ref a1), .val (.ref a2)] [])) _
      refine XS.iloadN X2.here hx rfl (hb hby at_88) rfl ?_
      show Steps p.tables e below (T2.setTop (mkF m 89 #[.val (.int xx), .val (.int c), .val (.int r), .val (.int b), .val (.ref a1), .val (.ref a2)] [.int c])) _
      refine XS.aload X2.here hx rfl (hb hby at_89) rfl rfl ?_
      show Steps p.tables e below (T2.setTop (mkF m 91 #[.val (.int xx), .val (.int c), .val (.int r), .val (.int b), .val (.ref a1), .val (.ref a2)] [.ref a1, .int c])) _
      refine XS.iloadN X2.here hx rfl (hb hby at_91) rfl ?_
      show Steps p.tables e below (T2.setTop (mkF m 92 #[.val (.int xx), .val (.int c), .val (.int r), .val (.int b), .val (.ref a1), .val (.ref a2)] [.int r, .ref a1, .int c])) _
      refine st3.trans ?_
      show Steps p.tables e below (T3.setTop (mkF m 95 #[.val (.int xx), .val (.int c), .val (.int r), .val (.int b), .val (.ref a1), .val (.ref a2)] [.int (lowL.getD i 0), .int c])) _
      refine XS.icmpYes X3.here hx rfl (pc0 := 95) (pc' := 108) rfl (hb hby at_95) rfl (teq hq).1 (by decide) (by decide) ?_
      show Steps p.tables e below (T3.setTop (mkF m 108 #[.val (.int xx), .val (.int c), .val (.int r), .val (.int b), .val (.ref a1), .val (.ref a2)] [])) _
      refine XS.iconst X3.here hx rfl (hb hby at_108) ?_
      show Steps p.tables e below (T3.setTop (mkF m 109 #[.val (.int xx), .val (.int c), .val (.int r), .val (.int b), .val (.ref a1), .val (.ref a2)] [.int (1 : Int32)])) _
      refine XS.goto X3.here hx rfl (pc0 := 109) (pc' := 113) rfl (hb hby at_109) (by decide) (by decide) ?_
      show Steps p.tables e below (T3.setTop (mkF m 113 #[.val (.int xx), .val (.int c), .val (.int r), .val (.int b), .val (.ref a1), .val (.ref a2)] [.int (1 : Int32)])) _
      exact retOut X3 hx (t := .boolean) Bd.returns rfl (Or.inl ⟨rfl, Or.inr (Or.inl rfl), _, rfl⟩) (hb hby at_113) hrt
    · exact N.app (Fr.nil _)
  · have hq2 : c = upL.getD i 0 := hc.resolve_left hq
    obtain ⟨cq4, kq4, qa4, qb4, qc4⟩ := isOf hZ2 hh3 G2
    obtain ⟨_, _, ⟨T4, Lo4, k4, n4⟩, -, X4, ⟨Lc4, ⟨rfl, rfl, hh4⟩, l4, y4, z4⟩, st4⟩ := X3.virtualBack hx (y := (⟨"java/lang/String", "charAt", "(I)C"⟩ : MethodName)) (z := (⟨"java/lang/String", "charAt", "(I)C"⟩ : MethodName)) hown2 (mvT hZ2 (hw _ (List.mem_of_getElem? (i := 17) rfl))) (mvT hZ2 (hw _ (List.mem_of_getElem? (i := 18) rfl))) (notFace_of_selects (args := #[]) (mvT hZ2 (hw _ (List.mem_of_getElem? (i := 20) rfl)))) (mvT hZ2 (hw _ (List.mem_of_getElem? (i := 20) rfl))) (mvT hZ2 (hw _ (List.mem_of_getElem? (i := 19) rfl))) (by decide) (StrChars.Road.chN (W := 1) hZ2 (fun d hd => hw d (own_wC d hd)) (hw _ (List.mem_of_getElem? (i := 10) rfl)) G2 V2 C2 K2 (own_cod (cs := upL) (n := 16) rfl (fun c hc => (own_cu c hc).1)) (fun c hc => (own_cu c hc).2) S2 hz F2 rf (by decide) hi hr (by decide) (by decide)) qa4 qc4 (g := (mkF m 102 #[.val (.int xx), .val (.int c), .val (.int r), .val (.int b), .val (.ref a1), .val (.ref a2)] [.int r, .ref a2, .int c])) rfl (by rw [hml]; rfl) (Steps.refl _) (argsL := [.int r]) (rest := [.int c]) (lenOf own_desc rfl) rfl (by show 2 * 0 + _ ≤ _; exact Nat.le_of_eq rfl) (hb hby at_102) (fun _ _ => ⟨rfl, hh3, (by decide : 4 + 0 ≤ _), (by decide : 136 + 0 ≤ _)⟩)
    dsimp only [Pt.U, Pt.locs, Pt.cells, Pt.slots] at X4 l4 y4 z4 st4 hh4
    subst l4 y4 z4
    obtain ⟨fs, hrt, hrun, hended, hEnd⟩ := X4.leaveW S2' (by rw [hh4]; exact kk2) (v := some (.int (1 : Int32))) (fun h => by rw [Bd.returns] at h; cases h)
    refine ⟨_, _, ?_, hrun, hended, _, rfl, ?_, own_mono hEnd (by decide) (by decide)⟩
    · refine stA _ ?_
      show Steps p.tables e below (T.setTop (mkF m 80 #[.val (.int xx), .val (.int c), .val (.int r), .val (.int b), .unset, .unset] [])) _
      refine st1 _ ?_
      show Steps p.tables e below (T1.setTop (mkF m 82 #[.val (.int xx), .val (.int c), .val (.int r), .val (.int b), .unset, .unset] [.ref a1])) _
      refine XS.astore X1.here hx rfl (hb hby at_82) rfl rfl (l' := #[.val (.int xx), .val (.int c), .val (.int r), .val (.int b), .val (.ref a1), .unset]) rfl ?_
      show Steps p.tables e below (T1.setTop (mkF m 84 #[.val (.int xx), .val (.int c), .val (.int r), .val (.int b), .val (.ref a1), .unset] [])) _
      refine st2 _ ?_
      show Steps p.tables e below (T2.setTop (mkF m 86 #[.val (.int xx), .val (.int c), .val (.int r), .val (.int b), .val (.ref a1), .unset] [.ref a2])) _
      refine XS.astore X2.here hx rfl (hb hby at_86) rfl rfl (l' := #[.val (.int xx), .val (.int c), .val (.int r), .val (.int b), .val (.ref a1), .val (.ref a2)]) rfl ?_
      show Steps p.tables e below (T2.setTop (mkF m 88 #[.val (.int xx), .val (.int c), .val (.int r), .val (.int b), .val (.ref a1), .val (.ref a2)] [])) _
      refine XS.iloadN X2.here hx rfl (hb hby at_88) rfl ?_
      show Steps p.tables e below (T2.setTop (mkF m 89 #[.val (.int xx), .val (.int c), .val (.int r), .val (.int b), .val (.ref a1), .val (.ref a2)] [.int c])) _
      refine XS.aload X2.here hx rfl (hb hby at_89) rfl rfl ?_
      show Steps p.tables e below (T2.setTop (mkF m 91 #[.val (.int xx), .val (.int c), .val (.int r), .val (.int b), .val (.ref a1), .val (.ref a2)] [.ref a1, .int c])) _
      refine XS.iloadN X2.here hx rfl (hb hby at_91) rfl ?_
      show Steps p.tables e below (T2.setTop (mkF m 92 #[.val (.int xx), .val (.int c), .val (.int r), .val (.int b), .val (.ref a1), .val (.ref a2)] [.int r, .ref a1, .int c])) _
      refine st3.trans ?_
      show Steps p.tables e below (T3.setTop (mkF m 95 #[.val (.int xx), .val (.int c), .val (.int r), .val (.int b), .val (.ref a1), .val (.ref a2)] [.int (lowL.getD i 0), .int c])) _
      refine XS.icmpNo X3.here hx rfl (hb hby at_95) rfl (feq hq).1 ?_
      show Steps p.tables e below (T3.setTop (mkF m 98 #[.val (.int xx), .val (.int c), .val (.int r), .val (.int b), .val (.ref a1), .val (.ref a2)] [])) _
      refine XS.iloadN X3.here hx rfl (hb hby at_98) rfl ?_
      show Steps p.tables e below (T3.setTop (mkF m 99 #[.val (.int xx), .val (.int c), .val (.int r), .val (.int b), .val (.ref a1), .val (.ref a2)] [.int c])) _
      refine XS.aload X3.here hx rfl (hb hby at_99) rfl rfl ?_
      show Steps p.tables e below (T3.setTop (mkF m 101 #[.val (.int xx), .val (.int c), .val (.int r), .val (.int b), .val (.ref a1), .val (.ref a2)] [.ref a2, .int c])) _
      refine XS.iloadN X3.here hx rfl (hb hby at_101) rfl ?_
      show Steps p.tables e below (T3.setTop (mkF m 102 #[.val (.int xx), .val (.int c), .val (.int r), .val (.int b), .val (.ref a1), .val (.ref a2)] [.int r, .ref a2, .int c])) _
      refine st4.trans ?_
      show Steps p.tables e below (T4.setTop (mkF m 105 #[.val (.int xx), .val (.int c), .val (.int r), .val (.int b), .val (.ref a1), .val (.ref a2)] [.int (upL.getD i 0), .int c])) _
      refine XS.icmpNo X4.here hx rfl (hb hby at_105) rfl (teq hq2).2 ?_
      show Steps p.tables e below (T4.setTop (mkF m 108 #[.val (.int xx), .val (.int c), .val (.int r), .val (.int b), .val (.ref a1), .val (.ref a2)] [])) _
      refine XS.iconst X4.here hx rfl (hb hby at_108) ?_
      show Steps p.tables e below (T4.setTop (mkF m 109 #[.val (.int xx), .val (.int c), .val (.int r), .val (.int b), .val (.ref a1), .val (.ref a2)] [.int (1 : Int32)])) _
      refine XS.goto X4.here hx rfl (pc0 := 109) (pc' := 113) rfl (hb hby at_109) (by decide) (by decide) ?_
      show Steps p.tables e below (T4.setTop (mkF m 113 #[.val (.int xx), .val (.int c), .val (.int r), .val (.int b), .val (.ref a1), .val (.ref a2)] [.int (1 : Int32)])) _
      exact retOut X4 hx (t := .boolean) Bd.returns rfl (Or.inl ⟨rfl, Or.inr (Or.inl rfl), _, rfl⟩) (hb hby at_113) hrt
    · exact (N.app (Fr.nil _)).app (Fr.nil _)
set_option maxRecDepth 65536 in
set_option maxHeartbeats 40000000 in
theorem comes_1 {Post : Tables → Env → Array Value → State → Outcome → State → Prop} (hpost : ∀ tb e args s v u, (limb_1_1.after args s (.returned v) u = true ∧ limb_1_2.after args s (.returned v) u = true ∧ True) → ReturnedEndW s (.returned v) u (Jvm.fieldLocs frame_1_writes args s ++ Jvm.arrayLocs frame_1_arrays args s ++ Jvm.staticLocs frame_1_statics s) 8 2112 → Post tb e args s (.returned v) u) :
    ArmFor flags0 classFile x code maxLocals ret World_1 tables_1 room_1 Calls_1 rest_1 Pre_1 Post := by
  intro l hfl _ _ p e ha hc hk s m args below hf hA hF happ hP
  obtain ⟨hcalls, hrest, hpre⟩ := hP
  obtain ⟨-, -, -, hnamed, -, -, -, hat⟩ := (Spec.applies_iff hf).mp happ
  obtain ⟨hg, hn⟩ := and_e (Cond.before_iff.mp (show (Jvm.Cond.and given_1 narrow_1).before args s = true from hpre))
  obtain ⟨h1, g0⟩ := and_e hg
  obtain ⟨w0, rfl⟩ : ∃ w0 : Value, args = #[w0] := by
    have hs : args.size = 1 := by simpa [Cond.value, given_1] using h1
    obtain ⟨L⟩ := args
    match L, hs with
    | [w0], _ => exact ⟨w0, rfl⟩
  have hw := fun d (hd : d ∈ tables_1) => atoms_spec (ws := Jvm.Cond.code x code maxLocals ret :: tables_1) hat d (List.mem_cons_of_mem _ hd)
  obtain ⟨i0, e0⟩ := is_v g0
  obtain rfl : w0 = (.int i0) := Option.some.inj e0
  have hsets := (atoms_of jdkStatics_1 (own := restOwn_1) (by rw [← rest_1_c_eq]; exact hrest)).1
  have j0 := hsets _ (List.mem_of_getElem? (i := 0) rfl)
  have j1 := hsets _ (List.mem_of_getElem? (i := 1) rfl)
  have j2 := hsets _ (List.mem_of_getElem? (i := 2) rfl)
  have j7 := hsets _ (List.mem_of_getElem? (i := 7) rfl)
  have j8 := hsets _ (List.mem_of_getElem? (i := 8) rfl)
  obtain ⟨z, ez⟩ := is_v (Cond.before_iff.mp j1)
  have S0 : Sta s s.heap "java/lang/String" "COMPACT_STRINGS" "Z" (.int z) := Sta.start ez (Or.inl j0)
  have hz : ¬ z = 0 := by
    have q := not_v (Cond.before_iff.mp j2)
    intro hz0
    subst hz0
    have q2 := eq_i ez (Term.int_eval (0)) rfl
    rw [q2] at q
    cases q
  obtain ⟨fm, ef, rf⟩ := isR_v (Cond.before_iff.mp j8)
  have F0 : Sta s s.heap "jdk/internal/util/Preconditions" "SIOOBE_FORMATTER" "Ljava/util/function/BiFunction;" fm := Sta.start ef (Or.inl j7)
  have h14 : Jvm.Lit.constHeld s "com/example/lucid_grant/lucidgrant/web/AsciiHexDigitPinLaw" 14 := hcalls.1 ("com/example/lucid_grant/lucidgrant/web/AsciiHexDigitPinLaw", 14) (by simp [consts_1])
  have h16 : Jvm.Lit.constHeld s "com/example/lucid_grant/lucidgrant/web/AsciiHexDigitPinLaw" 16 := hcalls.1 ("com/example/lucid_grant/lucidgrant/web/AsciiHexDigitPinLaw", 16) (by simp [consts_1])
  have key : ∃ n o, (∀ k, k < n → Within (stepsAlone p.tables e k s) below) ∧ (stepsAlone p.tables e n s).status = .running ∧ Ended (stepsAlone p.tables e n s) below o ∧ ∃ L, o = .returned (some (.int 1)) ∧ Fr s.heap.size L ∧ ReturnedEndW s o (stepsAlone p.tables e n s) L 8 2112 := by
    rcases head_ok (l := l) (n0 := s.heap.size) hw i0 with ⟨H', hmet⟩ | ⟨b, R, i, hi, hr, hcc⟩
    · obtain ⟨n, o, h1, h2, h3, v, L, rfl, ⟨N, -, ad', -, -, w, rfl, rfl⟩, hq⟩ := hmet [.int i0] s.heap [] (by exact ⟨_, _, rfl, rfl, rfl⟩) oHR.nil (Nat.le_refl _) tables_1 p e ha hc hk s m _ below hf ((Spec.applies_iff_loose hf).mp happ).1 ⟨rfl, State.Warmed39.refl s, rfl⟩ trivial
      exact ⟨n, _, h1, h2, h3, L, rfl, N, wide hq⟩
    · exact tail_ok l s _ hw i0 _ _ b i hi hr hcc z fm S0 hz F0 rf h14 h16 j2 R tables_1 p e ha hc hk s m _ below hf ((Spec.applies_iff_loose hf).mp happ).1 ⟨rfl, rfl⟩ trivial
  obtain ⟨n, o, h1, h2, h3, L, rfl, N, hq⟩ := key
  exact ⟨n, _, h1, h2, h3, hpost _ _ _ _ _ _ ⟨Cond.after_iff.mpr rfl, Cond.after_iff.mpr (eq_i res_at (Term.int_eval (1)) rfl), trivial⟩ ⟨hq.1, hq.2.1, hq.2.2.1, hq.2.2.2.sift fun y hy => Or.inr (N y hy)⟩⟩
theorem main_1_1 : Claimed_1_1 := comes_1 fun _ _ _ _ _ _ h hF => ⟨h.1, hF⟩
theorem main_1_2 : Claimed_1_2 := comes_1 fun _ _ _ _ _ _ h hF => ⟨h.2.1, hF⟩
end Jvm.Pilot.@@N@@
namespace Jvm.Pilot.@@N@@
open Jvm Jvm.ClassFile Sem Op Lib Jvm.Free Jvm.Stand Jvm.Pilot.@@N@@.Jvm.D
/-! MADE BY PROGRAM (witnessworld.py) out of the Statement's table words and the real class files: 17 classes; the members and pool entries that the words name. The judged class is class 1, her method 1. -/
namespace start1
open Jvm.ClassFile
def u (s : String) : CpInfo := .utf8 (stringToUtf16 s)
/-- a pool by its gaps: so many unusable entries, then the entry; so many at the end -/
def gap : Nat → List CpInfo → List CpInfo
  | 0, r => r
  | n + 1, r => .unusable :: gap n r
def poolList (es : List (Nat × CpInfo)) (last : Nat) : List CpInfo := es.foldr (fun e r => gap e.1 (e.2 :: r)) (gap last [])
def pool (es : List (Nat × CpInfo)) (last : Nat) : Array CpInfo := ⟨poolList es last⟩
def fileOf (pool : Array CpInfo) (this : Nat) (attrs : Array Attribute := #[]) (ms : Array MethodInfo := #[]) (fl : Nat := 33) (sup : Nat := 0) (ifs : Array Nat := #[]) (fds : Array FieldInfo := #[]) : ClassFile where
  minorVersion := 0
  majorVersion := 65
  constantPool := pool
  accessFlags := fl
  thisClass := this
  superClass := sup
  interfaces := ifs
  fields := fds
  methods := ms
  attributes := attrs
def plain (name : String) (sup : Option ClassId) : Class where
  name := name
  kind := .ordinary
  loader := none
  accessFlags := 33
  super := sup
  interfaces := #[]
  cf := none
  fields := #[]
  methods := #[]
  instanceTypes := #[]
  staticTypes := #[]
  resolved := #[]
  callSites := []
  init := .initialized
  statics := none
  mirror := none

def pool0 : Array CpInfo := pool [(5, u "<init>"), (0, u "()V"), (1, .class_ 10), (1, u "java/lang/Object")] 113

def k0m0 : Method := { name := "<init>", desc := "()V", sig := { parameters := [], returnType := none }, accessFlags := 1, code := none }
/-- java/lang/Object -/
def k0 : Class := { plain "java/lang/Object" none with
  accessFlags := 33
  interfaces := #[]
  cf := some (fileOf pool0 8 #[] #[{ accessFlags := 1, nameIndex := 5, descriptorIndex := 6, attributes := #[] }] 33 0 #[] #[])
  fields := #[]
  methods := #[k0m0]
  instanceTypes := #[]
  staticTypes := #[]
  resolved := Array.replicate 124 none
  statics := none }

def pool1 : Array CpInfo := pool [(2, .class_ 4), (1, u "java/lang/Object"), (0, u "<init>"), (0, u "()V"), (0, .integer 65535), (0, .methodref 9 10), (0, .class_ 11), (0, .nameAndType 12 13), (0, u "com/example/lucid_grant/lucidgrant/web/Ascii"), (0, u "hexDigit"), (0, u "(C)I"), (0, .string 15), (0, u "0123456789abcdef"), (0, .string 17), (0, u "0123456789ABCDEF"), (0, .methodref 19 20), (0, .class_ 21), (0, .nameAndType 22 23), (0, u "java/lang/String"), (0, u "charAt"), (0, u "(I)C"), (0, .class_ 25), (0, u "com/example/lucid_grant/lucidgrant/web/AsciiHexDigitPinLaw"), (2, u "law"), (0, u "(I)Z")] 3

def k1m0 : Method := { name := "<init>", desc := "()V", sig := { parameters := [], returnType := none }, accessFlags := 2, code := none }
def k1c1 : Code := { maxStack := 3, maxLocals := 6, code := code, exceptionTable := #[], attributes := #[] }
def k1m1 : Method := { name := "law", desc := "(I)Z", sig := { parameters := [.int], returnType := some .boolean }, accessFlags := 9, code := some k1c1 }
/-- com/example/lucid_grant/lucidgrant/web/AsciiHexDigitPinLaw -/
def k1 : Class := { plain "com/example/lucid_grant/lucidgrant/web/AsciiHexDigitPinLaw" (some 0) with
  accessFlags := 49
  interfaces := #[]
  cf := some (fileOf pool1 24 #[] #[{ accessFlags := 2, nameIndex := 5, descriptorIndex := 6, attributes := #[] }, { accessFlags := 9, nameIndex := 28, descriptorIndex := 29, attributes := #[] }] 49 2 #[] #[])
  fields := #[]
  methods := #[k1m0, k1m1]
  instanceTypes := #[]
  staticTypes := #[]
  resolved := Array.replicate 33 none
  statics := none }

def pool2 : Array CpInfo := pool [(2, .class_ 4), (1, u "java/lang/Object"), (0, u "<init>"), (0, u "()V"), (0, .methodref 8 9), (0, .class_ 10), (0, .nameAndType 11 12), (0, u "com/example/lucid_grant/lucidgrant/web/Ascii"), (0, u "isDigit"), (0, u "(C)Z"), (0, u "HEX_LETTERS_FROM"), (0, u "I"), (6, u "hexDigit"), (0, u "(C)I")] 2

def k2m0 : Method := { name := "<init>", desc := "()V", sig := { parameters := [], returnType := none }, accessFlags := 2, code := none }
def k2c1 : Code := { maxStack := 2, maxLocals := 1, code := prog_35_method_2_code, exceptionTable := #[], attributes := #[] }
def k2m1 : Method := { name := "isDigit", desc := "(C)Z", sig := { parameters := [.char], returnType := some .boolean }, accessFlags := 9, code := some k2c1 }
def k2c2 : Code := { maxStack := 2, maxLocals := 1, code := prog_35_method_4_code, exceptionTable := #[], attributes := #[] }
def k2m2 : Method := { name := "hexDigit", desc := "(C)I", sig := { parameters := [.char], returnType := some .int }, accessFlags := 9, code := some k2c2 }
/-- com/example/lucid_grant/lucidgrant/web/Ascii -/
def k2 : Class := { plain "com/example/lucid_grant/lucidgrant/web/Ascii" (some 0) with
  accessFlags := 49
  interfaces := #[]
  cf := some (fileOf pool2 8 #[] #[{ accessFlags := 2, nameIndex := 5, descriptorIndex := 6, attributes := #[] }, { accessFlags := 9, nameIndex := 11, descriptorIndex := 12, attributes := #[] }, { accessFlags := 9, nameIndex := 21, descriptorIndex := 22, attributes := #[] }] 49 2 #[] #[{ accessFlags := 26, nameIndex := 13, descriptorIndex := 14, attributes := #[] }])
  fields := #[{ name := "HEX_LETTERS_FROM", type := .int, accessFlags := 26, slot := 0, constantValue := 0 }]
  methods := #[k2m0, k2m1, k2m2]
  instanceTypes := #[]
  staticTypes := #[.int]
  resolved := Array.replicate 25 none
  statics := none }

def pool3 : Array CpInfo := pool [(1, .class_ 2), (0, u "java/io/Serializable"), (0, .class_ 4), (0, u "java/lang/Object")] 2

/-- java/io/Serializable -/
def k3 : Class := { plain "java/io/Serializable" (some 0) with
  accessFlags := 1537
  interfaces := #[]
  cf := some (fileOf pool3 1 #[] #[] 1537 3 #[] #[])
  fields := #[]
  methods := #[]
  instanceTypes := #[]
  staticTypes := #[]
  resolved := Array.replicate 7 none
  statics := none }

def pool4 : Array CpInfo := pool [(1, .class_ 2), (0, u "java/lang/Comparable"), (0, .class_ 4), (0, u "java/lang/Object")] 7

/-- java/lang/Comparable -/
def k4 : Class := { plain "java/lang/Comparable" (some 0) with
  accessFlags := 1537
  interfaces := #[]
  cf := some (fileOf pool4 1 #[] #[] 1537 3 #[] #[])
  fields := #[]
  methods := #[]
  instanceTypes := #[]
  staticTypes := #[]
  resolved := Array.replicate 12 none
  statics := none }

def pool5 : Array CpInfo := pool [(2, .class_ 4), (1, u "java/lang/CharSequence"), (42, .class_ 48), (0, u "java/lang/CharSequence$1CodePointIterator"), (10, .class_ 60), (0, u "java/lang/CharSequence$1CharIterator"), (5, .class_ 67), (0, u "java/lang/Object")] 63

/-- java/lang/CharSequence -/
def k5 : Class := { plain "java/lang/CharSequence" (some 0) with
  accessFlags := 1537
  interfaces := #[]
  cf := some (fileOf pool5 2 #[.nestMembers #[47, 59]] #[] 1537 66 #[] #[])
  fields := #[]
  methods := #[]
  instanceTypes := #[]
  staticTypes := #[]
  resolved := Array.replicate 131 none
  statics := none }

def pool6 : Array CpInfo := pool [(1, .class_ 2), (0, u "java/lang/constant/Constable"), (0, .class_ 4), (0, u "java/lang/Object")] 6

/-- java/lang/constant/Constable -/
def k6 : Class := { plain "java/lang/constant/Constable" (some 0) with
  accessFlags := 1537
  interfaces := #[]
  cf := some (fileOf pool6 1 #[] #[] 1537 3 #[] #[])
  fields := #[]
  methods := #[]
  instanceTypes := #[]
  staticTypes := #[]
  resolved := Array.replicate 11 none
  statics := none }

def pool7 : Array CpInfo := pool [(1, .class_ 2), (0, u "java/lang/constant/ConstantDesc"), (0, .class_ 4), (0, u "java/lang/Object")] 32

/-- java/lang/constant/ConstantDesc -/
def k7 : Class := { plain "java/lang/constant/ConstantDesc" (some 0) with
  accessFlags := 1537
  interfaces := #[]
  cf := some (fileOf pool7 1 #[] #[] 1537 3 #[] #[])
  fields := #[]
  methods := #[]
  instanceTypes := #[]
  staticTypes := #[]
  resolved := Array.replicate 37 none
  statics := none }

def pool8 : Array CpInfo := pool [(2, .class_ 4), (1, u "java/lang/Object"), (0, u "<init>"), (0, u "()V"), (2, .fieldref 10 11), (0, .class_ 12), (0, .nameAndType 13 14), (0, u "java/lang/String"), (0, u "value"), (0, u "[B"), (0, .fieldref 10 16), (0, .nameAndType 17 18), (0, u "coder"), (0, u "B"), (2, u "hash"), (0, u "I"), (2, u "hashIsZero"), (0, u "Z"), (11, .fieldref 10 39), (0, .nameAndType 40 26), (0, u "COMPACT_STRINGS"), (66, .class_ 109), (1, u "java/lang/StringLatin1"), (32, u "()Z"), (220, u "([BI)C"), (27, u "(II)V"), (35, u "(I)C"), (64, .methodref 10 493), (0, .nameAndType 494 142), (0, u "isLatin1"), (0, .methodref 107 496), (0, .nameAndType 497 363), (0, u "charAt"), (3, u "checkIndex"), (73, .class_ 576), (0, u "java/lang/CharSequence"), (22, u "CASE_INSENSITIVE_ORDER"), (0, u "Ljava/util/Comparator;"), (452, .fieldref 1054 1055), (0, .class_ 1056), (0, .nameAndType 1057 1058), (0, u "jdk/internal/util/Preconditions"), (0, u "SIOOBE_FORMATTER"), (0, u "Ljava/util/function/BiFunction;"), (0, .methodref 1054 1060), (0, .nameAndType 501 1061), (0, u "(IILjava/util/function/BiFunction;)I"), (39, u "serialPersistentFields"), (0, u "[Ljava/io/ObjectStreamField;"), (0, .class_ 1104), (0, u "java/lang/String$CaseInsensitiveComparator"), (1, .class_ 1107), (0, u "java/io/Serializable"), (0, .class_ 1109), (0, u "java/lang/Comparable"), (0, .class_ 1111), (0, u "java/lang/constant/Constable"), (0, .class_ 1113), (0, u "java/lang/constant/ConstantDesc"), (2, u "serialVersionUID"), (0, u "J"), (3, u "REPL"), (0, u "C"), (2, u "LATIN1"), (1, u "UTF16")] 323

def k8m0 : Method := { name := "<init>", desc := "()V", sig := { parameters := [], returnType := none }, accessFlags := 1, code := none }
def k8c1 : Code := { maxStack := 2, maxLocals := 2, code := jdk_42_method_56_code, exceptionTable := #[], attributes := #[] }
def k8m1 : Method := { name := "charAt", desc := "(I)C", sig := { parameters := [.int], returnType := some .char }, accessFlags := 1, code := some k8c1 }
def k8c2 : Code := { maxStack := 1, maxLocals := 1, code := jdk_42_method_154_code, exceptionTable := #[], attributes := #[] }
def k8m2 : Method := { name := "isLatin1", desc := "()Z", sig := { parameters := [], returnType := some .boolean }, accessFlags := 0, code := some k8c2 }
def k8c3 : Code := { maxStack := 3, maxLocals := 2, code := jdk_42_method_155_code, exceptionTable := #[], attributes := #[] }
def k8m3 : Method := { name := "checkIndex", desc := "(II)V", sig := { parameters := [.int, .int], returnType := none }, accessFlags := 8, code := some k8c3 }
/-- java/lang/String -/
def k8 : Class := { plain "java/lang/String" (some 0) with
  accessFlags := 49
  interfaces := #[3, 4, 5, 6, 7]
  cf := some (fileOf pool8 10 #[.nestMembers #[1103]] #[{ accessFlags := 1, nameIndex := 5, descriptorIndex := 6, attributes := #[] }, { accessFlags := 1, nameIndex := 497, descriptorIndex := 427, attributes := #[] }, { accessFlags := 0, nameIndex := 494, descriptorIndex := 142, attributes := #[] }, { accessFlags := 8, nameIndex := 501, descriptorIndex := 391, attributes := #[] }] 49 2 #[1106, 1108, 575, 1110, 1112] #[{ accessFlags := 18, nameIndex := 13, descriptorIndex := 14, attributes := #[] }, { accessFlags := 18, nameIndex := 17, descriptorIndex := 18, attributes := #[] }, { accessFlags := 2, nameIndex := 21, descriptorIndex := 22, attributes := #[] }, { accessFlags := 2, nameIndex := 25, descriptorIndex := 26, attributes := #[] }, { accessFlags := 26, nameIndex := 1116, descriptorIndex := 1117, attributes := #[] }, { accessFlags := 24, nameIndex := 40, descriptorIndex := 26, attributes := #[] }, { accessFlags := 26, nameIndex := 1101, descriptorIndex := 1102, attributes := #[] }, { accessFlags := 26, nameIndex := 1121, descriptorIndex := 1122, attributes := #[] }, { accessFlags := 25, nameIndex := 599, descriptorIndex := 600, attributes := #[] }, { accessFlags := 24, nameIndex := 1125, descriptorIndex := 18, attributes := #[] }, { accessFlags := 24, nameIndex := 1127, descriptorIndex := 18, attributes := #[] }])
  fields := #[{ name := "value", type := (.array .byte), accessFlags := 18, slot := 0, constantValue := 0 }, { name := "coder", type := .byte, accessFlags := 18, slot := 1, constantValue := 0 }, { name := "hash", type := .int, accessFlags := 2, slot := 2, constantValue := 0 }, { name := "hashIsZero", type := .boolean, accessFlags := 2, slot := 3, constantValue := 0 }, { name := "serialVersionUID", type := .long, accessFlags := 26, slot := 0, constantValue := 0 }, { name := "COMPACT_STRINGS", type := .boolean, accessFlags := 24, slot := 1, constantValue := 0 }, { name := "serialPersistentFields", type := (.array (.object "java/io/ObjectStreamField")), accessFlags := 26, slot := 2, constantValue := 0 }, { name := "REPL", type := .char, accessFlags := 26, slot := 3, constantValue := 0 }, { name := "CASE_INSENSITIVE_ORDER", type := (.object "java/util/Comparator"), accessFlags := 25, slot := 4, constantValue := 0 }, { name := "LATIN1", type := .byte, accessFlags := 24, slot := 5, constantValue := 0 }, { name := "UTF16", type := .byte, accessFlags := 24, slot := 6, constantValue := 0 }]
  methods := #[k8m0, k8m1, k8m2, k8m3]
  instanceTypes := #[(.array .byte), .byte, .int, .boolean]
  staticTypes := #[.long, .boolean, (.array (.object "java/io/ObjectStreamField")), .char, (.object "java/util/Comparator"), .byte, .byte]
  resolved := Array.replicate 1451 none
  statics := some 0 }

def pool9 : Array CpInfo := pool [(1, .class_ 2), (0, u "java/lang/String"), (1, .class_ 6), (1, u "java/lang/Object"), (0, u "<init>"), (0, u "()V"), (0, .methodref 1 10), (0, .nameAndType 11 12), (0, u "checkIndex"), (0, u "(II)V"), (1, .class_ 16), (1, u "java/lang/StringLatin1"), (36, u "([BI)C"), (67, u "$assertionsDisabled"), (0, u "Z"), (98, .class_ 223), (1, u "java/lang/StringLatin1$LinesSpliterator"), (28, u "charAt"), (137, .class_ 391), (0, u "java/lang/StringLatin1$CharsSpliterator")] 3

def k9m0 : Method := { name := "<init>", desc := "()V", sig := { parameters := [], returnType := none }, accessFlags := 0, code := none }
def k9c1 : Code := { maxStack := 2, maxLocals := 2, code := jdk_43_method_2_code, exceptionTable := #[], attributes := #[] }
def k9m1 : Method := { name := "charAt", desc := "([BI)C", sig := { parameters := [(.array .byte), .int], returnType := some .char }, accessFlags := 9, code := some k9c1 }
/-- java/lang/StringLatin1 -/
def k9 : Class := { plain "java/lang/StringLatin1" (some 0) with
  accessFlags := 48
  interfaces := #[]
  cf := some (fileOf pool9 14 #[.nestMembers #[390, 221]] #[{ accessFlags := 0, nameIndex := 7, descriptorIndex := 8, attributes := #[] }, { accessFlags := 9, nameIndex := 252, descriptorIndex := 53, attributes := #[] }] 48 4 #[] #[{ accessFlags := 4120, nameIndex := 121, descriptorIndex := 122, attributes := #[] }])
  fields := #[{ name := "$assertionsDisabled", type := .boolean, accessFlags := 4120, slot := 0, constantValue := 0 }]
  methods := #[k9m0, k9m1]
  instanceTypes := #[]
  staticTypes := #[.boolean]
  resolved := Array.replicate 395 none
  statics := none }

def pool10 : Array CpInfo := pool [(2, .class_ 4), (1, u "java/lang/Object"), (0, u "<init>"), (0, u "()V"), (17, .class_ 26), (1, u "jdk/internal/util/Preconditions"), (6, u "checkIndex"), (21, .class_ 56), (0, u "jdk/internal/util/Preconditions$4"), (57, .class_ 115), (0, u "jdk/internal/util/Preconditions$1"), (7, u "SIOOBE_FORMATTER"), (0, u "Ljava/util/function/BiFunction;"), (0, .class_ 126), (0, u "jdk/internal/util/Preconditions$2"), (3, u "AIOOBE_FORMATTER"), (0, .class_ 132), (0, u "jdk/internal/util/Preconditions$3"), (3, u "IOOBE_FORMATTER"), (41, u "(IILjava/util/function/BiFunction;)I")] 15

def k10m0 : Method := { name := "<init>", desc := "()V", sig := { parameters := [], returnType := none }, accessFlags := 1, code := none }
def k10c1 : Code := { maxStack := 3, maxLocals := 3, code := jdk_41_method_11_code, exceptionTable := #[], attributes := #[] }
def k10m1 : Method := { name := "checkIndex", desc := "(IILjava/util/function/BiFunction;)I", sig := { parameters := [.int, .int, (.object "java/util/function/BiFunction")], returnType := some .int }, accessFlags := 9, code := some k10c1 }
/-- jdk/internal/util/Preconditions -/
def k10 : Class := { plain "jdk/internal/util/Preconditions" (some 0) with
  accessFlags := 33
  interfaces := #[]
  cf := some (fileOf pool10 24 #[.nestMembers #[55, 131, 125, 114]] #[{ accessFlags := 1, nameIndex := 5, descriptorIndex := 6, attributes := #[] }, { accessFlags := 9, nameIndex := 33, descriptorIndex := 178, attributes := #[] }] 33 2 #[] #[{ accessFlags := 25, nameIndex := 123, descriptorIndex := 124, attributes := #[] }, { accessFlags := 25, nameIndex := 130, descriptorIndex := 124, attributes := #[] }, { accessFlags := 25, nameIndex := 136, descriptorIndex := 124, attributes := #[] }])
  fields := #[{ name := "SIOOBE_FORMATTER", type := (.object "java/util/function/BiFunction"), accessFlags := 25, slot := 0, constantValue := 0 }, { name := "AIOOBE_FORMATTER", type := (.object "java/util/function/BiFunction"), accessFlags := 25, slot := 1, constantValue := 0 }, { name := "IOOBE_FORMATTER", type := (.object "java/util/function/BiFunction"), accessFlags := 25, slot := 2, constantValue := 0 }]
  methods := #[k10m0, k10m1]
  instanceTypes := #[]
  staticTypes := #[(.object "java/util/function/BiFunction"), (.object "java/util/function/BiFunction"), (.object "java/util/function/BiFunction")]
  resolved := Array.replicate 194 none
  statics := some 1 }

def pool11 : Array CpInfo := pool [(9, u "<init>"), (6, .class_ 18), (1, u "java/lang/Object"), (0, u "()V"), (1, .class_ 23), (1, u "jdk/internal/util/ArraysSupport"), (0, u "LOG2_ARRAY_LONG_INDEX_SCALE"), (0, u "I"), (2, u "U"), (0, u "Ljdk/internal/misc/Unsafe;"), (8, u "BIG_ENDIAN"), (0, u "Z"), (8, u "LOG2_BYTE_BIT_SIZE"), (4, u "LOG2_ARRAY_INT_INDEX_SCALE"), (54, u "JLA"), (0, u "Ljdk/internal/access/JavaLangAccess;"), (11, u "LOG2_ARRAY_BOOLEAN_INDEX_SCALE"), (9, u "LOG2_ARRAY_BYTE_INDEX_SCALE"), (5, u "LOG2_ARRAY_CHAR_INDEX_SCALE"), (5, u "LOG2_ARRAY_SHORT_INDEX_SCALE"), (18, u "LOG2_ARRAY_FLOAT_INDEX_SCALE"), (24, u "LOG2_ARRAY_DOUBLE_INDEX_SCALE"), (89, u "T_BOOLEAN"), (2, u "T_CHAR"), (1, u "T_FLOAT"), (1, u "T_DOUBLE"), (1, u "T_BYTE"), (1, u "T_SHORT"), (1, u "T_INT"), (1, u "T_LONG"), (1, u "SOFT_MAX_ARRAY_LENGTH")] 83

def k11m0 : Method := { name := "<init>", desc := "()V", sig := { parameters := [], returnType := none }, accessFlags := 2, code := none }
/-- jdk/internal/util/ArraysSupport -/
def k11 : Class := { plain "jdk/internal/util/ArraysSupport" (some 0) with
  accessFlags := 33
  interfaces := #[]
  cf := some (fileOf pool11 21 #[] #[{ accessFlags := 2, nameIndex := 9, descriptorIndex := 19, attributes := #[] }] 33 16 #[] #[{ accessFlags := 24, nameIndex := 28, descriptorIndex := 29, attributes := #[] }, { accessFlags := 26, nameIndex := 38, descriptorIndex := 39, attributes := #[] }, { accessFlags := 25, nameIndex := 121, descriptorIndex := 25, attributes := #[] }, { accessFlags := 25, nameIndex := 131, descriptorIndex := 25, attributes := #[] }, { accessFlags := 25, nameIndex := 137, descriptorIndex := 25, attributes := #[] }, { accessFlags := 25, nameIndex := 143, descriptorIndex := 25, attributes := #[] }, { accessFlags := 25, nameIndex := 53, descriptorIndex := 25, attributes := #[] }, { accessFlags := 25, nameIndex := 24, descriptorIndex := 25, attributes := #[] }, { accessFlags := 25, nameIndex := 162, descriptorIndex := 25, attributes := #[] }, { accessFlags := 25, nameIndex := 187, descriptorIndex := 25, attributes := #[] }, { accessFlags := 26, nameIndex := 48, descriptorIndex := 25, attributes := #[] }, { accessFlags := 25, nameIndex := 277, descriptorIndex := 25, attributes := #[] }, { accessFlags := 25, nameIndex := 280, descriptorIndex := 25, attributes := #[] }, { accessFlags := 25, nameIndex := 282, descriptorIndex := 25, attributes := #[] }, { accessFlags := 25, nameIndex := 284, descriptorIndex := 25, attributes := #[] }, { accessFlags := 25, nameIndex := 286, descriptorIndex := 25, attributes := #[] }, { accessFlags := 25, nameIndex := 288, descriptorIndex := 25, attributes := #[] }, { accessFlags := 25, nameIndex := 290, descriptorIndex := 25, attributes := #[] }, { accessFlags := 25, nameIndex := 292, descriptorIndex := 25, attributes := #[] }, { accessFlags := 26, nameIndex := 108, descriptorIndex := 109, attributes := #[] }, { accessFlags := 25, nameIndex := 294, descriptorIndex := 25, attributes := #[] }])
  fields := #[{ name := "U", type := (.object "jdk/internal/misc/Unsafe"), accessFlags := 24, slot := 0, constantValue := 0 }, { name := "BIG_ENDIAN", type := .boolean, accessFlags := 26, slot := 1, constantValue := 0 }, { name := "LOG2_ARRAY_BOOLEAN_INDEX_SCALE", type := .int, accessFlags := 25, slot := 2, constantValue := 0 }, { name := "LOG2_ARRAY_BYTE_INDEX_SCALE", type := .int, accessFlags := 25, slot := 3, constantValue := 0 }, { name := "LOG2_ARRAY_CHAR_INDEX_SCALE", type := .int, accessFlags := 25, slot := 4, constantValue := 0 }, { name := "LOG2_ARRAY_SHORT_INDEX_SCALE", type := .int, accessFlags := 25, slot := 5, constantValue := 0 }, { name := "LOG2_ARRAY_INT_INDEX_SCALE", type := .int, accessFlags := 25, slot := 6, constantValue := 0 }, { name := "LOG2_ARRAY_LONG_INDEX_SCALE", type := .int, accessFlags := 25, slot := 7, constantValue := 0 }, { name := "LOG2_ARRAY_FLOAT_INDEX_SCALE", type := .int, accessFlags := 25, slot := 8, constantValue := 0 }, { name := "LOG2_ARRAY_DOUBLE_INDEX_SCALE", type := .int, accessFlags := 25, slot := 9, constantValue := 0 }, { name := "LOG2_BYTE_BIT_SIZE", type := .int, accessFlags := 26, slot := 10, constantValue := 0 }, { name := "T_BOOLEAN", type := .int, accessFlags := 25, slot := 11, constantValue := 0 }, { name := "T_CHAR", type := .int, accessFlags := 25, slot := 12, constantValue := 0 }, { name := "T_FLOAT", type := .int, accessFlags := 25, slot := 13, constantValue := 0 }, { name := "T_DOUBLE", type := .int, accessFlags := 25, slot := 14, constantValue := 0 }, { name := "T_BYTE", type := .int, accessFlags := 25, slot := 15, constantValue := 0 }, { name := "T_SHORT", type := .int, accessFlags := 25, slot := 16, constantValue := 0 }, { name := "T_INT", type := .int, accessFlags := 25, slot := 17, constantValue := 0 }, { name := "T_LONG", type := .int, accessFlags := 25, slot := 18, constantValue := 0 }, { name := "JLA", type := (.object "jdk/internal/access/JavaLangAccess"), accessFlags := 26, slot := 19, constantValue := 0 }, { name := "SOFT_MAX_ARRAY_LENGTH", type := .int, accessFlags := 25, slot := 20, constantValue := 0 }]
  methods := #[k11m0]
  instanceTypes := #[]
  staticTypes := #[(.object "jdk/internal/misc/Unsafe"), .boolean, .int, .int, .int, .int, .int, .int, .int, .int, .int, .int, .int, .int, .int, .int, .int, .int, .int, (.object "jdk/internal/access/JavaLangAccess"), .int]
  resolved := Array.replicate 378 none
  statics := none }

def pool12 : Array CpInfo := pool [(1, u "java/lang/Cloneable"), (0, .class_ 1), (0, u "java/lang/Object"), (0, .class_ 3)] 3

/-- java/lang/Cloneable -/
def k12 : Class := { plain "java/lang/Cloneable" (some 0) with
  accessFlags := 1537
  interfaces := #[]
  cf := some (fileOf pool12 2 #[] #[] 1537 4 #[] #[])
  fields := #[]
  methods := #[]
  instanceTypes := #[]
  staticTypes := #[]
  resolved := Array.replicate 8 none
  statics := none }

/-- the primitive byte -/
def k13 : Class := { plain "byte" none with kind := .primitive 'B', accessFlags := 0x411 }
/-- [B -/
def k14 : Class := { plain "[B" (some 0) with kind := .array 13 .byte, interfaces := #[12, 3], accessFlags := 1041 }

/-- the primitive int -/
def k15 : Class := { plain "int" none with kind := .primitive 'I', accessFlags := 0x411 }
/-- [I -/
def k16 : Class := { plain "[I" (some 0) with kind := .array 15 .int, interfaces := #[12, 3], accessFlags := 1041 }

def heap : Heap := #[{ cls := 8, slots := #[.long 0, .int 1, .null, .int 0, .null, .int 0, .int 0], vm := .statics 8 },
  { cls := 10, slots := #[.null, .null, .null], vm := .statics 10 }]
def classes : Array Class := #[k0, k1, k2, k3, k4, k5, k6, k7, k8, k9, k10, k11, k12, k13, k14, k15, k16]
def interned : List (Array UInt16 × Addr) := []
def slotsUsed : Nat := 10
def theMethod : MethodId := ⟨1, 1⟩
def args0 : Array Value := #[.int 65]
def aboutOver (below : List Frame) : State where
  vm := { classes := classes, interned := interned.toArray }
  heap := heap
  slotsUsed := slotsUsed
  threads := #[{ frames := .invoking theMethod args0 :: below }]
def below0 : List Frame := [.native { method := ⟨0, 0⟩, args := #[] }]
def about1 : State := aboutOver below0
def p0 : Program := .bare "" "" ""
def e0 : Env := launch0.env 0 0 0
theorem w_frames : about1.frames = Frame.invoking theMethod args0 :: below0 := rfl
set_option maxRecDepth 65536 in
theorem w_args : argsFit about1.vm theMethod args0 = true := by decide +kernel
set_option maxRecDepth 65536 in
theorem w_heap : heapFits about1 = true := by decide +kernel
set_option maxRecDepth 65536 in
theorem w_runnable : about1.curStatus? = some .runnable := by decide +kernel
set_option maxRecDepth 65536 in
theorem w_alone : about1.alone = true := by decide +kernel
set_option maxRecDepth 65536 in
theorem w_named : about1.methodNamed? x = some theMethod := by decide +kernel
set_option maxRecDepth 65536 in
theorem w_hears : about1.hears theMethod below0 = true := by decide +kernel
set_option maxRecDepth 65536 in
theorem w_ripe : about1.ripe theMethod args0 below0 = true := by decide +kernel
theorem w_running : about1.status = .running := rfl
set_option maxRecDepth 65536 in
theorem w_room : about1.hasRoom e0.platform room_1 = true :=
  launch0.hasRoom_least _ room_1 (by decide +kernel) (by decide +kernel) (by decide +kernel) (by decide +kernel) (by decide +kernel) (by decide +kernel)
theorem allAtoms_all (ts : List Jvm.Cond) (a : Array Jvm.Value) (st : Jvm.State) : (allAtoms ts).before a st = ts.all (fun c => c.before a st) := by
  induction ts with
  | nil => rfl
  | cons c t ih =>
    show (Jvm.Cond.and c (allAtoms t)).before a st = _
    rw [Jvm.Cond.before_and, ih, List.all_cons]
def words1 : List Jvm.Cond := Jvm.Cond.code x code maxLocals ret :: tables_1
/-- a 'code' word, met by the world's own term for the bytes: nothing is compared byte by byte -/
theorem code_word {y : MethodName} {bytes : ByteArray} {mx : Nat} {rt : Option FieldType} {a : Array Value} {s : State} {m : MethodId} {meth : Method} {c : Code} (h1 : s.methodNamed? y = some m) (h2 : s.vm.method? m = some meth) (h3 : meth.code = some c) (h4 : c.code = bytes)
    (h5 : (c.maxLocals == mx && c.exceptionTable.isEmpty && decide (c.maxStack ≤ mostOperands) && decide (meth.sig.returnType = rt) && !meth.locks && decide (parseMethodDescriptor y.desc = some meth.sig)) = true) : (Jvm.Cond.code y bytes mx rt).before a s = true := by
  simp only [Bool.and_eq_true, beq_iff_eq, Bool.not_eq_true', decide_eq_true_eq] at h5
  obtain ⟨⟨⟨⟨⟨g1, g2⟩, g3⟩, g4⟩, g5⟩, g6⟩ := h5
  simp [Cond.before, Cond.holds, Cond.value, h1, h2, h3, h4, g1, g2, g3, g4, g5, g6]
def isCode : Jvm.Cond → Bool
  | .code _ _ _ _ => true
  | _ => false
theorem all_split {L : List Jvm.Cond} {P : Jvm.Cond → Bool} (h1 : L.all (fun c => isCode c || P c) = true) (h2 : ∀ c ∈ L.filter isCode, P c = true) : L.all P = true := by
  refine List.all_eq_true.mpr fun c hc => ?_
  have h := List.all_eq_true.mp h1 c hc
  rcases Bool.eq_false_or_eq_true (isCode c) with hi | hi
  · exact h2 c (List.mem_filter.mpr ⟨hc, hi⟩)
  · simpa [hi] using h
set_option maxRecDepth 65536 in
theorem w_c0 : (Jvm.Cond.code x code maxLocals ret).before args0 about1 = true := code_word (m := ⟨1, 1⟩) (meth := k1m1) (c := k1c1) (by decide +kernel) rfl rfl rfl (by decide +kernel)
set_option maxRecDepth 65536 in
theorem w_c1 : (Jvm.Cond.code ({ cls := "com/example/lucid_grant/lucidgrant/web/Ascii", name := "hexDigit", desc := "(C)I" } : Jvm.MethodName) prog_35_method_4_code (1 : Nat) (Option.some Jvm.ClassFile.FieldType.int)).before args0 about1 = true := code_word (m := ⟨2, 2⟩) (meth := k2m2) (c := k2c2) (by decide +kernel) rfl rfl rfl (by decide +kernel)
set_option maxRecDepth 65536 in
theorem w_c2 : (Jvm.Cond.code ({ cls := "com/example/lucid_grant/lucidgrant/web/Ascii", name := "isDigit", desc := "(C)Z" } : Jvm.MethodName) prog_35_method_2_code (1 : Nat) (Option.some Jvm.ClassFile.FieldType.boolean)).before args0 about1 = true := code_word (m := ⟨2, 1⟩) (meth := k2m1) (c := k2c1) (by decide +kernel) rfl rfl rfl (by decide +kernel)
set_option maxRecDepth 65536 in
theorem w_c3 : (Jvm.Cond.code ({ cls := "java/lang/String", name := "charAt", desc := "(I)C" } : Jvm.MethodName) jdk_42_method_56_code (2 : Nat) (Option.some Jvm.ClassFile.FieldType.char)).before args0 about1 = true := code_word (m := ⟨8, 1⟩) (meth := k8m1) (c := k8c1) (by decide +kernel) rfl rfl rfl (by decide +kernel)
set_option maxRecDepth 65536 in
theorem w_c4 : (Jvm.Cond.code ({ cls := "java/lang/String", name := "isLatin1", desc := "()Z" } : Jvm.MethodName) jdk_42_method_154_code (1 : Nat) (Option.some Jvm.ClassFile.FieldType.boolean)).before args0 about1 = true := code_word (m := ⟨8, 2⟩) (meth := k8m2) (c := k8c2) (by decide +kernel) rfl rfl rfl (by decide +kernel)
set_option maxRecDepth 65536 in
theorem w_c5 : (Jvm.Cond.code ({ cls := "java/lang/StringLatin1", name := "charAt", desc := "([BI)C" } : Jvm.MethodName) jdk_43_method_2_code (2 : Nat) (Option.some Jvm.ClassFile.FieldType.char)).before args0 about1 = true := code_word (m := ⟨9, 1⟩) (meth := k9m1) (c := k9c1) (by decide +kernel) rfl rfl rfl (by decide +kernel)
set_option maxRecDepth 65536 in
theorem w_c6 : (Jvm.Cond.code ({ cls := "java/lang/String", name := "checkIndex", desc := "(II)V" } : Jvm.MethodName) jdk_42_method_155_code (2 : Nat) (Option.none : Option Jvm.ClassFile.FieldType)).before args0 about1 = true := code_word (m := ⟨8, 3⟩) (meth := k8m3) (c := k8c3) (by decide +kernel) rfl rfl rfl (by decide +kernel)
set_option maxRecDepth 65536 in
theorem w_c7 : (Jvm.Cond.code ({ cls := "jdk/internal/util/Preconditions", name := "checkIndex", desc := "(IILjava/util/function/BiFunction;)I" } : Jvm.MethodName) jdk_41_method_11_code (3 : Nat) (Option.some Jvm.ClassFile.FieldType.int)).before args0 about1 = true := code_word (m := ⟨10, 1⟩) (meth := k10m1) (c := k10c1) (by decide +kernel) rfl rfl rfl (by decide +kernel)
def codes1 : List Jvm.Cond := [Jvm.Cond.code x code maxLocals ret, Jvm.Cond.code ({ cls := "com/example/lucid_grant/lucidgrant/web/Ascii", name := "hexDigit", desc := "(C)I" } : Jvm.MethodName) prog_35_method_4_code (1 : Nat) (Option.some Jvm.ClassFile.FieldType.int), Jvm.Cond.code ({ cls := "com/example/lucid_grant/lucidgrant/web/Ascii", name := "isDigit", desc := "(C)Z" } : Jvm.MethodName) prog_35_method_2_code (1 : Nat) (Option.some Jvm.ClassFile.FieldType.boolean), Jvm.Cond.code ({ cls := "java/lang/String", name := "charAt", desc := "(I)C" } : Jvm.MethodName) jdk_42_method_56_code (2 : Nat) (Option.some Jvm.ClassFile.FieldType.char), Jvm.Cond.code ({ cls := "java/lang/String", name := "isLatin1", desc := "()Z" } : Jvm.MethodName) jdk_42_method_154_code (1 : Nat) (Option.some Jvm.ClassFile.FieldType.boolean), Jvm.Cond.code ({ cls := "java/lang/StringLatin1", name := "charAt", desc := "([BI)C" } : Jvm.MethodName) jdk_43_method_2_code (2 : Nat) (Option.some Jvm.ClassFile.FieldType.char), Jvm.Cond.code ({ cls := "java/lang/String", name := "checkIndex", desc := "(II)V" } : Jvm.MethodName) jdk_42_method_155_code (2 : Nat) (Option.none : Option Jvm.ClassFile.FieldType), Jvm.Cond.code ({ cls := "jdk/internal/util/Preconditions", name := "checkIndex", desc := "(IILjava/util/function/BiFunction;)I" } : Jvm.MethodName) jdk_41_method_11_code (3 : Nat) (Option.some Jvm.ClassFile.FieldType.int)]
set_option maxRecDepth 65536 in
theorem codes_eq : words1.filter isCode = codes1 := rfl
theorem w_codes : ∀ c ∈ words1.filter isCode, c.before args0 about1 = true := by
  rw [codes_eq]
  intro c hc
  simp only [codes1, List.mem_cons, List.not_mem_nil, or_false] at hc
  rcases hc with rfl | rfl | rfl | rfl | rfl | rfl | rfl | rfl
  · exact w_c0
  · exact w_c1
  · exact w_c2
  · exact w_c3
  · exact w_c4
  · exact w_c5
  · exact w_c6
  · exact w_c7
set_option maxRecDepth 65536 in
theorem w_t1 : (words1.take 24).all (fun c => isCode c || c.before args0 about1) = true := by decide +kernel
set_option maxRecDepth 65536 in
theorem w_t2 : (words1.drop 24).all (fun c => isCode c || c.before args0 about1) = true := by decide +kernel
theorem w_tables : (allAtoms (Jvm.Cond.code x code maxLocals ret :: tables_1)).before args0 about1 = true := by
  rw [allAtoms_all]
  show words1.all (fun c => c.before args0 about1) = true
  refine all_split ?_ w_codes
  rw [← List.take_append_drop 24 words1, List.all_append, w_t1, w_t2]
  rfl
set_option maxRecDepth 65536 in
theorem w_rest : rest_1_c.before args0 about1 = true := by decide +kernel
set_option maxRecDepth 65536 in
theorem w_case : (Jvm.Cond.and given_1 narrow_1).before args0 about1 = true := by decide +kernel
set_option maxRecDepth 65536 in
theorem w_consts : constsHeld consts_1 about1 := Jvm.Lit.constsHeldB_iff.mp (by decide +kernel)
theorem w_applies : (headSpec (Jvm.Cond.code x code maxLocals ret :: tables_1) room_1).applies x e0.platform about1 = true :=
  (Spec.applies_iff w_frames).mpr ⟨w_running, w_runnable, w_alone, w_named, w_hears, w_ripe, w_room, w_tables⟩
theorem atStart : AtStart classFile x code maxLocals ret World_1 tables_1 room_1 Calls_1 rest_1 Pre_1 launch0 p0 e0 about1 theMethod args0 below0 :=
  ⟨lists_1, trivial, launch0.admits_env _ _ _, launch0.least_env, fairChoices_fair.cas, fairChoices_fair.clock, w_frames, w_args, w_heap, w_applies, ⟨w_consts, trivial⟩, w_rest, w_case⟩
end start1
theorem witness_1 : WitnessClaimed_1 := ⟨start1.p0, start1.e0, start1.about1, start1.theMethod, start1.args0, start1.below0, start1.atStart⟩
end Jvm.Pilot.@@N@@
