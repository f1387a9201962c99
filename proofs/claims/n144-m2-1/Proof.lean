import JvmDerived
import JvmDerived.Pilot.@@N@@Statement
import JvmDerived.Pilot.@@N@@Code
set_option linter.unusedVariables false
set_option linter.unusedSimpArgs false
/- laws to paste: Road.chN, Road.codOf (cut by pick.py; bodies as the Statement names them) -/
namespace Jvm.Pilot.@@N@@
namespace StrChars
open Jvm Sem ClassFile Op Lib Jvm.Stand Jvm.Free.XT Jvm.Free.ALB Jvm.Free.JM Jvm.Free
open Jvm.Lib.Cold (StaticIs)
def lo8 (x : Int32) : Int32 := x.toInt8.toInt32
theorem lo8_mask {x : Int32} (h0 : ¬ x < 0) (h1 : ¬ 255 < x) : lo8 x &&& 255 = x := by
  have t : ∀ k : Fin 256, lo8 (Int32.ofNat k.val) &&& 255 = Int32.ofNat k.val := by decide +kernel
  rw [Int32.lt_iff_toInt_lt] at h0 h1
  have e0 : (0 : Int32).toInt = 0 := rfl
  have e1 : (255 : Int32).toInt = 255 := rfl
  obtain ⟨k, hk⟩ : ∃ k : Nat, x.toInt = k := ⟨x.toInt.toNat, by omega⟩
  have hx : x = Int32.ofNat k := Int32.toInt_inj.mp (by rw [hk, Int32.toInt_ofNat_small (by omega)])
  rw [hx]
  exact t ⟨k, by omega⟩
end StrChars
namespace StrChars.Road
open Jvm Sem ClassFile Op Lib Jvm.Stand Jvm.Free Jvm.Free.XT
open Jvm.Lib.Cold (StaticIs)
abbrev ST : String := "java/lang/String"
end StrChars.Road
namespace StrChars
open Jvm Sem ClassFile Op Lib Jvm.Stand Jvm.Free.XT Jvm.Free.ALB Jvm.Free.JM Jvm.Free
open Jvm.Lib.Cold (StaticIs)
def hi8 (x : Int32) : Int32 := lo8 (x >>> ((8 : Int32) &&& 31))
def pairCh (u v : Int32) : Int32 := (((u &&& 255) <<< ((0 : Int32) &&& 31)) ||| ((v &&& 255) <<< ((8 : Int32) &&& 31))).toUInt32.toUInt16.toUInt32.toInt32
theorem lo8_and (x : Int32) : (lo8 x &&& 255).toBitVec.toNat = x.toBitVec.toNat % 256 := by
  have h : (lo8 x).toBitVec = (x.toBitVec.signExtend 8).signExtend 32 := by rw [lo8, Int8.toBitVec_toInt32, Int32.toBitVec_toInt8]
  rw [Int32.toBitVec_and, BitVec.toNat_and, h]
  have e : ((x.toBitVec.signExtend 8).signExtend 32).toNat % 256 = x.toBitVec.toNat % 256 := by
    rw [BitVec.toNat_signExtend]
    have hlt := x.toBitVec.isLt
    simp only [BitVec.toNat_setWidth, BitVec.toNat_signExtend]
    split <;> split <;> omega
  rw [← e]
  exact Nat.and_two_pow_sub_one_eq_mod _ 8
theorem pair_says {c : Int32} (h0 : ¬ c < 0) (h1 : ¬ 65535 < c) : pairCh (lo8 c) (hi8 c) = c := by
  rw [Int32.lt_iff_toInt_lt] at h0 h1
  have e0 : (0 : Int32).toInt = 0 := rfl
  have e1 : (65535 : Int32).toInt = 65535 := rfl
  have hc : c.toInt = c.toBitVec.toNat := by
    have := c.toBitVec.isLt
    have e : c.toInt = c.toBitVec.toInt := rfl
    rw [e] at h0 h1
    rw [e]
    rw [BitVec.toInt_eq_toNat_cond] at h0 h1 ⊢
    split at h0 <;> split <;> omega
  have hn : c.toBitVec.toNat < 65536 := by omega
  have a1 := lo8_and c
  have a2 : (hi8 c &&& 255).toBitVec.toNat = c.toBitVec.toNat / 256 := by
    rw [hi8, lo8_and]
    have e : ((8 : Int32) &&& 31) = 8 := by decide
    rw [e, Int32.toBitVec_shiftRight]
    have e2 : ((8 : Int32).toBitVec.smod 32) = 8#32 := by decide
    rw [e2, BitVec.sshiftRight_eq', BitVec.toNat_sshiftRight_of_msb_false (by rw [BitVec.msb_eq_false_iff_two_mul_lt]; omega)]
    show c.toBitVec.toNat >>> 8 % 256 = _
    rw [Nat.shiftRight_eq_div_pow]
    omega
  unfold pairCh
  apply Int32.toBitVec_inj.mp
  apply BitVec.eq_of_toNat_eq
  have f0 : ((0 : Int32) &&& 31) = 0 := by decide
  have f8 : ((8 : Int32) &&& 31) = 8 := by decide
  rw [f0, f8]
  have g : (((lo8 c &&& 255) <<< (0 : Int32)) ||| ((hi8 c &&& 255) <<< (8 : Int32))).toBitVec.toNat = c.toBitVec.toNat := by
    rw [Int32.toBitVec_or, Int32.toBitVec_shiftLeft, Int32.toBitVec_shiftLeft]
    have s0 : ((0 : Int32).toBitVec.smod 32) = 0#32 := by decide
    have s8 : ((8 : Int32).toBitVec.smod 32) = 8#32 := by decide
    rw [s0, s8, BitVec.toNat_or]
    simp only [BitVec.shiftLeft_eq', BitVec.toNat_shiftLeft, a1, a2]
    show (c.toBitVec.toNat % 256) <<< 0 % 2 ^ 32 ||| (c.toBitVec.toNat / 256) <<< 8 % 2 ^ 32 = _
    rw [Nat.shiftLeft_zero, Nat.mod_eq_of_lt (show c.toBitVec.toNat % 256 < 2 ^ 32 by omega), Nat.mod_eq_of_lt (show (c.toBitVec.toNat / 256) <<< 8 < 2 ^ 32 by rw [Nat.shiftLeft_eq]; omega), Nat.or_comm, ← Nat.shiftLeft_add_eq_or_of_lt (by omega), Nat.shiftLeft_eq]
    omega
  show BitVec.toNat (((((lo8 c &&& 255) <<< (0 : Int32)) ||| ((hi8 c &&& 255) <<< (8 : Int32))).toBitVec.setWidth 16).setWidth 32) = _
  rw [BitVec.toNat_setWidth, BitVec.toNat_setWidth, g]
  omega
end StrChars
namespace StrChars
open Jvm Sem ClassFile Op Lib Jvm.Stand Jvm.Free.XT Jvm.Free.ALB Jvm.Free.JM Jvm.Free
open Jvm.Lib.Cold (StaticIs)
def chr8 (u : Int32) : Int32 := (u &&& 255).toUInt32.toUInt16.toUInt32.toInt32
theorem chr8_lo8 {c : Int32} (h0 : ¬ c < 0) (h1 : ¬ 255 < c) : chr8 (lo8 c) = c := by
  have t : ∀ k : Fin 256, (Int32.ofNat k.val).toUInt32.toUInt16.toUInt32.toInt32 = Int32.ofNat k.val := by decide +kernel
  unfold chr8
  rw [lo8_mask h0 h1]
  rw [Int32.lt_iff_toInt_lt] at h0 h1
  have e0 : (0 : Int32).toInt = 0 := rfl
  have e1 : (255 : Int32).toInt = 255 := rfl
  obtain ⟨k, hk⟩ : ∃ k : Nat, c.toInt = k := ⟨c.toInt.toNat, by omega⟩
  have hx : c = Int32.ofNat k := Int32.toInt_inj.mp (by rw [hk, Int32.toInt_ofNat_small (by omega)])
  rw [hx]
  exact t ⟨k, by omega⟩
theorem narrow_ch {c : Int32} (h0 : ¬ c < 0) (h1 : ¬ 65535 < c) : narrow .char (.int c) = .int c := by
  have q : narrow .char (.int (pairCh (lo8 c) (hi8 c))) = .int (pairCh (lo8 c) (hi8 c)) := narrow_c _
  rwa [pair_says h0 h1] at q
def Cod (cd : Int32) (n : Nat) (f : Nat → Int32) (V : Cell) : Prop := (cd = 0 ∧ V.slots.size = n ∧ ∀ j, j < n → V.slots[j]? = some (.int (lo8 (f j))) ∧ ¬ 255 < f j) ∨ (cd = 1 ∧ V.slots.size = 2 * n ∧ (∀ j, j < n → V.slots[2 * j]? = some (.int (lo8 (f j))) ∧ V.slots[2 * j + 1]? = some (.int (hi8 (f j)))) ∧ ∃ j, j < n ∧ 255 < f j)
theorem Cod.cd {cd : Int32} {n : Nat} {f : Nat → Int32} {V : Cell} (h : Cod cd n f V) : cd = 0 ∨ cd = 1 := h.imp (fun q => q.1) fun q => q.1
def Txt (x t : Addr) (V : Cell) (cd : Int32) (n : Nat) (f : Nat → Int32) (U : State) : Prop := Exact "java/lang/String" x U ∧ Has x "java/lang/String" "value" "[B" (.ref t) U ∧ Has x "java/lang/String" "coder" "B" (.int cd) U ∧ XT.Arr .byte t V U ∧ Cod cd n f V ∧ ∀ j, j < n → ¬ f j < 0 ∧ ¬ 65535 < f j
theorem Txt.mv {x t : Addr} {V : Cell} {cd : Int32} {n : Nat} {f : Nat → Int32} {U U' : State} (h : Txt x t V cd n f U) (hal : U.vm.Alike U'.vm) (hh : U'.heap = U.heap) : Txt x t V cd n f U' := ⟨h.1.mv hal hh, h.2.1.mv hal hh, h.2.2.1.mv hal hh, h.2.2.2.1.mv hal hh, h.2.2.2.2⟩
namespace IsL
def yN : MethodName := ⟨"java/lang/String", "isLatin1", "()Z"⟩
abbrev yB : ByteArray := jdk_42_method_154_code
theorem d0 : decode yB 0 = .ok (.getstatic 38, 3) := by decide +kernel
theorem d3 : decode yB 3 = .ok (.ifCond (.eq) 14, 3) := by decide +kernel
theorem d6 : decode yB 6 = .ok (.aload_n 0, 1) := by decide +kernel
theorem d7 : decode yB 7 = .ok (.getfield 15, 3) := by decide +kernel
theorem d10 : decode yB 10 = .ok (.ifCond (.ne) 7, 3) := by decide +kernel
theorem d13 : decode yB 13 = .ok (.iconst 1, 1) := by decide +kernel
theorem d14 : decode yB 14 = .ok (.goto 4, 3) := by decide +kernel
theorem d17 : decode yB 17 = .ok (.iconst 0, 1) := by decide +kernel
theorem d18 : decode yB 18 = .ok (.ireturn, 1) := by decide +kernel
def site : List Cond := [.fieldLink "java/lang/String" 38 "java/lang/String" "COMPACT_STRINGS" "Z", .fieldLink "java/lang/String" 15 "java/lang/String" "coder" "B"]
def tab : Cond := tabOf yN yB 1 (some .boolean) site
def P (x : Addr) (cd z : Int32) (args : Array Value) (s : State) : Prop := args = #[.ref x] ∧ Has x "java/lang/String" "coder" "B" (.int cd) s ∧ (cd = 0 ∨ cd = 1) ∧ StaticIs s "java/lang/String" "COMPACT_STRINGS" "Z" (.int z) ∧ ¬ z = 0
def E (cd : Int32) (r : Option Value) (s u : State) : Prop := XT.PureE (some (.int (1 - cd))) r s u
theorem law (l : Launch) (x : Addr) (cd z : Int32) : Law l yN 1 0 0 0 yB 1 (some .boolean) site (P x cd z) (E cd) [] 0 0 := by
  refine Law.of_walk (plainFor_of_name (by decide +kernel)) (by decide +kernel) (by decide +kernel) (by decide) (fun _ _ h => by rw [h.1]; rfl) (fun _ U U' hal hh h => ⟨h.1, h.2.1.mv hal hh, h.2.2.1, h.2.2.2.1.there hal hh, h.2.2.2.2⟩) (fun r U U' V V' h1 hal h2 h => XT.PureE.mv r U U' V V' h1 hal h2 h) ?_
  intro p e s m args below meth c s₁ X0 hexec hbytes hml hret hlk hnm hown hh0 W hP
  obtain ⟨rfl, hx, hc, s1, hz⟩ := hP
  have c1 : Steps p.tables e below (s₁.setTop (entryFrame m #[.ref x] 1)) (s₁.setTop (mkF m 0 #[.val (.ref x)] [])) := entry rfl
  obtain ⟨T2, X2, q2, st2⟩ := X0.sget hexec hown (wk W (.fieldLink "java/lang/String" 38 "java/lang/String" "COMPACT_STRINGS" "Z")) s1 (fun _ _ h => by rw [hh0]; exact h) (g := (mkF m 0 #[.val (.ref x)] [])) rfl (hb hbytes d0)
  have hh2 := q2.trans hh0
  have c3 : Steps p.tables e below (s₁.setTop (entryFrame m #[.ref x] 1)) (T2.setTop (mkF m 7 #[.val (.ref x)] [.ref x])) := (c1.trans (st2 _ (Steps.refl _))).trans (by
    refine XS.ifNo X2.here hexec rfl (hb hbytes d3) rfl (i0_eq_f hz) ?_
    refine XS.aloadN X2.here hexec rfl (hb hbytes d6) rfl rfl ?_
    exact Steps.refl _)
  obtain ⟨T4, X4, q4, st4⟩ := X2.hget hexec hown (wk W (.fieldLink "java/lang/String" 15 "java/lang/String" "coder" "B")) (hx.mv X2.warmed.alike hh2) (g := (mkF m 7 #[.val (.ref x)] [.ref x])) rfl (rest := []) rfl (hb hbytes d7)
  have c5 : Steps p.tables e below (s₁.setTop (entryFrame m #[.ref x] 1)) (T4.setTop (mkF m 10 #[.val (.ref x)] [.int cd])) := c3.trans (st4 _ (Steps.refl _))
  have c6 : Steps p.tables e below (s₁.setTop (entryFrame m #[.ref x] 1)) (T4.setTop (mkF m 18 #[.val (.ref x)] [.int (1 - cd)])) := by
    rcases hc with rfl | rfl
    · exact c5.trans (by
        refine XS.ifNo X4.here hexec rfl (hb hbytes d10) rfl (i0_ne_f rfl) ?_
        refine iconstV X4.here hexec rfl 1 (hb hbytes d13) (by decide) ?_
        refine XS.goto X4.here hexec rfl (pc0 := 14) rfl (hb hbytes d14) (by decide) rfl ?_
        exact Steps.refl _)
    · exact c5.trans (by
        refine XS.ifYes X4.here hexec rfl (pc0 := 10) rfl (hb hbytes d10) rfl (i0_ne_t (by decide)) (by decide) rfl ?_
        refine iconstV X4.here hexec rfl 0 (hb hbytes d17) (by decide) ?_
        exact Steps.refl _)
  exact ⟨T4, some (.int (1 - cd)), _, _, _, X4, rfl, rfl, rfl, (fun h => by cases h), ⟨rfl, q4.trans hh2⟩, fun fs hl => c6.trans (X4.ireturnOut hexec hret (by rcases hc with rfl | rfl <;> rfl) (Or.inr (Or.inl rfl)) (hb hbytes d18) hl)⟩
end IsL
namespace LChA
def yN : MethodName := ⟨"java/lang/StringLatin1", "charAt", "([BI)C"⟩
abbrev yB : ByteArray := jdk_43_method_2_code
theorem d0 : decode yB 0 = .ok (.iload_n 1, 1) := by decide +kernel
theorem d1 : decode yB 1 = .ok (.aload_n 0, 1) := by decide +kernel
theorem d2 : decode yB 2 = .ok (.arraylength, 1) := by decide +kernel
theorem d3 : decode yB 3 = .ok (.invokestatic 9, 3) := by decide +kernel
theorem d6 : decode yB 6 = .ok (.aload_n 0, 1) := by decide +kernel
theorem d7 : decode yB 7 = .ok (.iload_n 1, 1) := by decide +kernel
theorem d8 : decode yB 8 = .ok (.baload, 1) := by decide +kernel
theorem d9 : decode yB 9 = .ok (.sipush 255, 3) := by decide +kernel
theorem d12 : decode yB 12 = .ok (.iand, 1) := by decide +kernel
theorem d13 : decode yB 13 = .ok (.i2c, 1) := by decide +kernel
theorem d14 : decode yB 14 = .ok (.ireturn, 1) := by decide +kernel
def site : List Cond := [JO.Str_checkIndex.tab] ++ staticW "java/lang/StringLatin1" 9 JO.Str_checkIndex.yN
def tab : Cond := tabOf yN yB 2 (some .char) site
def P (t : Addr) (V : Cell) (i : Nat) (u : Int32) (fm : Value) (args : Array Value) (s : State) : Prop := args = #[.ref t, .int (Int32.ofNat i)] ∧ XT.Arr .byte t V s ∧ V.slots[i]? = some (.int u) ∧ (StaticIs s "jdk/internal/util/Preconditions" "SIOOBE_FORMATTER" "Ljava/util/function/BiFunction;" fm ∧ fm.isRef = true)
def E (u : Int32) (r : Option Value) (s w : State) : Prop := XT.PureE (some (.int (chr8 u))) r s w
theorem law (l : Launch) (t : Addr) (V : Cell) (i : Nat) (u : Int32) (fm : Value) : Law l yN 2 2 2 27 yB 2 (some .char) site (P t V i u fm) (E u) [] 0 0 := by
  refine Law.of_walk (plainFor_of_name (by decide +kernel)) (by decide +kernel) (by decide +kernel) (by decide) (fun _ _ h => by rw [h.1]; rfl) (fun _ U U' hal hh h => ⟨h.1, h.2.1.mv hal hh, h.2.2.1, h.2.2.2.1.there hal hh, h.2.2.2.2⟩) (fun r U U' V V' h1 hal h2 h => XT.PureE.mv r U U' V V' h1 hal h2 h) ?_
  intro p e s m args below meth c s₁ X0 hexec hbytes hml hret hlk hnm hown hh0 W hP
  obtain ⟨rfl, hV, hu, s1, rf⟩ := hP
  have v31 := hV.2.2.2
  have hi : i < V.slots.size := (Array.getElem?_eq_some_iff.mp hu).1
  have c1 : Steps p.tables e below (s₁.setTop (entryFrame m #[.ref t, .int (Int32.ofNat i)] 2)) (s₁.setTop (mkF m 0 #[.val (.ref t), .val (.int (Int32.ofNat i))] [])) := entry rfl
  have c2 : Steps p.tables e below (s₁.setTop (entryFrame m #[.ref t, .int (Int32.ofNat i)] 2)) (s₁.setTop (mkF m 3 #[.val (.ref t), .val (.int (Int32.ofNat i))] [.int (Int32.ofNat V.slots.size), .int (Int32.ofNat i)])) := c1.trans (by
    refine XS.iloadN X0.here hexec rfl (hb hbytes d0) rfl ?_
    refine XS.aloadN X0.here hexec rfl (hb hbytes d1) rfl rfl ?_
    refine X0.alen hexec (hV.mv X0.warmed.alike hh0) rfl rfl (hb hbytes d2) ?_
    exact Steps.refl _)
  obtain ⟨v3, T3, X3, E3, g3⟩ := X0.callS hexec (JO.Str_checkIndex.law l (Int32.ofNat i) (Int32.ofNat V.slots.size) fm) hown (wks W (staticW "java/lang/StringLatin1" 9 JO.Str_checkIndex.yN)) (wk W JO.Str_checkIndex.tab) (W := 0) (Nat.le_of_ble_eq_true rfl) (Nat.le_of_ble_eq_true rfl) (Nat.le_refl _) (Nat.le_refl _) (g := (mkF m 3 #[.val (.ref t), .val (.int (Int32.ofNat i))] [.int (Int32.ofNat V.slots.size), .int (Int32.ofNat i)])) rfl (by rw [hml]; rfl) c2 (argsL := [.int (Int32.ofNat i), .int (Int32.ofNat V.slots.size)]) (rest := []) rfl rfl (by show 2 * 0 + 0 ≤ _; decide) (hb hbytes d3) (⟨rfl, rf, s1.there X0.warmed.alike hh0, Int32.ofNat_not_neg (by omega), lt32 v31 hi⟩)
  obtain ⟨rfl, q3⟩ := E3
  have hh3 := q3.trans hh0
  have c4 : Steps p.tables e below (s₁.setTop (entryFrame m #[.ref t, .int (Int32.ofNat i)] 2)) (T3.setTop (mkF m 14 #[.val (.ref t), .val (.int (Int32.ofNat i))] [.int (chr8 u)])) := Steps.trans g3 (by
    refine XS.aloadN X3.here hexec rfl (hb hbytes d6) rfl rfl ?_
    refine XS.iloadN X3.here hexec rfl (hb hbytes d7) rfl ?_
    refine X3.aget hexec (hV.mv X3.warmed.alike hh3) rfl hu rfl rfl (hb hbytes d8) ?_
    refine sipushV X3.here hexec rfl 255 (hb hbytes d9) (by decide) ?_
    refine XS.iand X3.here hexec rfl (hb hbytes d12) rfl ?_
    refine i2c X3.here hexec rfl (hb hbytes d13) rfl ?_
    exact Steps.refl _)
  exact ⟨T3, some (.int (chr8 u)), _, _, _, X3, rfl, rfl, rfl, (fun h => by cases h), ⟨rfl, hh3⟩, fun fs hl => c4.trans (X3.ireturnOut hexec hret (narrow_c _) (Or.inr (Or.inr (Or.inr (Or.inl rfl)))) (hb hbytes d14) hl)⟩
end LChA
end StrChars
namespace StrChars.Road
open Jvm Sem ClassFile Op Lib Jvm.Stand Jvm.Free Jvm.Free.XT
open Jvm.Lib.Cold (StaticIs)
theorem consq {a : Array Value} {s : State} {c : Jvm.Cond} {L : List Jvm.Cond} (h0 : c.before a s = true) (h : ∀ w ∈ L, w.before a s = true) : ∀ w ∈ c :: L, w.before a s = true := fun w hw => (List.mem_cons.mp hw).elim (fun e => e ▸ h0) (h w)
def wideBytes : List Int32 → List Value
  | [] => []
  | c :: cs => .int (lo8 c) :: .int (hi8 c) :: wideBytes cs
theorem wide_lo (d : Value) : ∀ (cs : List Int32) (j : Nat), j < cs.length → (wideBytes cs).getD (2 * j) d = .int (lo8 (cs.getD j 0))
  | [], j, h => absurd h (Nat.not_lt_zero j)
  | c :: cs, 0, _ => rfl
  | c :: cs, j + 1, h => by
    have q := wide_lo d cs j (by simpa using h)
    rw [show 2 * (j + 1) = 2 * j + 1 + 1 from by omega]
    simpa [wideBytes] using q
theorem wide_hi (d : Value) : ∀ (cs : List Int32) (j : Nat), j < cs.length → (wideBytes cs).getD (2 * j + 1) d = .int (hi8 (cs.getD j 0))
  | [], j, h => absurd h (Nat.not_lt_zero j)
  | c :: cs, 0, _ => rfl
  | c :: cs, j + 1, h => by
    have q := wide_hi d cs j (by simpa using h)
    rw [show 2 * (j + 1) + 1 = 2 * j + 1 + 1 + 1 from by omega]
    simpa [wideBytes] using q
theorem low_at (d : Value) (cs : List Int32) (j : Nat) (h : j < cs.length) : (cs.map fun c => Value.int (lo8 c)).getD j d = .int (lo8 (cs.getD j 0)) := by
  simp [List.getD_eq_getElem?_getD, h]
def CodA (cs : List Int32) (cd N2 : Int32) (vs : List Value) : Prop := (cd = 0 ∧ N2 = Int32.ofNat cs.length ∧ vs = (cs.map fun c => Value.int (lo8 c)) ∧ ∀ c ∈ cs, ¬ 255 < c) ∨ (cd = 1 ∧ N2 = Int32.ofNat (2 * cs.length) ∧ vs = wideBytes cs ∧ ∃ c ∈ cs, 255 < c)
theorem CodA.cod {cs : List Int32} {cd N2 : Int32} {vs : List Value} {V : Cell} (h : CodA cs cd N2 vs) (hn : 2 * cs.length < 2 ^ 31) (hs : V.slots.size = N2.toNatClampNeg) (hv : RoadKit.Has V vs (.int 0)) : Cod cd cs.length (fun j => cs.getD j 0) V := by
  rcases h with ⟨rfl, rfl, rfl, h⟩ | ⟨rfl, rfl, rfl, c, hc, hw⟩
  · rw [n32 (by omega)] at hs
    exact Or.inl ⟨rfl, hs, fun j hj => ⟨by rw [hv j (by omega), low_at _ _ _ hj], by
      have e : cs.getD j 0 = cs[j] := by simp [List.getD_eq_getElem?_getD, hj]
      show ¬ 255 < cs.getD j 0
      rw [e]; exact h _ (List.getElem_mem _)⟩⟩
  · rw [n32 (by omega)] at hs
    obtain ⟨j, hj, rfl⟩ := List.getElem_of_mem hc
    exact Or.inr ⟨rfl, hs, fun j hj => ⟨by rw [hv _ (by omega), wide_lo _ _ _ hj], by rw [hv _ (by omega), wide_hi _ _ _ hj]⟩, j, hj, by
      have e : cs.getD j 0 = cs[j] := by simp [List.getD_eq_getElem?_getD, hj]
      show 255 < cs.getD j 0
      rw [e]; exact hw⟩
theorem strObj {Z U : State} {a0 : Array Value} {kI : Nat} (wi : (Jvm.Cond.instantiable ST kI).before a0 Z = true) (al : Z.vm.Alike U.vm) {x : Addr} {v0 c0 : Value} (E : RoadKit.Exa Z U.heap x ST) (V : RoadKit.Fld Z U.heap x ST "value" "[B" v0) (C : RoadKit.Fld Z U.heap x ST "coder" "B" c0) :
    ∃ (D : Cell) (fV fC : Field), Blank ST x D U ∧ Found ST "value" "[B" fV U ∧ Found ST "coder" "B" fC U ∧ D.slots[fV.slot]? = some v0 ∧ D.slots[fC.slot]? = some c0 ∧ RoadKit.slotOf Z ST "value" "[B" = fV.slot ∧ RoadKit.slotOf Z ST "coder" "B" = fC.slot := by
  obtain ⟨D, cfV, kV, iV, fV, hD, gV, stV, knV, obV, asV, slV⟩ := V
  obtain ⟨D', cfC, kC, iC, fC, hD', gC, stC, -, -, asC, slC⟩ := C
  cases hD.symm.trans hD'
  obtain ⟨D2, kD, e1, e2, e3, e4, e5⟩ := E
  cases hD.symm.trans e1
  obtain ⟨c2, k2, i1, i2, i3, -⟩ := Cond.instantiable_spec wi
  cases e2.symm.trans i1
  cases e3.symm.trans i2
  obtain ⟨kU, u1, u2⟩ := al.2.2 _ _ e3
  exact ⟨D, fV, fC, ⟨hD, ⟨knV, fun q hq => by rw [hq] at obV; cases obV⟩, by rw [al.findClass]; exact e2, kU, u1, by rw [u2]; exact i3, by rw [u2]; exact e5 i3⟩, ⟨SBG.found_only al ⟨cfV, kV, iV, gV⟩, stV⟩, ⟨SBG.found_only al ⟨cfC, kC, iC, gC⟩, stC⟩, slV, slC, by simp [RoadKit.slotOf, gV], by simp [RoadKit.slotOf, gC]⟩
theorem sta_is {Z U : State} (al : Z.vm.Alike U.vm) {C n d : String} {v : Value} (S : RoadKit.Sta Z U.heap C n d v) : StaticIs U C n d v := by
  obtain ⟨cfS, iS, kS, fS, st, cS, t1, t2, t3, t4, t5, t6, t7⟩ := S
  exact StaticIs.there (s := { Z with heap := U.heap }) ⟨cfS, iS, kS, fS, st, cS, t1, t2, t3, t4, t5, (fun q => by rw [q] at t6; cases t6), t7⟩ al rfl
end StrChars.Road
namespace StrChars.Road
open Jvm Sem ClassFile Op Lib Jvm.Stand Jvm.Free Jvm.Free.XT
open Jvm.Lib.Cold (StaticIs)
theorem txt_of {Z U : State} {a0 : Array Value} {kI : Nat} (wi : (Jvm.Cond.instantiable ST kI).before a0 Z = true) (al : Z.vm.Alike U.vm) {x t : Addr} {kb : ClassId} {cs : List Int32} {cd N2 : Int32} {vs : List Value} (E : RoadKit.Exa Z U.heap x ST) (V : RoadKit.Fld Z U.heap x ST "value" "[B" (.ref t)) (C : RoadKit.Fld Z U.heap x ST "coder" "B" (.int cd)) (K : RoadKit.Arv Z U.heap t kb .byte N2 vs (.int 0)) (hc : CodA cs cd N2 vs) (hb : ∀ c ∈ cs, ¬ c < 0 ∧ ¬ (65535 : Int32) < c) (l2 : cs.length ≤ 4000) :
    ∃ A, Txt x t A cd cs.length (fun j => cs.getD j 0) U := by
  obtain ⟨A, K1, K2, K3, K4, K5, K6⟩ := K
  have hcod := hc.cod (by omega) K3 K5
  obtain ⟨D, fV, fC, hB, F1, F2, g1, g2, -, -⟩ := strObj wi al E V C
  exact ⟨A, ⟨_, hB.2.2.1, D, hB.1, rfl, by cases q : D.vm <;> first | rfl | exact absurd q (hB.2.1.2 _)⟩, Has.of hB F1 g1, Has.of hB F2 g2, ⟨K1.1, State.isArrayOf_alike al K1.2.1, K1.2.2, by rcases hcod with ⟨-, q, -⟩ | ⟨-, q, -⟩ <;> omega⟩, hcod, fun j hj => by
    have e : cs.getD j 0 = cs[j] := by simp [List.getD_eq_getElem?_getD, hj]
    show ¬ cs.getD j 0 < 0 ∧ ¬ 65535 < cs.getD j 0
    rw [e]; exact hb _ (List.getElem_mem _)⟩
end StrChars.Road
namespace StrChars
open Jvm Sem ClassFile Op Lib Jvm.Stand Jvm.Free.XT Jvm.Free.ALB Jvm.Free.JM Jvm.Free
open Jvm.Lib.Cold (StaticIs)
namespace ChN
def yN : MethodName := ⟨"java/lang/String", "charAt", "(I)C"⟩
abbrev yB : ByteArray := jdk_42_method_56_code
theorem d0 : decode yB 0 = .ok (.aload_n 0, 1) := by decide +kernel
theorem d1 : decode yB 1 = .ok (.invokevirtual 492, 3) := by decide +kernel
theorem d4 : decode yB 4 = .ok (.ifCond (.eq) 12, 3) := by decide +kernel
theorem d7 : decode yB 7 = .ok (.aload_n 0, 1) := by decide +kernel
theorem d8 : decode yB 8 = .ok (.getfield 9, 3) := by decide +kernel
theorem d11 : decode yB 11 = .ok (.iload_n 1, 1) := by decide +kernel
theorem d12 : decode yB 12 = .ok (.invokestatic 495, 3) := by decide +kernel
theorem d15 : decode yB 15 = .ok (.ireturn, 1) := by decide +kernel
def site : List Cond := [.fieldLink "java/lang/String" 9 "java/lang/String" "value" "[B", IsL.tab, LChA.tab] ++ virtW "java/lang/String" 492 "java/lang/String" IsL.yN IsL.yN ++ staticW "java/lang/String" 495 LChA.yN
def tab : Cond := tabOf yN yB 2 (some .char) site
def P (x t : Addr) (V : Cell) (n : Nat) (f : Nat → Int32) (z : Int32) (fm : Value) (i : Nat) (args : Array Value) (s : State) : Prop := args = #[.ref x, .int (Int32.ofNat i)] ∧ Txt x t V 0 n f s ∧ i < n ∧ StaticIs s "java/lang/String" "COMPACT_STRINGS" "Z" (.int z) ∧ ¬ z = 0 ∧ StaticIs s "jdk/internal/util/Preconditions" "SIOOBE_FORMATTER" "Ljava/util/function/BiFunction;" fm ∧ fm.isRef = true
def E (f : Nat → Int32) (i : Nat) (r : Option Value) (s u : State) : Prop := XT.PureE (some (.int (f i))) r s u
theorem law (l : Launch) (x t : Addr) (V : Cell) (n : Nat) (f : Nat → Int32) (z : Int32) (fm : Value) (i : Nat) : Law l yN 2 1 3 40 yB 2 (some .char) site (P x t V n f z fm i) (E f i) [] 0 0 := by
  refine Law.of_walk (plainFor_of_name (by decide +kernel)) (by decide +kernel) (by decide +kernel) (by decide) (fun _ _ h => by rw [h.1]; rfl) (fun _ U U' hal hh h => ⟨h.1, h.2.1.mv hal hh, h.2.2.1, h.2.2.2.1.there hal hh, h.2.2.2.2.1, h.2.2.2.2.2.1.there hal hh, h.2.2.2.2.2.2⟩) (fun r U U' V V' h1 hal h2 h => XT.PureE.mv r U U' V V' h1 hal h2 h) ?_
  intro p e s m args below meth c s₁ X0 hexec hbytes hml hret hlk hnm hown hh0 W hP
  obtain ⟨rfl, hx, hi, s1, hz, s3, rf⟩ := hP
  have v31 := hx.2.2.2.1.2.2.2
  have hr := hx.2.2.2.2.2 i hi
  have hx0 := hx.mv X0.warmed.alike hh0
  have c1 : Steps p.tables e below (s₁.setTop (entryFrame m #[.ref x, .int (Int32.ofNat i)] 2)) (s₁.setTop (mkF m 1 #[.val (.ref x), .val (.int (Int32.ofNat i))] [.ref x])) := Steps.trans (entry rfl) (by
    show Steps p.tables e below (s₁.setTop (mkF m 0 #[.val (.ref x), .val (.int (Int32.ofNat i))] [])) _
    refine XS.aloadN X0.here hexec rfl (hb hbytes d0) rfl rfl ?_
    exact Steps.refl _)
  obtain ⟨v2, T2, X2, E2, g2⟩ := X0.callV hexec (IsL.law l x 0 z) hown (wks W (virtW "java/lang/String" 492 "java/lang/String" IsL.yN IsL.yN)) rfl (by decide) (wk W IsL.tab) (W := 0) (Nat.le_of_ble_eq_true rfl) (Nat.le_of_ble_eq_true rfl) (Nat.le_refl _) (Nat.le_refl _) (hx0.1.fc X0.warmed.alike) hx0.1.is (g := (mkF m 1 #[.val (.ref x), .val (.int (Int32.ofNat i))] [.ref x])) rfl (by rw [hml]; rfl) c1 (argsL := []) (rest := []) rfl rfl (by show 2 * 0 + 0 ≤ _; decide) (hb hbytes d1) (⟨rfl, hx0.2.2.1, hx.2.2.2.2.1.cd, s1.there X0.warmed.alike hh0, hz⟩)
  obtain ⟨rfl, q2⟩ := E2
  have hh2 := q2.trans hh0
  have hx2 := hx.mv X2.warmed.alike hh2
  obtain ⟨-, k1, k2⟩ | ⟨k0, -⟩ := hx.2.2.2.2.1
  · have c3 : Steps p.tables e below (s₁.setTop (entryFrame m #[.ref x, .int (Int32.ofNat i)] 2)) (T2.setTop (mkF m 8 #[.val (.ref x), .val (.int (Int32.ofNat i))] [.ref x])) := Steps.trans g2 (by
      refine XS.ifNo X2.here hexec rfl (hb hbytes d4) rfl (i0_eq_f (by decide)) ?_
      refine XS.aloadN X2.here hexec rfl (hb hbytes d7) rfl rfl ?_
      exact Steps.refl _)
    obtain ⟨T4, X4, q4, st4⟩ := X2.hget hexec hown (wk W (.fieldLink "java/lang/String" 9 "java/lang/String" "value" "[B")) hx2.2.1 (g := (mkF m 8 #[.val (.ref x), .val (.int (Int32.ofNat i))] [.ref x])) rfl (rest := []) rfl (hb hbytes d8)
    have hh4 := q4.trans hh2
    have c5 : Steps p.tables e below (s₁.setTop (entryFrame m #[.ref x, .int (Int32.ofNat i)] 2)) (T4.setTop (mkF m 12 #[.val (.ref x), .val (.int (Int32.ofNat i))] [.int (Int32.ofNat i), .ref t])) := (c3.trans (st4 _ (Steps.refl _))).trans (by
      refine XS.iloadN X4.here hexec rfl (hb hbytes d11) rfl ?_
      exact Steps.refl _)
    obtain ⟨v6, T6, X6, E6, g6⟩ := X4.callS hexec (LChA.law l t V i (lo8 (f i)) fm) hown (wks W (staticW "java/lang/String" 495 LChA.yN)) (wk W LChA.tab) (W := 0) (Nat.le_of_ble_eq_true rfl) (Nat.le_of_ble_eq_true rfl) (Nat.le_refl _) (Nat.le_refl _) (g := (mkF m 12 #[.val (.ref x), .val (.int (Int32.ofNat i))] [.int (Int32.ofNat i), .ref t])) rfl (by rw [hml]; rfl) c5 (argsL := [.ref t, .int (Int32.ofNat i)]) (rest := []) rfl rfl (by show 2 * 0 + 0 ≤ _; decide) (hb hbytes d12) (⟨rfl, hx.2.2.2.1.mv X4.warmed.alike hh4, (k2 i hi).1, s3.there X4.warmed.alike hh4, rf⟩)
    obtain ⟨rfl, q6⟩ := E6
    rw [chr8_lo8 hr.1 (k2 i hi).2] at g6
    exact ⟨T6, some (.int (f i)), _, _, _, X6, rfl, rfl, rfl, (fun h => by cases h), ⟨rfl, q6.trans hh4⟩, fun fs hl => Steps.trans g6 (X6.ireturnOut hexec hret (narrow_ch hr.1 hr.2) (Or.inr (Or.inr (Or.inr (Or.inl rfl)))) (hb hbytes d15) hl)⟩
  · exact absurd k0 (by decide)
theorem pays {l : Launch} {R : Room} {p : Program} {e : Env} {below : List Frame} {s : State} {sargs : Array Value} {len W : Nat} (x t : Addr) (V : Cell) (n : Nat) (f : Nat → Int32) (z : Int32) (fm : Value) (i : Nat) (htab : tab.before sargs s = true) (hfr : 4 ≤ R.frames) (hlo : W + 53 ≤ R.locals) :
    Back l R p e below s sargs yN len W (fun A₁ a₁ => A₁.cells + 0 ≤ R.cells ∧ A₁.slots + 0 ≤ R.slots ∧ P x t V n f z fm i a₁ A₁.U) (fun A₁ _ v₁ B₁ => E f i v₁ A₁.U B₁.U ∧ B₁.locs = A₁.locs ++ [] ∧ B₁.cells = A₁.cells + 0 ∧ B₁.slots = A₁.slots + 0) :=
  (law l x t V n f z fm i).pays htab hfr (by omega)
end ChN
end StrChars
namespace StrChars.Road
open Jvm Sem ClassFile Op Lib Jvm.Stand Jvm.Free Jvm.Free.XT
open Jvm.Lib.Cold (StaticIs)
abbrev wordsChN : List Jvm.Cond := [.code ChN.yN ChN.yB 2 (some .char), .initialized ST, .fieldLink ST 9 ST "value" "[B", .fieldLink ST 38 ST "COMPACT_STRINGS" "Z", .fieldLink ST 15 ST "coder" "B", .code IsL.yN IsL.yB 1 (some .boolean), .methodLink ST 492 IsL.yN, .declares IsL.yN, .selects ST IsL.yN IsL.yN, .instanceMethod IsL.yN,
  .methodLink ST 495 LChA.yN, .static LChA.yN, .code LChA.yN LChA.yB 2 (some .char), .initialized "java/lang/StringLatin1", .methodLink "java/lang/StringLatin1" 9 JO.Str_checkIndex.yN, .static JO.Str_checkIndex.yN, .code JO.Str_checkIndex.yN JO.Str_checkIndex.yB 2 none,
  .fieldLink ST 1053 "jdk/internal/util/Preconditions" "SIOOBE_FORMATTER" "Ljava/util/function/BiFunction;", .methodLink ST 1059 JC.PreCheck.yN, .static JC.PreCheck.yN, .code JC.PreCheck.yN JC.PreCheck.yB 3 (some .int), .initialized "jdk/internal/util/Preconditions"]
theorem tabChN_of {a : Array Value} {s : State} (h : ∀ w ∈ wordsChN, w.before a s = true) : ChN.tab.before a s = true := by
  have hp : JC.PreCheck.tab.before a s = true := unparts (wk h (.code JC.PreCheck.yN JC.PreCheck.yB 3 (some .int))) (wks h (.initialized JC.PreCheck.yN.cls :: JC.PreCheck.site))
  have qk := consq hp h
  have hk : JO.Str_checkIndex.tab.before a s = true := unparts (wk qk (.code JO.Str_checkIndex.yN JO.Str_checkIndex.yB 2 none)) (wks qk (.initialized JO.Str_checkIndex.yN.cls :: JO.Str_checkIndex.site))
  have ql := consq hk h
  have hl : LChA.tab.before a s = true := unparts (wk ql (.code LChA.yN LChA.yB 2 (some .char))) (wks ql (.initialized LChA.yN.cls :: LChA.site))
  have hi : IsL.tab.before a s = true := unparts (wk h (.code IsL.yN IsL.yB 1 (some .boolean))) (wks h (.initialized IsL.yN.cls :: IsL.site))
  have q := consq hi (consq hl h)
  exact unparts (wk q (.code ChN.yN ChN.yB 2 (some .char))) (wks q (.initialized ChN.yN.cls :: ChN.site))
theorem movedChN {Z s : State} {a0 args : Array Value} (hZ : Z.Warmed39 s.vm) (hw : ∀ d ∈ wordsChN, d.before a0 Z = true) : ∀ d ∈ wordsChN, d.before args s = true := fun d hd => by
  have t : ∀ d ∈ wordsChN, (d.onTables && d.keepsFace) = true := by decide +kernel
  exact RoadKit.mv hZ (hw d hd) (t d hd)
theorem chN {p : Program} {l : Launch} {e : Env} {R : Room} {s : State} {args : Array Value} {below : List Frame} {len W : Nat} {Z : State} {a0 : Array Value} {h : Heap} (hZ : Z.Warmed39 s.vm) (hw : ∀ d ∈ wordsChN, d.before a0 Z = true) {kI : Nat} (wi : (Jvm.Cond.instantiable ST kI).before a0 Z = true)
    {x t : Addr} {kb : ClassId} {cs : List Int32} {N2 z : Int32} {vs : List Value} {fm : Value} {i : Nat} {j : Int32} (E : RoadKit.Exa Z h x ST) (V : RoadKit.Fld Z h x ST "value" "[B" (.ref t)) (C : RoadKit.Fld Z h x ST "coder" "B" (.int 0)) (K : RoadKit.Arv Z h t kb .byte N2 vs (.int 0)) (hc : CodA cs 0 N2 vs) (hb : ∀ c ∈ cs, ¬ c < 0 ∧ ¬ (65535 : Int32) < c)
    (S : RoadKit.Sta Z h ST "COMPACT_STRINGS" "Z" (.int z)) (hz : ¬ z = 0) (F : RoadKit.Sta Z h "jdk/internal/util/Preconditions" "SIOOBE_FORMATTER" "Ljava/util/function/BiFunction;" fm) (rf : fm.isRef = true) (l2 : cs.length ≤ 4000) (hi : i < cs.length) (hj : j = Int32.ofNat i) (hfr : 4 ≤ R.frames) (hlo : W + 53 ≤ R.locals) :
    Back l R p e below s args (⟨"java/lang/String", "charAt", "(I)C"⟩ : MethodName) len W (fun P a => a = #[.ref x, .int j] ∧ P.U.heap = h ∧ P.cells + 0 ≤ R.cells ∧ P.slots + 0 ≤ R.slots)
      (fun P _ v B => ∃ L, (v = some (.int (cs.getD i 0)) ∧ L = [] ∧ B.U.heap = h) ∧ B.locs = P.locs ++ L ∧ B.cells = P.cells + 0 ∧ B.slots = P.slots + 0) := by
  subst hj
  intro m meth c P g ig mk a X hg hsize hdg hW hn hp'
  obtain ⟨rfl, rfl, r1, r2⟩ := hp'
  have al : Z.vm.Alike P.U.vm := hZ.alike.trans X.warmed.alike
  obtain ⟨A, hx⟩ := txt_of wi al E V C K hc hb l2
  obtain ⟨v, B, X', ⟨⟨hv, hh⟩, hl, hk, hs⟩, st⟩ := ChN.pays x t A cs.length (fun j => cs.getD j 0) z fm i (tabChN_of (movedChN hZ hw)) hfr hlo m meth c P g ig mk _ X hg hsize hdg hW hn ⟨r1, r2, rfl, hx, hi, sta_is al S, hz, sta_is al F, rf⟩
  exact ⟨v, B, X', ⟨[], ⟨hv, rfl, hh⟩, hl, hk, hs⟩, st⟩
theorem codOf {cs : List Int32} {n : Nat} (hn : cs.length = n) (hb : ∀ c ∈ cs, ¬ 255 < c) : CodA cs 0 (Int32.ofNat n) ((cs.map lo8).map Value.int) := Or.inl ⟨rfl, by rw [hn], by simp [List.map_map, Function.comp_def], hb⟩
end StrChars.Road
end Jvm.Pilot.@@N@@
namespace Jvm.Pilot.@@N@@
open Jvm Jvm.ClassFile Sem Op Lib Jvm.Free Jvm.Stand Jvm.LawKit Jvm.RoadKit Bundle Jvm.Pilot.@@N@@.Jvm.D
section OwnKit
variable {p : Program} {l : Launch} {e : Env} {R : Room} {s : State} {m : MethodId} {args : Array Value} {below : List Frame} {meth : Method} {c : Code} {T T' : State} {locs : List Loc} {cells slots : Nat} {F F' : JFrame} {K : State → Prop}
/-- from the frame F the run comes to a state that K takes -/
def own_R (p : Program) (e : Env) (below : List Frame) (K : State → Prop) (T : State) (F : JFrame) : Prop := ∃ t, Steps p.tables e below (T.setTop F) t ∧ K t
theorem own_go (h : ∀ t, Steps p.tables e below (T'.setTop F') t → Steps p.tables e below (T.setTop F) t) (r : own_R p e below K T' F') : own_R p e below K T F := by
  obtain ⟨t, h1, h2⟩ := r
  exact ⟨t, h t h1, h2⟩
/-- the end of the body: it returned, and Q holds -/
def own_E (s : State) (below : List Frame) (Q : Option Value → Heap → List Loc → Prop) (k n : Nat) (t : State) : Prop :=
  t.status = .running ∧ ∃ v L, Ended t below (.returned v) ∧ Q v t.heap L ∧ FrameEnd s (.returned v) t L k n
/-- a join: the run stands at F', the heap as I says -/
def own_K (p : Program) (l : Launch) (e : Env) (R : Room) (s : State) (m : MethodId) (args : Array Value) (below : List Frame) (meth : Method) (c : Code) (n0 cells slots : Nat) (I : Heap → Prop) (F' : JFrame) (t : State) : Prop :=
  ∃ (T' : State) (L' : List Loc), t = T'.setTop F' ∧ Stand p l e R s m args below meth c T' L' cells slots ∧ I T'.heap ∧ Fr n0 L'
theorem own_here {n0 : Nat} {I : Heap → Prop} (X : Stand p l e R s m args below meth c T locs cells slots) (i : I T.heap) (N : Fr n0 locs) : own_R p e below (own_K p l e R s m args below meth c n0 cells slots I F) T F :=
  ⟨_, Steps.refl _, T, locs, rfl, X, i, N⟩
theorem own_retN {Q : Option Value → Heap → List Loc → Prop} {k n : Nat} (X : Stand p l e R s m args below meth c T locs cells slots) (hx : p.tables.exec = Jvm.exec) {pc : Nat} {Ls : Array Slot} {z : Int32} {t : FieldType} {rest : List Value} (hret : meth.sig.returnType = some t) (ht : t = .boolean ∨ t = .byte ∨ t = .char ∨ t = .short) (hlk : meth.locks = false)
    (hd : decode c.code pc = .ok (.ireturn, 1)) (hk : cells ≤ k) (hn : slots ≤ n) (hQ : Q (some (.int (nar t z))) T.heap locs) : own_R p e below (own_E s below Q k n) T (mkF m pc Ls (.int z :: rest)) := by
  obtain ⟨fs, hr, hrun, hended, hW, hsame⟩ := X.leave (v := some (.int (nar t z))) (fun h => by rw [hret] at h; cases h) hlk
  exact ⟨_, retN X hx hret ht hd hr, hrun, _, _, hended, hQ, ⟨_, rfl⟩, hW, hsame.mono hk hn⟩
theorem own_retW {Q : Option Value → Heap → List Loc → Prop} {k n : Nat} (X : Stand p l e R s m args below meth c T locs cells slots) (hx : p.tables.exec = Jvm.exec) {pc : Nat} {Ls : Array Slot} {w : Value} {t : FieldType} {i : Instr} {rest : List Value} (hret : meth.sig.returnType = some t) (hnw : narrow t w = w)
    (hi : (i = .ireturn ∧ (t = .int ∨ t = .boolean ∨ t = .byte ∨ t = .char ∨ t = .short) ∧ ∃ z, w = .int z) ∨ (i = .lreturn ∧ t = .long ∧ ∃ z, w = .long z) ∨ (i = .dreturn ∧ t = .double ∧ ∃ z, w = .double z) ∨ (i = .freturn ∧ t = .float ∧ ∃ z, w = .float z) ∨ (i = .areturn ∧ t.isReference = true ∧ w.isRef = true)) (hlk : meth.locks = false)
    (hd : decode c.code pc = .ok (i, 1)) (hk : cells ≤ k) (hn : slots ≤ n) (hQ : Q (some w) T.heap locs) : own_R p e below (own_E s below Q k n) T (mkF m pc Ls (w :: rest)) := by
  obtain ⟨fs, hr, hrun, hended, hW, hsame⟩ := X.leave (v := some w) (fun h => by rw [hret] at h; cases h) hlk
  exact ⟨_, retOut X hx hret hnw hi hd hr, hrun, _, _, hended, hQ, ⟨_, rfl⟩, hW, hsame.mono hk hn⟩
theorem own_retV {Q : Option Value → Heap → List Loc → Prop} {k n : Nat} (X : Stand p l e R s m args below meth c T locs cells slots) (hx : p.tables.exec = Jvm.exec) {pc : Nat} {Ls : Array Slot} (hret : meth.sig.returnType = none) (hlk : meth.locks = false)
    (hd : decode c.code pc = .ok (.return_, 1)) (hk : cells ≤ k) (hn : slots ≤ n) (hQ : Q none T.heap locs) : own_R p e below (own_E s below Q k n) T (mkF m pc Ls []) := by
  obtain ⟨fs, hr, hrun, hended, hW, hsame⟩ := X.leave (v := none) (fun _ => rfl) hlk
  exact ⟨_, X.returnOut hx hret hd hr, hrun, _, _, hended, hQ, ⟨_, rfl⟩, hW, hsame.mono hk hn⟩
theorem own_lti {x y : Int32} {a b : Int} (h : x < y) (ha : x.toInt = a) (hb : y.toInt = b) : a < b := by rw [← ha, ← hb]; exact Int32.lt_iff_toInt_lt.mp h
theorem own_nlti {x y : Int32} {a b : Int} (h : ¬ x < y) (ha : x.toInt = a) (hb : y.toInt = b) : b ≤ a := by rw [← ha, ← hb]; rw [Int32.lt_iff_toInt_lt] at h; omega
theorem own_eqi {x y : Int32} {a b : Int} (h : x = y) (ha : x.toInt = a) (hb : y.toInt = b) : a = b := by rw [← ha, ← hb, h]
theorem own_nei {x y : Int32} {a b : Int} (h : ¬ x = y) (ha : x.toInt = a) (hb : y.toInt = b) : a ≠ b := by rw [← ha, ← hb]; exact fun q => h (Int32.toInt_inj.mp q)
theorem own_if0 {P : Prop} [Decidable P] (h : (if P then (1 : Int32) else (0 : Int32)) = (0 : Int32)) : ¬ P := fun q => by rw [if_pos q] at h; exact absurd h (by decide)
theorem own_if1 {P : Prop} [Decidable P] (h : ¬ (if P then (1 : Int32) else (0 : Int32)) = (0 : Int32)) : P := by
  by_cases q : P
  · exact q
  · exact absurd (if_neg q) h
theorem own_b01 {P : Prop} [Decidable P] : nar .boolean (if P then (1 : Int32) else (0 : Int32)) = (if P then (1 : Int32) else (0 : Int32)) := by split <;> rfl
/-- the end of the body, where a String constant may have been interned -/
def own_EW (s : State) (below : List Frame) (Q : Option Value → Heap → List Loc → Prop) (k n : Nat) (t : State) : Prop :=
  t.status = .running ∧ ∃ v L, Ended t below (.returned v) ∧ Q v t.heap L ∧ ReturnedEndW s (.returned v) t L k n
theorem own_retNW {Q : Option Value → Heap → List Loc → Prop} {k n j : Nat} {vm₁ : Vm} (X : Stand p l e R (s.setVm vm₁) m args below meth c T locs cells slots) (hx : p.tables.exec = Jvm.exec) {pc : Nat} {Ls : Array Slot} {z : Int32} {t : FieldType} {rest : List Value} (hret : meth.sig.returnType = some t) (ht : t = .boolean ∨ t = .byte ∨ t = .char ∨ t = .short) (hlk : meth.locks = false)
    (hd : decode c.code pc = .ok (.ireturn, 1)) (hS : s.Since vm₁ j) (hj : j ≤ T.heap.size) (hk : cells ≤ k) (hn : slots ≤ n) (hQ : Q (some (.int (nar t z))) T.heap locs) : own_R p e below (own_EW s below Q k n) T (mkF m pc Ls (.int z :: rest)) := by
  obtain ⟨fs, hr, hrun, hended, h1, h2, h3, h4⟩ := X.leaveW hS hj (v := some (.int (nar t z))) (fun h => by rw [hret] at h; cases h) hlk
  exact ⟨_, retN X hx hret ht hd hr, hrun, _, _, hended, hQ, h1, h2, h3, h4.mono hk hn⟩
end OwnKit
theorem own_lt22 {n : Nat} {k : Int32} {P : Int32 → Prop} (hn : n < 2147483648) (h0 : 0 ≤ k.toInt) (h1 : k.toInt < n) (h : ∀ j, j < n → P (Int32.ofNat j)) : P k := by
  have e : Int32.ofNat k.toInt.toNat = k := by
    rw [← Int32.toInt_inj, Int32.toInt_ofNat_small (by omega)]; omega
  rw [← e]; exact h _ (by omega)
theorem own_idx {k : Int32} (h0 : 0 ≤ k.toInt) : k = Int32.ofNat k.toNatClampNeg := by
  rw [← Int32.toInt_inj, Int32.toInt_ofNat_small (by have := k.toInt_lt; simp only [Int32.toNatClampNeg]; omega)]; simp only [Int32.toNatClampNeg]; omega
theorem own_idxlt {k : Int32} {n : Nat} (h0 : 0 ≤ k.toInt) (h1 : k.toInt < n) : k.toNatClampNeg < n := by simp only [Int32.toNatClampNeg]; omega
theorem pd_0 : parseMethodDescriptor "(I)I" = some ⟨[.int], some .int⟩ := by decide +kernel
theorem pd_1 : parseMethodDescriptor "(I)C" = some ⟨[.int], some .char⟩ := by decide +kernel
theorem pd_2 : parseMethodDescriptor "()Z" = some ⟨[], some .boolean⟩ := by decide +kernel
theorem pd_3 : parseMethodDescriptor "([BI)C" = some ⟨[(.array .byte), .int], some .char⟩ := by decide +kernel
theorem pd_4 : parseMethodDescriptor "(II)V" = some ⟨[.int, .int], none⟩ := by decide +kernel
theorem pd_5 : parseMethodDescriptor "(IILjava/util/function/BiFunction;)I" = some ⟨[.int, .int, (.object "java/util/function/BiFunction")], some .int⟩ := by decide +kernel
def own_hex (p : Int32) : Int32 := if (¬ p < (48 : Int32) ∧ ¬ (57 : Int32) < p) then (p - (48 : Int32)) else if (¬ p < (65 : Int32) ∧ ¬ (70 : Int32) < p) then ((p - (65 : Int32)) + (10 : Int32)) else if (¬ p < (97 : Int32) ∧ ¬ (102 : Int32) < p) then ((p - (97 : Int32)) + (10 : Int32)) else (-1 : Int32)
theorem own_far (p : Int32) (h : p.toInt < 0 ∨ 128 ≤ p.toInt) : own_hex p = (-1 : Int32) := by
  have k1 : (48 : Int32).toInt = 48 := rfl
  have k2 : (57 : Int32).toInt = 57 := rfl
  have k3 : (65 : Int32).toInt = 65 := rfl
  have k4 : (70 : Int32).toInt = 70 := rfl
  have k5 : (97 : Int32).toInt = 97 := rfl
  have k6 : (102 : Int32).toInt = 102 := rfl
  unfold own_hex
  simp only [Int32.lt_iff_toInt_lt, k1, k2, k3, k4, k5, k6]
  rw [if_neg (by omega), if_neg (by omega), if_neg (by omega)]
theorem own_near (p : Int32) (h0 : 0 ≤ p.toInt) (h1 : p.toInt < (128 : Nat)) : own_hex p = (-1 : Int32) ∨ (¬ own_hex p < (0 : Int32) ∧ ¬ (15 : Int32) < own_hex p ∧ (p = (([48, 49, 50, 51, 52, 53, 54, 55, 56, 57, 97, 98, 99, 100, 101, 102] : List Int32).getD (own_hex p).toNatClampNeg 0) ∨ p = (([48, 49, 50, 51, 52, 53, 54, 55, 56, 57, 65, 66, 67, 68, 69, 70] : List Int32).getD (own_hex p).toNatClampNeg 0))) :=
  own_lt22 (n := 128) (P := fun p : Int32 => own_hex p = (-1 : Int32) ∨ (¬ own_hex p < (0 : Int32) ∧ ¬ (15 : Int32) < own_hex p ∧ (p = (([48, 49, 50, 51, 52, 53, 54, 55, 56, 57, 97, 98, 99, 100, 101, 102] : List Int32).getD (own_hex p).toNatClampNeg 0) ∨ p = (([48, 49, 50, 51, 52, 53, 54, 55, 56, 57, 65, 66, 67, 68, 69, 70] : List Int32).getD (own_hex p).toNatClampNeg 0)))) (by decide) h0 h1 (by decide +kernel)
theorem own_hexok (p : Int32) (h : ¬ own_hex p = (-1 : Int32)) : ¬ own_hex p < (0 : Int32) ∧ ¬ (15 : Int32) < own_hex p ∧ (p = (([48, 49, 50, 51, 52, 53, 54, 55, 56, 57, 97, 98, 99, 100, 101, 102] : List Int32).getD (own_hex p).toNatClampNeg 0) ∨ p = (([48, 49, 50, 51, 52, 53, 54, 55, 56, 57, 65, 66, 67, 68, 69, 70] : List Int32).getD (own_hex p).toNatClampNeg 0)) := by
  by_cases q : p.toInt < 0 ∨ 128 ≤ p.toInt
  · exact absurd (own_far p q) h
  · exact (own_near p (by omega) (by omega)).resolve_left h
theorem own_rng (r : Int32) (h0 : ¬ r < (0 : Int32)) (h1 : ¬ (15 : Int32) < r) : 0 ≤ r.toInt ∧ r.toInt < (16 : Nat) := by
  have a : (0 : Int32).toInt = 0 := rfl
  have b : (15 : Int32).toInt = 15 := rfl
  rw [Int32.lt_iff_toInt_lt] at h0 h1
  omega
theorem own_m15 (d : Int32) : 0 ≤ (d &&& (15 : Int32)).toInt ∧ (d &&& (15 : Int32)).toInt < (16 : Nat) := by
  have h := c_mask d 15 4 (by decide) rfl
  omega
theorem own_law (k : Int32) (h0 : 0 ≤ k.toInt) (h1 : k.toInt < (16 : Nat)) : own_hex (([48, 49, 50, 51, 52, 53, 54, 55, 56, 57, 97, 98, 99, 100, 101, 102] : List Int32).getD k.toNatClampNeg 0) = k ∧ own_hex (([48, 49, 50, 51, 52, 53, 54, 55, 56, 57, 65, 66, 67, 68, 69, 70] : List Int32).getD k.toNatClampNeg 0) = k :=
  own_lt22 (n := 16) (P := fun k : Int32 => own_hex (([48, 49, 50, 51, 52, 53, 54, 55, 56, 57, 97, 98, 99, 100, 101, 102] : List Int32).getD k.toNatClampNeg 0) = k ∧ own_hex (([48, 49, 50, 51, 52, 53, 54, 55, 56, 57, 65, 66, 67, 68, 69, 70] : List Int32).getD k.toNatClampNeg 0) = k) (by decide) h0 h1 (by decide +kernel)
theorem d1_0 : decode prog_70_method_40_code 0 = .ok (.iload_n 0, 1) := by decide +kernel
theorem d1_1 : decode prog_70_method_40_code 1 = .ok (.bipush 48, 2) := by decide +kernel
theorem d1_3 : decode prog_70_method_40_code 3 = .ok (.if_icmp .lt 14, 3) := by decide +kernel
theorem d1_6 : decode prog_70_method_40_code 6 = .ok (.iload_n 0, 1) := by decide +kernel
theorem d1_7 : decode prog_70_method_40_code 7 = .ok (.bipush 57, 2) := by decide +kernel
theorem d1_9 : decode prog_70_method_40_code 9 = .ok (.if_icmp .gt 8, 3) := by decide +kernel
theorem d1_12 : decode prog_70_method_40_code 12 = .ok (.iload_n 0, 1) := by decide +kernel
theorem d1_13 : decode prog_70_method_40_code 13 = .ok (.bipush 48, 2) := by decide +kernel
theorem d1_15 : decode prog_70_method_40_code 15 = .ok (.isub, 1) := by decide +kernel
theorem d1_16 : decode prog_70_method_40_code 16 = .ok (.ireturn, 1) := by decide +kernel
theorem d1_17 : decode prog_70_method_40_code 17 = .ok (.iload_n 0, 1) := by decide +kernel
theorem d1_18 : decode prog_70_method_40_code 18 = .ok (.bipush 65, 2) := by decide +kernel
theorem d1_20 : decode prog_70_method_40_code 20 = .ok (.if_icmp .lt 17, 3) := by decide +kernel
theorem d1_23 : decode prog_70_method_40_code 23 = .ok (.iload_n 0, 1) := by decide +kernel
theorem d1_24 : decode prog_70_method_40_code 24 = .ok (.bipush 70, 2) := by decide +kernel
theorem d1_26 : decode prog_70_method_40_code 26 = .ok (.if_icmp .gt 11, 3) := by decide +kernel
theorem d1_29 : decode prog_70_method_40_code 29 = .ok (.iload_n 0, 1) := by decide +kernel
theorem d1_30 : decode prog_70_method_40_code 30 = .ok (.bipush 65, 2) := by decide +kernel
theorem d1_32 : decode prog_70_method_40_code 32 = .ok (.isub, 1) := by decide +kernel
theorem d1_33 : decode prog_70_method_40_code 33 = .ok (.bipush 10, 2) := by decide +kernel
theorem d1_35 : decode prog_70_method_40_code 35 = .ok (.iadd, 1) := by decide +kernel
theorem d1_36 : decode prog_70_method_40_code 36 = .ok (.ireturn, 1) := by decide +kernel
theorem d1_37 : decode prog_70_method_40_code 37 = .ok (.iload_n 0, 1) := by decide +kernel
theorem d1_38 : decode prog_70_method_40_code 38 = .ok (.bipush 97, 2) := by decide +kernel
theorem d1_40 : decode prog_70_method_40_code 40 = .ok (.if_icmp .lt 17, 3) := by decide +kernel
theorem d1_43 : decode prog_70_method_40_code 43 = .ok (.iload_n 0, 1) := by decide +kernel
theorem d1_44 : decode prog_70_method_40_code 44 = .ok (.bipush 102, 2) := by decide +kernel
theorem d1_46 : decode prog_70_method_40_code 46 = .ok (.if_icmp .gt 11, 3) := by decide +kernel
theorem d1_49 : decode prog_70_method_40_code 49 = .ok (.iload_n 0, 1) := by decide +kernel
theorem d1_50 : decode prog_70_method_40_code 50 = .ok (.bipush 97, 2) := by decide +kernel
theorem d1_52 : decode prog_70_method_40_code 52 = .ok (.isub, 1) := by decide +kernel
theorem d1_53 : decode prog_70_method_40_code 53 = .ok (.bipush 10, 2) := by decide +kernel
theorem d1_55 : decode prog_70_method_40_code 55 = .ok (.iadd, 1) := by decide +kernel
theorem d1_56 : decode prog_70_method_40_code 56 = .ok (.ireturn, 1) := by decide +kernel
theorem d1_57 : decode prog_70_method_40_code 57 = .ok (.iconst (-1), 1) := by decide +kernel
theorem d1_58 : decode prog_70_method_40_code 58 = .ok (.ireturn, 1) := by decide +kernel
theorem pn_0 : plainName site_7.cls = true := by first | (simp [plainName, overriddenIn]; done) | decide +kernel
theorem ef_hexv (m : MethodId) (x0 : Int32) : entryFrame m #[(.int x0)] 1 = mkF m 0 #[.val (.int x0)] [] := by first | (simp [entryFrame, mkF, argsToLocals, Value.category]; done) | rfl
def Qhexv (Z : State) (p1 : Int32) (h0 : Heap) (n0 : Nat) (v : Option Value) (h : Heap) (L : List Loc) : Prop := v = some (.int (own_hex p1)) ∧ Fr n0 L ∧ h = h0
set_option maxRecDepth 65536 in
set_option maxHeartbeats 40000000 in
theorem rmhexv (l : Launch) (Z : State) (a0 : Array Value) (hw : ∀ d ∈ tables_1, d.before a0 Z = true) (ws : List Jvm.Cond) (p1 : Int32) (h0 : Heap) (n0 : Nat) (Z0 : n0 ≤ h0.size) :
    MetFree l (⟨site_7.cls, "hexValue", "(I)I"⟩ : MethodName) (head1 (Jvm.Cond.code (⟨site_7.cls, "hexValue", "(I)I"⟩ : MethodName) prog_70_method_40_code 1 (some .int) :: ws) ({ frames := 0, cells := 0, slots := 0, locals := 0 } : Room)) (fun aS U => aS = #[(.int p1)] ∧ Z.Warmed39 U.vm ∧ U.heap = h0) (fun _ _ _ _ _ => True) (fun _ U o U' => ∃ v L, o = .returned v ∧ Qhexv Z p1 h0 n0 v U'.heap L ∧ FrameEnd U o U' L ({ frames := 0, cells := 0, slots := 0, locals := 0 } : Room).cells ({ frames := 0, cells := 0, slots := 0, locals := 0 } : Room).slots) := by
  refine MetFree.of_bodySF (plainFor_of_name pn_0) hisR ?_
  intro p e s m args below meth c s₁ Bd hml0 hP hK
  obtain ⟨rfl, hZ, hh⟩ := hP
  have hx := Bd.exec
  have hby := Bd.bytes
  have hml : c.maxLocals = 1 := hml0
  have hown : s.vm.findClass site_7.cls = some m.cls := findClass_of_methodNamed Bd.named
  have hnm := (name_of_methodNamed Bd.named Bd.method).1
  have X0 : Stand p l e ({ frames := 0, cells := 0, slots := 0, locals := 0 } : Room) s m #[(.int p1)] below meth c s₁ [] 0 0 := Stand.of_body Bd
  have e0 : s₁.heap = h0 := by rw [← hh, Bd.state]; rfl
  have N0 := Fr.nil n0
  have Kh : Keep h0 h0 [] := Keep.refl _ _
  suffices H : own_R p e below (own_E s below (Qhexv Z p1 h0 n0) ({ frames := 0, cells := 0, slots := 0, locals := 0 } : Room).cells ({ frames := 0, cells := 0, slots := 0, locals := 0 } : Room).slots) s₁ (mkF m 0 #[.val (.int p1)] []) by
    obtain ⟨t, hst, hrun, v, L, hend, hQ, hF⟩ := H
    exact ⟨t, _, castTop (ef_hexv m p1) hst, hrun, hend, v, L, rfl, hQ, hF⟩
  show own_R p e below _ s₁ (mkF m 0 #[.val (.int p1)] [])
  refine own_go (fun t k => XS.iloadN X0.here hx rfl (hb hby d1_0) rfl  k) ?_
  show own_R p e below _ s₁ (mkF m 1 #[.val (.int p1)] [(.int p1)])
  refine own_go (fun t k => XS.bipush X0.here hx rfl (hb hby d1_1) k) ?_
  show own_R p e below _ s₁ (mkF m 3 #[.val (.int p1)] [(.int (48 : Int32)), (.int p1)])
  by_cases hc3_1 : p1 < (48 : Int32)
  · -- pc 3: yes
    refine own_go (fun t k => XS.icmpYes X0.here hx rfl (pc0 := 3) (pc' := 17) rfl (hb hby d1_3) rfl (tlt hc3_1).1 (by decide) (by decide) k) ?_
    show own_R p e below _ s₁ (mkF m 17 #[.val (.int p1)] [])
    refine own_go (fun t k => XS.iloadN X0.here hx rfl (hb hby d1_17) rfl  k) ?_
    show own_R p e below _ s₁ (mkF m 18 #[.val (.int p1)] [(.int p1)])
    refine own_go (fun t k => XS.bipush X0.here hx rfl (hb hby d1_18) k) ?_
    show own_R p e below _ s₁ (mkF m 20 #[.val (.int p1)] [(.int (65 : Int32)), (.int p1)])
    by_cases hc20_2 : p1 < (65 : Int32)
    · -- pc 20: yes
      refine own_go (fun t k => XS.icmpYes X0.here hx rfl (pc0 := 20) (pc' := 37) rfl (hb hby d1_20) rfl (tlt hc20_2).1 (by decide) (by decide) k) ?_
      show own_R p e below _ s₁ (mkF m 37 #[.val (.int p1)] [])
      refine own_go (fun t k => XS.iloadN X0.here hx rfl (hb hby d1_37) rfl  k) ?_
      show own_R p e below _ s₁ (mkF m 38 #[.val (.int p1)] [(.int p1)])
      refine own_go (fun t k => XS.bipush X0.here hx rfl (hb hby d1_38) k) ?_
      show own_R p e below _ s₁ (mkF m 40 #[.val (.int p1)] [(.int (97 : Int32)), (.int p1)])
      by_cases hc40_3 : p1 < (97 : Int32)
      · -- pc 40: yes
        refine own_go (fun t k => XS.icmpYes X0.here hx rfl (pc0 := 40) (pc' := 57) rfl (hb hby d1_40) rfl (tlt hc40_3).1 (by decide) (by decide) k) ?_
        show own_R p e below _ s₁ (mkF m 57 #[.val (.int p1)] [])
        refine own_go (fun t k => XS.iconst X0.here hx rfl (hb hby d1_57) k) ?_
        show own_R p e below _ s₁ (mkF m 58 #[.val (.int p1)] [(.int (-1 : Int32))])
        refine own_retW X0 hx Bd.returns rfl (Or.inl ⟨rfl, Or.inl rfl, _, rfl⟩) (BodyLoose.notSynchronized Bd) (hb hby d1_58) (by decide) (by decide) ?_
        exact ⟨(by unfold own_hex; simp [hc3_1, hc20_2, hc40_3]), N0, e0⟩
      · -- pc 40: no
        refine own_go (fun t k => XS.icmpNo X0.here hx rfl (hb hby d1_40) rfl (flt hc40_3).1 k) ?_
        show own_R p e below _ s₁ (mkF m 43 #[.val (.int p1)] [])
        refine own_go (fun t k => XS.iloadN X0.here hx rfl (hb hby d1_43) rfl  k) ?_
        show own_R p e below _ s₁ (mkF m 44 #[.val (.int p1)] [(.int p1)])
        refine own_go (fun t k => XS.bipush X0.here hx rfl (hb hby d1_44) k) ?_
        show own_R p e below _ s₁ (mkF m 46 #[.val (.int p1)] [(.int (102 : Int32)), (.int p1)])
        by_cases hc46_4 : (102 : Int32) < p1
        · -- pc 46: yes
          refine own_go (fun t k => XS.icmpYes X0.here hx rfl (pc0 := 46) (pc' := 57) rfl (hb hby d1_46) rfl (tlt hc46_4).2.2.1 (by decide) (by decide) k) ?_
          show own_R p e below _ s₁ (mkF m 57 #[.val (.int p1)] [])
          refine own_go (fun t k => XS.iconst X0.here hx rfl (hb hby d1_57) k) ?_
          show own_R p e below _ s₁ (mkF m 58 #[.val (.int p1)] [(.int (-1 : Int32))])
          refine own_retW X0 hx Bd.returns rfl (Or.inl ⟨rfl, Or.inl rfl, _, rfl⟩) (BodyLoose.notSynchronized Bd) (hb hby d1_58) (by decide) (by decide) ?_
          exact ⟨(by unfold own_hex; simp [hc3_1, hc20_2, hc40_3, hc46_4]), N0, e0⟩
        · -- pc 46: no
          refine own_go (fun t k => XS.icmpNo X0.here hx rfl (hb hby d1_46) rfl (flt hc46_4).2.2.1 k) ?_
          show own_R p e below _ s₁ (mkF m 49 #[.val (.int p1)] [])
          refine own_go (fun t k => XS.iloadN X0.here hx rfl (hb hby d1_49) rfl  k) ?_
          show own_R p e below _ s₁ (mkF m 50 #[.val (.int p1)] [(.int p1)])
          refine own_go (fun t k => XS.bipush X0.here hx rfl (hb hby d1_50) k) ?_
          show own_R p e below _ s₁ (mkF m 52 #[.val (.int p1)] [(.int (97 : Int32)), (.int p1)])
          refine own_go (fun t k => XS.isub X0.here hx rfl (hb hby d1_52) rfl k) ?_
          show own_R p e below _ s₁ (mkF m 53 #[.val (.int p1)] [(.int (p1 - (97 : Int32)))])
          refine own_go (fun t k => XS.bipush X0.here hx rfl (hb hby d1_53) k) ?_
          show own_R p e below _ s₁ (mkF m 55 #[.val (.int p1)] [(.int (10 : Int32)), (.int (p1 - (97 : Int32)))])
          refine own_go (fun t k => XS.iadd X0.here hx rfl (hb hby d1_55) rfl k) ?_
          show own_R p e below _ s₁ (mkF m 56 #[.val (.int p1)] [(.int ((p1 - (97 : Int32)) + (10 : Int32)))])
          refine own_retW X0 hx Bd.returns rfl (Or.inl ⟨rfl, Or.inl rfl, _, rfl⟩) (BodyLoose.notSynchronized Bd) (hb hby d1_56) (by decide) (by decide) ?_
          exact ⟨(by unfold own_hex; simp [hc3_1, hc20_2, hc40_3, hc46_4]), N0, e0⟩
    · -- pc 20: no
      refine own_go (fun t k => XS.icmpNo X0.here hx rfl (hb hby d1_20) rfl (flt hc20_2).1 k) ?_
      show own_R p e below _ s₁ (mkF m 23 #[.val (.int p1)] [])
      refine own_go (fun t k => XS.iloadN X0.here hx rfl (hb hby d1_23) rfl  k) ?_
      show own_R p e below _ s₁ (mkF m 24 #[.val (.int p1)] [(.int p1)])
      refine own_go (fun t k => XS.bipush X0.here hx rfl (hb hby d1_24) k) ?_
      show own_R p e below _ s₁ (mkF m 26 #[.val (.int p1)] [(.int (70 : Int32)), (.int p1)])
      by_cases hc26_5 : (70 : Int32) < p1
      · -- pc 26: yes
        refine own_go (fun t k => XS.icmpYes X0.here hx rfl (pc0 := 26) (pc' := 37) rfl (hb hby d1_26) rfl (tlt hc26_5).2.2.1 (by decide) (by decide) k) ?_
        show own_R p e below _ s₁ (mkF m 37 #[.val (.int p1)] [])
        refine own_go (fun t k => XS.iloadN X0.here hx rfl (hb hby d1_37) rfl  k) ?_
        show own_R p e below _ s₁ (mkF m 38 #[.val (.int p1)] [(.int p1)])
        refine own_go (fun t k => XS.bipush X0.here hx rfl (hb hby d1_38) k) ?_
        show own_R p e below _ s₁ (mkF m 40 #[.val (.int p1)] [(.int (97 : Int32)), (.int p1)])
        by_cases hc40_6 : p1 < (97 : Int32)
        · -- pc 40: yes
          refine own_go (fun t k => XS.icmpYes X0.here hx rfl (pc0 := 40) (pc' := 57) rfl (hb hby d1_40) rfl (tlt hc40_6).1 (by decide) (by decide) k) ?_
          show own_R p e below _ s₁ (mkF m 57 #[.val (.int p1)] [])
          refine own_go (fun t k => XS.iconst X0.here hx rfl (hb hby d1_57) k) ?_
          show own_R p e below _ s₁ (mkF m 58 #[.val (.int p1)] [(.int (-1 : Int32))])
          refine own_retW X0 hx Bd.returns rfl (Or.inl ⟨rfl, Or.inl rfl, _, rfl⟩) (BodyLoose.notSynchronized Bd) (hb hby d1_58) (by decide) (by decide) ?_
          exact ⟨(by unfold own_hex; simp [hc3_1, hc20_2, hc26_5, hc40_6]), N0, e0⟩
        · -- pc 40: no
          refine own_go (fun t k => XS.icmpNo X0.here hx rfl (hb hby d1_40) rfl (flt hc40_6).1 k) ?_
          show own_R p e below _ s₁ (mkF m 43 #[.val (.int p1)] [])
          refine own_go (fun t k => XS.iloadN X0.here hx rfl (hb hby d1_43) rfl  k) ?_
          show own_R p e below _ s₁ (mkF m 44 #[.val (.int p1)] [(.int p1)])
          refine own_go (fun t k => XS.bipush X0.here hx rfl (hb hby d1_44) k) ?_
          show own_R p e below _ s₁ (mkF m 46 #[.val (.int p1)] [(.int (102 : Int32)), (.int p1)])
          by_cases hc46_7 : (102 : Int32) < p1
          · -- pc 46: yes
            refine own_go (fun t k => XS.icmpYes X0.here hx rfl (pc0 := 46) (pc' := 57) rfl (hb hby d1_46) rfl (tlt hc46_7).2.2.1 (by decide) (by decide) k) ?_
            show own_R p e below _ s₁ (mkF m 57 #[.val (.int p1)] [])
            refine own_go (fun t k => XS.iconst X0.here hx rfl (hb hby d1_57) k) ?_
            show own_R p e below _ s₁ (mkF m 58 #[.val (.int p1)] [(.int (-1 : Int32))])
            refine own_retW X0 hx Bd.returns rfl (Or.inl ⟨rfl, Or.inl rfl, _, rfl⟩) (BodyLoose.notSynchronized Bd) (hb hby d1_58) (by decide) (by decide) ?_
            exact ⟨(by unfold own_hex; simp [hc3_1, hc20_2, hc26_5, hc40_6, hc46_7]), N0, e0⟩
          · -- pc 46: no
            refine own_go (fun t k => XS.icmpNo X0.here hx rfl (hb hby d1_46) rfl (flt hc46_7).2.2.1 k) ?_
            show own_R p e below _ s₁ (mkF m 49 #[.val (.int p1)] [])
            refine own_go (fun t k => XS.iloadN X0.here hx rfl (hb hby d1_49) rfl  k) ?_
            show own_R p e below _ s₁ (mkF m 50 #[.val (.int p1)] [(.int p1)])
            refine own_go (fun t k => XS.bipush X0.here hx rfl (hb hby d1_50) k) ?_
            show own_R p e below _ s₁ (mkF m 52 #[.val (.int p1)] [(.int (97 : Int32)), (.int p1)])
            refine own_go (fun t k => XS.isub X0.here hx rfl (hb hby d1_52) rfl k) ?_
            show own_R p e below _ s₁ (mkF m 53 #[.val (.int p1)] [(.int (p1 - (97 : Int32)))])
            refine own_go (fun t k => XS.bipush X0.here hx rfl (hb hby d1_53) k) ?_
            show own_R p e below _ s₁ (mkF m 55 #[.val (.int p1)] [(.int (10 : Int32)), (.int (p1 - (97 : Int32)))])
            refine own_go (fun t k => XS.iadd X0.here hx rfl (hb hby d1_55) rfl k) ?_
            show own_R p e below _ s₁ (mkF m 56 #[.val (.int p1)] [(.int ((p1 - (97 : Int32)) + (10 : Int32)))])
            refine own_retW X0 hx Bd.returns rfl (Or.inl ⟨rfl, Or.inl rfl, _, rfl⟩) (BodyLoose.notSynchronized Bd) (hb hby d1_56) (by decide) (by decide) ?_
            exact ⟨(by unfold own_hex; simp [hc3_1, hc20_2, hc26_5, hc40_6, hc46_7]), N0, e0⟩
      · -- pc 26: no
        refine own_go (fun t k => XS.icmpNo X0.here hx rfl (hb hby d1_26) rfl (flt hc26_5).2.2.1 k) ?_
        show own_R p e below _ s₁ (mkF m 29 #[.val (.int p1)] [])
        refine own_go (fun t k => XS.iloadN X0.here hx rfl (hb hby d1_29) rfl  k) ?_
        show own_R p e below _ s₁ (mkF m 30 #[.val (.int p1)] [(.int p1)])
        refine own_go (fun t k => XS.bipush X0.here hx rfl (hb hby d1_30) k) ?_
        show own_R p e below _ s₁ (mkF m 32 #[.val (.int p1)] [(.int (65 : Int32)), (.int p1)])
        refine own_go (fun t k => XS.isub X0.here hx rfl (hb hby d1_32) rfl k) ?_
        show own_R p e below _ s₁ (mkF m 33 #[.val (.int p1)] [(.int (p1 - (65 : Int32)))])
        refine own_go (fun t k => XS.bipush X0.here hx rfl (hb hby d1_33) k) ?_
        show own_R p e below _ s₁ (mkF m 35 #[.val (.int p1)] [(.int (10 : Int32)), (.int (p1 - (65 : Int32)))])
        refine own_go (fun t k => XS.iadd X0.here hx rfl (hb hby d1_35) rfl k) ?_
        show own_R p e below _ s₁ (mkF m 36 #[.val (.int p1)] [(.int ((p1 - (65 : Int32)) + (10 : Int32)))])
        refine own_retW X0 hx Bd.returns rfl (Or.inl ⟨rfl, Or.inl rfl, _, rfl⟩) (BodyLoose.notSynchronized Bd) (hb hby d1_36) (by decide) (by decide) ?_
        exact ⟨(by unfold own_hex; simp [hc3_1, hc20_2, hc26_5]), N0, e0⟩
  · -- pc 3: no
    refine own_go (fun t k => XS.icmpNo X0.here hx rfl (hb hby d1_3) rfl (flt hc3_1).1 k) ?_
    show own_R p e below _ s₁ (mkF m 6 #[.val (.int p1)] [])
    refine own_go (fun t k => XS.iloadN X0.here hx rfl (hb hby d1_6) rfl  k) ?_
    show own_R p e below _ s₁ (mkF m 7 #[.val (.int p1)] [(.int p1)])
    refine own_go (fun t k => XS.bipush X0.here hx rfl (hb hby d1_7) k) ?_
    show own_R p e below _ s₁ (mkF m 9 #[.val (.int p1)] [(.int (57 : Int32)), (.int p1)])
    by_cases hc9_8 : (57 : Int32) < p1
    · -- pc 9: yes
      refine own_go (fun t k => XS.icmpYes X0.here hx rfl (pc0 := 9) (pc' := 17) rfl (hb hby d1_9) rfl (tlt hc9_8).2.2.1 (by decide) (by decide) k) ?_
      show own_R p e below _ s₁ (mkF m 17 #[.val (.int p1)] [])
      refine own_go (fun t k => XS.iloadN X0.here hx rfl (hb hby d1_17) rfl  k) ?_
      show own_R p e below _ s₁ (mkF m 18 #[.val (.int p1)] [(.int p1)])
      refine own_go (fun t k => XS.bipush X0.here hx rfl (hb hby d1_18) k) ?_
      show own_R p e below _ s₁ (mkF m 20 #[.val (.int p1)] [(.int (65 : Int32)), (.int p1)])
      by_cases hc20_9 : p1 < (65 : Int32)
      · -- pc 20: yes
        refine own_go (fun t k => XS.icmpYes X0.here hx rfl (pc0 := 20) (pc' := 37) rfl (hb hby d1_20) rfl (tlt hc20_9).1 (by decide) (by decide) k) ?_
        show own_R p e below _ s₁ (mkF m 37 #[.val (.int p1)] [])
        refine own_go (fun t k => XS.iloadN X0.here hx rfl (hb hby d1_37) rfl  k) ?_
        show own_R p e below _ s₁ (mkF m 38 #[.val (.int p1)] [(.int p1)])
        refine own_go (fun t k => XS.bipush X0.here hx rfl (hb hby d1_38) k) ?_
        show own_R p e below _ s₁ (mkF m 40 #[.val (.int p1)] [(.int (97 : Int32)), (.int p1)])
        by_cases hc40_10 : p1 < (97 : Int32)
        · -- pc 40: yes
          refine own_go (fun t k => XS.icmpYes X0.here hx rfl (pc0 := 40) (pc' := 57) rfl (hb hby d1_40) rfl (tlt hc40_10).1 (by decide) (by decide) k) ?_
          show own_R p e below _ s₁ (mkF m 57 #[.val (.int p1)] [])
          refine own_go (fun t k => XS.iconst X0.here hx rfl (hb hby d1_57) k) ?_
          show own_R p e below _ s₁ (mkF m 58 #[.val (.int p1)] [(.int (-1 : Int32))])
          refine own_retW X0 hx Bd.returns rfl (Or.inl ⟨rfl, Or.inl rfl, _, rfl⟩) (BodyLoose.notSynchronized Bd) (hb hby d1_58) (by decide) (by decide) ?_
          exact ⟨(by unfold own_hex; simp [hc3_1, hc9_8, hc20_9, hc40_10]), N0, e0⟩
        · -- pc 40: no
          refine own_go (fun t k => XS.icmpNo X0.here hx rfl (hb hby d1_40) rfl (flt hc40_10).1 k) ?_
          show own_R p e below _ s₁ (mkF m 43 #[.val (.int p1)] [])
          refine own_go (fun t k => XS.iloadN X0.here hx rfl (hb hby d1_43) rfl  k) ?_
          show own_R p e below _ s₁ (mkF m 44 #[.val (.int p1)] [(.int p1)])
          refine own_go (fun t k => XS.bipush X0.here hx rfl (hb hby d1_44) k) ?_
          show own_R p e below _ s₁ (mkF m 46 #[.val (.int p1)] [(.int (102 : Int32)), (.int p1)])
          by_cases hc46_11 : (102 : Int32) < p1
          · -- pc 46: yes
            refine own_go (fun t k => XS.icmpYes X0.here hx rfl (pc0 := 46) (pc' := 57) rfl (hb hby d1_46) rfl (tlt hc46_11).2.2.1 (by decide) (by decide) k) ?_
            show own_R p e below _ s₁ (mkF m 57 #[.val (.int p1)] [])
            refine own_go (fun t k => XS.iconst X0.here hx rfl (hb hby d1_57) k) ?_
            show own_R p e below _ s₁ (mkF m 58 #[.val (.int p1)] [(.int (-1 : Int32))])
            refine own_retW X0 hx Bd.returns rfl (Or.inl ⟨rfl, Or.inl rfl, _, rfl⟩) (BodyLoose.notSynchronized Bd) (hb hby d1_58) (by decide) (by decide) ?_
            exact ⟨(by unfold own_hex; simp [hc3_1, hc9_8, hc20_9, hc40_10, hc46_11]), N0, e0⟩
          · -- pc 46: no
            refine own_go (fun t k => XS.icmpNo X0.here hx rfl (hb hby d1_46) rfl (flt hc46_11).2.2.1 k) ?_
            show own_R p e below _ s₁ (mkF m 49 #[.val (.int p1)] [])
            refine own_go (fun t k => XS.iloadN X0.here hx rfl (hb hby d1_49) rfl  k) ?_
            show own_R p e below _ s₁ (mkF m 50 #[.val (.int p1)] [(.int p1)])
            refine own_go (fun t k => XS.bipush X0.here hx rfl (hb hby d1_50) k) ?_
            show own_R p e below _ s₁ (mkF m 52 #[.val (.int p1)] [(.int (97 : Int32)), (.int p1)])
            refine own_go (fun t k => XS.isub X0.here hx rfl (hb hby d1_52) rfl k) ?_
            show own_R p e below _ s₁ (mkF m 53 #[.val (.int p1)] [(.int (p1 - (97 : Int32)))])
            refine own_go (fun t k => XS.bipush X0.here hx rfl (hb hby d1_53) k) ?_
            show own_R p e below _ s₁ (mkF m 55 #[.val (.int p1)] [(.int (10 : Int32)), (.int (p1 - (97 : Int32)))])
            refine own_go (fun t k => XS.iadd X0.here hx rfl (hb hby d1_55) rfl k) ?_
            show own_R p e below _ s₁ (mkF m 56 #[.val (.int p1)] [(.int ((p1 - (97 : Int32)) + (10 : Int32)))])
            refine own_retW X0 hx Bd.returns rfl (Or.inl ⟨rfl, Or.inl rfl, _, rfl⟩) (BodyLoose.notSynchronized Bd) (hb hby d1_56) (by decide) (by decide) ?_
            exact ⟨(by unfold own_hex; simp [hc3_1, hc9_8, hc20_9, hc40_10, hc46_11]), N0, e0⟩
      · -- pc 20: no
        refine own_go (fun t k => XS.icmpNo X0.here hx rfl (hb hby d1_20) rfl (flt hc20_9).1 k) ?_
        show own_R p e below _ s₁ (mkF m 23 #[.val (.int p1)] [])
        refine own_go (fun t k => XS.iloadN X0.here hx rfl (hb hby d1_23) rfl  k) ?_
        show own_R p e below _ s₁ (mkF m 24 #[.val (.int p1)] [(.int p1)])
        refine own_go (fun t k => XS.bipush X0.here hx rfl (hb hby d1_24) k) ?_
        show own_R p e below _ s₁ (mkF m 26 #[.val (.int p1)] [(.int (70 : Int32)), (.int p1)])
        by_cases hc26_12 : (70 : Int32) < p1
        · -- pc 26: yes
          refine own_go (fun t k => XS.icmpYes X0.here hx rfl (pc0 := 26) (pc' := 37) rfl (hb hby d1_26) rfl (tlt hc26_12).2.2.1 (by decide) (by decide) k) ?_
          show own_R p e below _ s₁ (mkF m 37 #[.val (.int p1)] [])
          refine own_go (fun t k => XS.iloadN X0.here hx rfl (hb hby d1_37) rfl  k) ?_
          show own_R p e below _ s₁ (mkF m 38 #[.val (.int p1)] [(.int p1)])
          refine own_go (fun t k => XS.bipush X0.here hx rfl (hb hby d1_38) k) ?_
          show own_R p e below _ s₁ (mkF m 40 #[.val (.int p1)] [(.int (97 : Int32)), (.int p1)])
          by_cases hc40_13 : p1 < (97 : Int32)
          · -- pc 40: yes
            refine own_go (fun t k => XS.icmpYes X0.here hx rfl (pc0 := 40) (pc' := 57) rfl (hb hby d1_40) rfl (tlt hc40_13).1 (by decide) (by decide) k) ?_
            show own_R p e below _ s₁ (mkF m 57 #[.val (.int p1)] [])
            refine own_go (fun t k => XS.iconst X0.here hx rfl (hb hby d1_57) k) ?_
            show own_R p e below _ s₁ (mkF m 58 #[.val (.int p1)] [(.int (-1 : Int32))])
            refine own_retW X0 hx Bd.returns rfl (Or.inl ⟨rfl, Or.inl rfl, _, rfl⟩) (BodyLoose.notSynchronized Bd) (hb hby d1_58) (by decide) (by decide) ?_
            exact ⟨(by unfold own_hex; simp [hc3_1, hc9_8, hc20_9, hc26_12, hc40_13]), N0, e0⟩
          · -- pc 40: no
            refine own_go (fun t k => XS.icmpNo X0.here hx rfl (hb hby d1_40) rfl (flt hc40_13).1 k) ?_
            show own_R p e below _ s₁ (mkF m 43 #[.val (.int p1)] [])
            refine own_go (fun t k => XS.iloadN X0.here hx rfl (hb hby d1_43) rfl  k) ?_
            show own_R p e below _ s₁ (mkF m 44 #[.val (.int p1)] [(.int p1)])
            refine own_go (fun t k => XS.bipush X0.here hx rfl (hb hby d1_44) k) ?_
            show own_R p e below _ s₁ (mkF m 46 #[.val (.int p1)] [(.int (102 : Int32)), (.int p1)])
            by_cases hc46_14 : (102 : Int32) < p1
            · -- pc 46: yes
              refine own_go (fun t k => XS.icmpYes X0.here hx rfl (pc0 := 46) (pc' := 57) rfl (hb hby d1_46) rfl (tlt hc46_14).2.2.1 (by decide) (by decide) k) ?_
              show own_R p e below _ s₁ (mkF m 57 #[.val (.int p1)] [])
              refine own_go (fun t k => XS.iconst X0.here hx rfl (hb hby d1_57) k) ?_
              show own_R p e below _ s₁ (mkF m 58 #[.val (.int p1)] [(.int (-1 : Int32))])
              refine own_retW X0 hx Bd.returns rfl (Or.inl ⟨rfl, Or.inl rfl, _, rfl⟩) (BodyLoose.notSynchronized Bd) (hb hby d1_58) (by decide) (by decide) ?_
              exact ⟨(by unfold own_hex; simp [hc3_1, hc9_8, hc20_9, hc26_12, hc40_13, hc46_14]), N0, e0⟩
            · -- pc 46: no
              refine own_go (fun t k => XS.icmpNo X0.here hx rfl (hb hby d1_46) rfl (flt hc46_14).2.2.1 k) ?_
              show own_R p e below _ s₁ (mkF m 49 #[.val (.int p1)] [])
              refine own_go (fun t k => XS.iloadN X0.here hx rfl (hb hby d1_49) rfl  k) ?_
              show own_R p e below _ s₁ (mkF m 50 #[.val (.int p1)] [(.int p1)])
              refine own_go (fun t k => XS.bipush X0.here hx rfl (hb hby d1_50) k) ?_
              show own_R p e below _ s₁ (mkF m 52 #[.val (.int p1)] [(.int (97 : Int32)), (.int p1)])
              refine own_go (fun t k => XS.isub X0.here hx rfl (hb hby d1_52) rfl k) ?_
              show own_R p e below _ s₁ (mkF m 53 #[.val (.int p1)] [(.int (p1 - (97 : Int32)))])
              refine own_go (fun t k => XS.bipush X0.here hx rfl (hb hby d1_53) k) ?_
              show own_R p e below _ s₁ (mkF m 55 #[.val (.int p1)] [(.int (10 : Int32)), (.int (p1 - (97 : Int32)))])
              refine own_go (fun t k => XS.iadd X0.here hx rfl (hb hby d1_55) rfl k) ?_
              show own_R p e below _ s₁ (mkF m 56 #[.val (.int p1)] [(.int ((p1 - (97 : Int32)) + (10 : Int32)))])
              refine own_retW X0 hx Bd.returns rfl (Or.inl ⟨rfl, Or.inl rfl, _, rfl⟩) (BodyLoose.notSynchronized Bd) (hb hby d1_56) (by decide) (by decide) ?_
              exact ⟨(by unfold own_hex; simp [hc3_1, hc9_8, hc20_9, hc26_12, hc40_13, hc46_14]), N0, e0⟩
        · -- pc 26: no
          refine own_go (fun t k => XS.icmpNo X0.here hx rfl (hb hby d1_26) rfl (flt hc26_12).2.2.1 k) ?_
          show own_R p e below _ s₁ (mkF m 29 #[.val (.int p1)] [])
          refine own_go (fun t k => XS.iloadN X0.here hx rfl (hb hby d1_29) rfl  k) ?_
          show own_R p e below _ s₁ (mkF m 30 #[.val (.int p1)] [(.int p1)])
          refine own_go (fun t k => XS.bipush X0.here hx rfl (hb hby d1_30) k) ?_
          show own_R p e below _ s₁ (mkF m 32 #[.val (.int p1)] [(.int (65 : Int32)), (.int p1)])
          refine own_go (fun t k => XS.isub X0.here hx rfl (hb hby d1_32) rfl k) ?_
          show own_R p e below _ s₁ (mkF m 33 #[.val (.int p1)] [(.int (p1 - (65 : Int32)))])
          refine own_go (fun t k => XS.bipush X0.here hx rfl (hb hby d1_33) k) ?_
          show own_R p e below _ s₁ (mkF m 35 #[.val (.int p1)] [(.int (10 : Int32)), (.int (p1 - (65 : Int32)))])
          refine own_go (fun t k => XS.iadd X0.here hx rfl (hb hby d1_35) rfl k) ?_
          show own_R p e below _ s₁ (mkF m 36 #[.val (.int p1)] [(.int ((p1 - (65 : Int32)) + (10 : Int32)))])
          refine own_retW X0 hx Bd.returns rfl (Or.inl ⟨rfl, Or.inl rfl, _, rfl⟩) (BodyLoose.notSynchronized Bd) (hb hby d1_36) (by decide) (by decide) ?_
          exact ⟨(by unfold own_hex; simp [hc3_1, hc9_8, hc20_9, hc26_12]), N0, e0⟩
    · -- pc 9: no
      refine own_go (fun t k => XS.icmpNo X0.here hx rfl (hb hby d1_9) rfl (flt hc9_8).2.2.1 k) ?_
      show own_R p e below _ s₁ (mkF m 12 #[.val (.int p1)] [])
      refine own_go (fun t k => XS.iloadN X0.here hx rfl (hb hby d1_12) rfl  k) ?_
      show own_R p e below _ s₁ (mkF m 13 #[.val (.int p1)] [(.int p1)])
      refine own_go (fun t k => XS.bipush X0.here hx rfl (hb hby d1_13) k) ?_
      show own_R p e below _ s₁ (mkF m 15 #[.val (.int p1)] [(.int (48 : Int32)), (.int p1)])
      refine own_go (fun t k => XS.isub X0.here hx rfl (hb hby d1_15) rfl k) ?_
      show own_R p e below _ s₁ (mkF m 16 #[.val (.int p1)] [(.int (p1 - (48 : Int32)))])
      refine own_retW X0 hx Bd.returns rfl (Or.inl ⟨rfl, Or.inl rfl, _, rfl⟩) (BodyLoose.notSynchronized Bd) (hb hby d1_16) (by decide) (by decide) ?_
      exact ⟨(by unfold own_hex; simp [hc3_1, hc9_8]), N0, e0⟩
theorem pn_1 : plainName x.cls = true := by first | (simp [plainName, overriddenIn]; done) | decide +kernel
theorem ef_0 (m : MethodId) (x0 : Int32) (x1 : Int32) : entryFrame m #[(.int x0), (.int x1)] maxLocals = mkF m 0 #[.val (.int x0), .val (.int x1), .unset, .unset, .unset, .unset, .unset, .unset, .unset] [] := by first | (simp [entryFrame, mkF, argsToLocals, Value.category, maxLocals]; done) | rfl
def Q0 (Z : State) (p0 : Int32) (p1 : Int32) (zz : Int32) (fm : Value) (h0 : Heap) (n0 : Nat) (v : Option Value) (h : Heap) (L : List Loc) : Prop := v = some (.int (1 : Int32)) ∧ Fr n0 L
set_option maxRecDepth 65536 in
set_option maxHeartbeats 40000000 in
theorem rm0 (l : Launch) (Z : State) (a0 : Array Value) (hw : ∀ d ∈ tables_1, d.before a0 Z = true) (ws : List Jvm.Cond) (p0 : Int32) (p1 : Int32) (zz : Int32) (fm : Value) (h0 : Heap) (n0 : Nat) (Z0 : n0 ≤ h0.size) (S_COMPACT_STRINGS : Sta Z Z.heap "java/lang/String" "COMPACT_STRINGS" "Z" (.int zz)) (S_SIOOBE_FORMATTER : Sta Z Z.heap "jdk/internal/util/Preconditions" "SIOOBE_FORMATTER" "Ljava/util/function/BiFunction;" fm) (O_ : Old Z n0 h0) (hn0 : n0 = h0.size) (hheld1 : Jvm.Lit.constHeld Z x.cls 7) (hheld2 : Jvm.Lit.constHeld Z x.cls 9) (hcw : Jvm.Lit.compactW.before a0 Z = true) (hz5 : ¬ zz = 0) (rf5 : fm.isRef = true) :
    MetFree l x (head1 (Jvm.Cond.code x code maxLocals ret :: ws) room_1) (fun aS U => aS = #[(.int p0), (.int p1)] ∧ U.vm = Z.vm ∧ U.heap = h0) (fun _ _ _ _ _ => True) (fun _ U o U' => ∃ v L, o = .returned v ∧ Q0 Z p0 p1 zz fm h0 n0 v U'.heap L ∧ ReturnedEndW U o U' L room_1.cells room_1.slots) := by
  refine MetFree.of_bodySF (plainFor_of_name pn_1) hisR ?_
  intro p e s m args below meth c s₁ Bd hml0 hP hK
  obtain ⟨rfl, hvm, hh⟩ := hP
  have hx := Bd.exec
  have hby := Bd.bytes
  have hml : c.maxLocals = 9 := hml0
  have hZ : Z.Warmed39 (s.setVm s.vm).vm := by show Z.Warmed39 s.vm; rw [hvm]; exact State.Warmed39.refl Z
  have hown : (s.setVm s.vm).vm.findClass x.cls = some m.cls := findClass_of_methodNamed Bd.named
  have hnm := (name_of_methodNamed Bd.named Bd.method).1
  have X0 : Stand p l e room_1 (s.setVm s.vm) m #[(.int p0), (.int p1)] below meth c s₁ [] 0 0 := Stand.of_body Bd
  have e0 : s₁.heap = h0 := by rw [← hh, Bd.state]; rfl
  have N0 := Fr.nil n0
  have Kh : Keep h0 h0 [] := Keep.refl _ _
  have hS : s.Since s.vm h0.size := (State.WarmedH.refl s).since _
  have hkk : h0.size ≤ h0.size := Nat.le_refl _
  have hI : IB Z s.vm [] := hvm ▸ IB.start
  have hkeep : ∀ (b : Addr) (cl : Cell), Z.heap[b]? = some cl → s.heap[b]? = some cl := fun b cl q => by rw [hh]; exact O_.2.2 b cl q
  have wS : ∀ d ∈ Bundle.stringAtoms, d.before a0 Z = true := fun d hd => hw d ((by decide +kernel : ∀ d ∈ Bundle.stringAtoms, d ∈ tables_1) d hd)
  suffices H : own_R p e below (own_EW s below (Q0 Z p0 p1 zz fm h0 n0) room_1.cells room_1.slots) s₁ (mkF m 0 #[.val (.int p0), .val (.int p1), .unset, .unset, .unset, .unset, .unset, .unset, .unset] []) by
    obtain ⟨t, hst, hrun, v, L, hend, hQ, hF⟩ := H
    exact ⟨t, _, castTop (ef_0 m p0 p1) hst, hrun, hend, v, L, rfl, hQ, hF⟩
  have hch : ∀ d ∈ StrChars.Road.wordsChN, d.before a0 Z = true := fun d hd => hw d ((by decide +kernel : ∀ d ∈ StrChars.Road.wordsChN, d ∈ tables_1) d hd)
  have wi := (hw _ (List.mem_of_getElem? (i := 2) rfl))
  show own_R p e below _ s₁ (mkF m 0 #[.val (.int p0), .val (.int p1), .unset, .unset, .unset, .unset, .unset, .unset, .unset] [])
  obtain ⟨sa1, T1, h1, kj1, sb1, kb1, X1, e1, E1, hS1, hkk1, hZ1, hown1, Ex1, FC1, FV1, AV1, -, -, hI1, st1⟩ := ldcSV (s := s) (vm0 := s.vm) X0 hx hZ hown (hw _ (List.mem_of_getElem? (i := 0) rfl)) wS e0 hS hkk (by rw [hh, ← hn0]; exact N0) hkeep hI (by decide) hheld1 hcw (vs := (([48, 49, 50, 51, 52, 53, 54, 55, 56, 57, 97, 98, 99, 100, 101, 102] : List Int32).map (fun c => c.toInt8.toInt32)).map Value.int) (z := (16 : Int32)) ⟨by decide, by decide +kernel⟩ (by decide) rfl (g := (mkF m 0 #[.val (.int p0), .val (.int p1), .unset, .unset, .unset, .unset, .unset, .unset, .unset] [])) rfl (hb hby at_0) (n := 64) (by decide) (by decide) (by decide) (by decide)
  clear hZ hown hS
  have hZ := hZ1
  have hown := hown1
  have hS := hS1
  clear hI
  have hI := hI1
  replace O_ := O_.ext E1
  replace Kh := Kh.ext E1
  replace hkk := Nat.le_trans hkk E1.1
  clear hkk
  have hkk := hkk1
  refine own_go (st1) ?_
  show own_R p e below _ T1 (mkF m 2 #[.val (.int p0), .val (.int p1), .unset, .unset, .unset, .unset, .unset, .unset, .unset] [(.ref sa1)])
  refine own_go (fun t k => XS.astoreN X1.here hx rfl (hb hby at_2) rfl rfl (l' := #[.val (.int p0), .val (.int p1), .val (.ref sa1), .unset, .unset, .unset, .unset, .unset, .unset]) rfl k) ?_
  show own_R p e below _ T1 (mkF m 3 #[.val (.int p0), .val (.int p1), .val (.ref sa1), .unset, .unset, .unset, .unset, .unset, .unset] [])
  obtain ⟨sa2, T2, h2, kj2, sb2, kb2, X2, e2, E2, hS2, hkk2, hZ2, hown2, Ex2, FC2, FV2, AV2, -, -, hI2, st2⟩ := ldcSV (s := s) (vm0 := T1.vm) X1 hx hZ hown (hw _ (List.mem_of_getElem? (i := 8) rfl)) wS e1 hS hkk (by rw [hh, ← hn0]; exact N0) hkeep hI (by decide) hheld2 hcw (vs := (([48, 49, 50, 51, 52, 53, 54, 55, 56, 57, 65, 66, 67, 68, 69, 70] : List Int32).map (fun c => c.toInt8.toInt32)).map Value.int) (z := (16 : Int32)) ⟨by decide, by decide +kernel⟩ (by decide) rfl (g := (mkF m 3 #[.val (.int p0), .val (.int p1), .val (.ref sa1), .unset, .unset, .unset, .unset, .unset, .unset] [])) rfl (hb hby at_3) (n := 64) (by decide) (by decide) (by decide) (by decide)
  clear hZ hown hS
  have hZ := hZ2
  have hown := hown2
  have hS := hS2
  clear hI
  have hI := hI2
  replace O_ := O_.ext E2
  replace Ex1 := Exa.ext E2 Ex1
  replace FC1 := Fld.ext E2 FC1
  replace FV1 := Fld.ext E2 FV1
  replace AV1 := AV1.ext E2
  replace Kh := Kh.ext E2
  replace hkk := Nat.le_trans hkk E2.1
  clear hkk
  have hkk := hkk2
  refine own_go (st2) ?_
  show own_R p e below _ T2 (mkF m 5 #[.val (.int p0), .val (.int p1), .val (.ref sa1), .unset, .unset, .unset, .unset, .unset, .unset] [(.ref sa2)])
  refine own_go (fun t k => XS.astoreN X2.here hx rfl (hb hby at_5) rfl rfl (l' := #[.val (.int p0), .val (.int p1), .val (.ref sa1), .val (.ref sa2), .unset, .unset, .unset, .unset, .unset]) rfl k) ?_
  show own_R p e below _ T2 (mkF m 6 #[.val (.int p0), .val (.int p1), .val (.ref sa1), .val (.ref sa2), .unset, .unset, .unset, .unset, .unset] [])
  refine own_go (fun t k => XS.iloadN X2.here hx rfl (hb hby at_6) rfl  k) ?_
  show own_R p e below _ T2 (mkF m 7 #[.val (.int p0), .val (.int p1), .val (.ref sa1), .val (.ref sa2), .unset, .unset, .unset, .unset, .unset] [(.int p0)])
  obtain ⟨_, _, ⟨T3, L3, k3, n3⟩, -, X3, ⟨Lc3, hQ3, l3, y3, z3⟩, st3⟩ := Jvm.LawKit.callS X2 hx (y := (⟨site_7.cls, "hexValue", "(I)I"⟩ : MethodName)) hown (mvT hZ (hw _ (List.mem_of_getElem? (i := 9) rfl))) (mvT hZ (hw _ (List.mem_of_getElem? (i := 10) rfl))) (mvT hZ (hw _ (List.mem_of_getElem? (i := 11) rfl))) (mvT hZ (hw _ (List.mem_of_getElem? (i := 12) rfl))) (by decide) (backOf (W := 0) (rmhexv l Z a0 hw [] p0 h2 n0 (Nat.le_trans Z0 Kh.1)) hZ (hw _ (List.mem_of_getElem? (i := 12) rfl)) (hw _ (List.mem_of_getElem? (i := 11) rfl)) (by decide) (by decide)) (g := (mkF m 7 #[.val (.int p0), .val (.int p1), .val (.ref sa1), .val (.ref sa2), .unset, .unset, .unset, .unset, .unset] [(.int p0)])) rfl (by rw [hml]; rfl) (argsL := [(.int p0)]) (rest := []) (lenOf pd_0 rfl) rfl (by show 2 * 0 + _ ≤ _; exact Nat.le_of_eq rfl) (hb hby at_7) (fun _ _ => ⟨rfl, e2, (by decide : 4 + 0 ≤ _), (by decide : 136 + 0 ≤ _)⟩)
  dsimp only [Pt.U, Pt.locs, Pt.cells, Pt.slots] at X3 l3 y3 z3 st3 hQ3
  subst l3 y3 z3
  obtain ⟨rfl, Nq3, e3⟩ := hQ3
  have N3 := Fr.app N0 Nq3
  refine own_go (st3) ?_
  show own_R p e below _ T3 (mkF m 10 #[.val (.int p0), .val (.int p1), .val (.ref sa1), .val (.ref sa2), .unset, .unset, .unset, .unset, .unset] [(.int (own_hex p0))])
  refine own_go (fun t k => XS.istore X3.here hx rfl (hb hby at_10) rfl (l' := #[.val (.int p0), .val (.int p1), .val (.ref sa1), .val (.ref sa2), .val (.int (own_hex p0)), .unset, .unset, .unset, .unset]) rfl k) ?_
  show own_R p e below _ T3 (mkF m 12 #[.val (.int p0), .val (.int p1), .val (.ref sa1), .val (.ref sa2), .val (.int (own_hex p0)), .unset, .unset, .unset, .unset] [])
  obtain ⟨rr, hrr⟩ : ∃ z, z = (own_hex p0) := ⟨_, rfl⟩
  rw [← hrr]
  show own_R p e below _ T3 (mkF m 12 #[.val (.int p0), .val (.int p1), .val (.ref sa1), .val (.ref sa2), .val (.int rr), .unset, .unset, .unset, .unset] [])
  obtain ⟨_, st4, T4, L4, rfl, X4, e4, N4⟩ : own_R p e below (own_K p l e _ (s.setVm T2.vm) m _ below meth c n0 4 136 (fun h => h = h2) (mkF m 69 #[.val (.int p0), .val (.int p1), .val (.ref sa1), .val (.ref sa2), .val (.int rr), .val (.int (1 : Int32)), .unset, .unset, .unset] [])) T3 (mkF m 12 #[.val (.int p0), .val (.int p1), .val (.ref sa1), .val (.ref sa2), .val (.int rr), .unset, .unset, .unset, .unset] []) := by
    refine own_go (fun t k => XS.iload X3.here hx rfl (hb hby at_12) rfl  k) ?_
    show own_R p e below _ T3 (mkF m 14 #[.val (.int p0), .val (.int p1), .val (.ref sa1), .val (.ref sa2), .val (.int rr), .unset, .unset, .unset, .unset] [(.int rr)])
    refine own_go (fun t k => XS.iconst X3.here hx rfl (hb hby at_14) k) ?_
    show own_R p e below _ T3 (mkF m 15 #[.val (.int p0), .val (.int p1), .val (.ref sa1), .val (.ref sa2), .val (.int rr), .unset, .unset, .unset, .unset] [(.int (-1 : Int32)), (.int rr)])
    by_cases hc15_5 : rr = (-1 : Int32)
    · -- pc 15: yes
      refine own_go (fun t k => XS.icmpNo X3.here hx rfl (hb hby at_15) rfl (teq hc15_5).2 k) ?_
      show own_R p e below _ T3 (mkF m 18 #[.val (.int p0), .val (.int p1), .val (.ref sa1), .val (.ref sa2), .val (.int rr), .unset, .unset, .unset, .unset] [])
      refine own_go (fun t k => XS.iconst X3.here hx rfl (hb hby at_18) k) ?_
      show own_R p e below _ T3 (mkF m 19 #[.val (.int p0), .val (.int p1), .val (.ref sa1), .val (.ref sa2), .val (.int rr), .unset, .unset, .unset, .unset] [(.int (1 : Int32))])
      refine own_go (fun t k => XS.istore X3.here hx rfl (hb hby at_19) rfl (l' := #[.val (.int p0), .val (.int p1), .val (.ref sa1), .val (.ref sa2), .val (.int rr), .val (.int (1 : Int32)), .unset, .unset, .unset]) rfl k) ?_
      show own_R p e below _ T3 (mkF m 21 #[.val (.int p0), .val (.int p1), .val (.ref sa1), .val (.ref sa2), .val (.int rr), .val (.int (1 : Int32)), .unset, .unset, .unset] [])
      refine own_go (fun t k => XS.goto X3.here hx rfl (pc0 := 21) (pc' := 69) rfl (hb hby at_21) (by decide) (by decide) k) ?_
      show own_R p e below _ T3 (mkF m 69 #[.val (.int p0), .val (.int p1), .val (.ref sa1), .val (.ref sa2), .val (.int rr), .val (.int (1 : Int32)), .unset, .unset, .unset] [])
      exact own_here X3 e3 N3
    · -- pc 15: no
      refine own_go (fun t k => XS.icmpYes X3.here hx rfl (pc0 := 15) (pc' := 24) rfl (hb hby at_15) rfl (feq hc15_5).2 (by decide) (by decide) k) ?_
      show own_R p e below _ T3 (mkF m 24 #[.val (.int p0), .val (.int p1), .val (.ref sa1), .val (.ref sa2), .val (.int rr), .unset, .unset, .unset, .unset] [])
      have ok := own_hexok p0 (by rw [← hrr]; exact hc15_5)
      rw [← hrr] at ok
      have rg := own_rng rr ok.1 ok.2.1
      refine own_go (fun t k => XS.iload X3.here hx rfl (hb hby at_24) rfl  k) ?_
      show own_R p e below _ T3 (mkF m 26 #[.val (.int p0), .val (.int p1), .val (.ref sa1), .val (.ref sa2), .val (.int rr), .unset, .unset, .unset, .unset] [(.int rr)])
      refine own_go (fun t k => XS.ifNo X3.here hx rfl (hb hby at_26) rfl ((if0 _ _).trans (flt ok.1).1) k) ?_
      show own_R p e below _ T3 (mkF m 29 #[.val (.int p0), .val (.int p1), .val (.ref sa1), .val (.ref sa2), .val (.int rr), .unset, .unset, .unset, .unset] [])
      refine own_go (fun t k => XS.iload X3.here hx rfl (hb hby at_29) rfl  k) ?_
      show own_R p e below _ T3 (mkF m 31 #[.val (.int p0), .val (.int p1), .val (.ref sa1), .val (.ref sa2), .val (.int rr), .unset, .unset, .unset, .unset] [(.int rr)])
      refine own_go (fun t k => XS.bipush X3.here hx rfl (hb hby at_31) k) ?_
      show own_R p e below _ T3 (mkF m 33 #[.val (.int p0), .val (.int p1), .val (.ref sa1), .val (.ref sa2), .val (.int rr), .unset, .unset, .unset, .unset] [(.int (15 : Int32)), (.int rr)])
      refine own_go (fun t k => XS.icmpNo X3.here hx rfl (hb hby at_33) rfl (flt ok.2.1).2.2.1 k) ?_
      show own_R p e below _ T3 (mkF m 36 #[.val (.int p0), .val (.int p1), .val (.ref sa1), .val (.ref sa2), .val (.int rr), .unset, .unset, .unset, .unset] [])
      refine own_go (fun t k => XS.iloadN X3.here hx rfl (hb hby at_36) rfl  k) ?_
      show own_R p e below _ T3 (mkF m 37 #[.val (.int p0), .val (.int p1), .val (.ref sa1), .val (.ref sa2), .val (.int rr), .unset, .unset, .unset, .unset] [(.int p0)])
      refine own_go (fun t k => XS.aloadN X3.here hx rfl (hb hby at_37) rfl rfl  k) ?_
      show own_R p e below _ T3 (mkF m 38 #[.val (.int p0), .val (.int p1), .val (.ref sa1), .val (.ref sa2), .val (.int rr), .unset, .unset, .unset, .unset] [(.ref sa1), (.int p0)])
      refine own_go (fun t k => XS.iload X3.here hx rfl (hb hby at_38) rfl  k) ?_
      show own_R p e below _ T3 (mkF m 40 #[.val (.int p0), .val (.int p1), .val (.ref sa1), .val (.ref sa2), .val (.int rr), .unset, .unset, .unset, .unset] [(.int rr), (.ref sa1), (.int p0)])
      have cd6 : StrChars.Road.CodA ([48, 49, 50, 51, 52, 53, 54, 55, 56, 57, 97, 98, 99, 100, 101, 102] : List Int32) 0 (16 : Int32) ((([48, 49, 50, 51, 52, 53, 54, 55, 56, 57, 97, 98, 99, 100, 101, 102] : List Int32).map (fun c => c.toInt8.toInt32)).map Value.int) := StrChars.Road.codOf (n := 16) rfl (by decide)
      obtain ⟨cq7, kq7, q7a, q7b, q7c⟩ := isOf hZ e3 Ex1
      obtain ⟨_, _, ⟨T7, L7, k7, n7⟩, -, X7, ⟨Lc7, hQ7, l7, y7, z7⟩, st7⟩ := X3.virtualBack hx (y := (⟨"java/lang/String", "charAt", "(I)C"⟩ : MethodName)) (z := (⟨"java/lang/String", "charAt", "(I)C"⟩ : MethodName)) hown (mvT hZ (hw _ (List.mem_of_getElem? (i := 13) rfl))) (mvT hZ (hw _ (List.mem_of_getElem? (i := 14) rfl))) (notFace_of_selects (args := #[]) (mvT hZ (hw _ (List.mem_of_getElem? (i := 16) rfl)))) (mvT hZ (hw _ (List.mem_of_getElem? (i := 16) rfl))) (mvT hZ (hw _ (List.mem_of_getElem? (i := 15) rfl))) (by decide) (StrChars.Road.chN (W := 1) hZ hch (kI := 4) wi Ex1 FV1 FC1 AV1 cd6 (by decide) (Sta.ext O_.2 S_COMPACT_STRINGS) hz5 (Sta.ext O_.2 S_SIOOBE_FORMATTER) rf5 (by decide) (i := rr.toNatClampNeg) (own_idxlt rg.1 rg.2) (j := rr) (own_idx rg.1) (by decide) (by decide)) q7a q7c (g := (mkF m 40 #[.val (.int p0), .val (.int p1), .val (.ref sa1), .val (.ref sa2), .val (.int rr), .unset, .unset, .unset, .unset] [(.int rr), (.ref sa1), (.int p0)])) rfl (by rw [hml]; rfl) (Steps.refl _) (argsL := [(.int rr)]) (rest := [(.int p0)]) (lenOf pd_1 rfl) rfl (by show 2 * 0 + _ ≤ _; exact Nat.le_of_eq rfl) (hb hby at_40) (fun _ _ => ⟨rfl, e3, (by decide : 4 + 0 ≤ _), (by decide : 136 + 0 ≤ _)⟩)
      dsimp only [Pt.U, Pt.locs, Pt.cells, Pt.slots] at X7 l7 y7 z7 st7 hQ7
      subst l7 y7 z7
      obtain ⟨rfl, rfl, e7⟩ := hQ7
      have Nq7 := Fr.nil n0
      have N7 := Fr.app N3 Nq7
      refine own_go (fun t k => st7.trans k) ?_
      show own_R p e below _ T7 (mkF m 43 #[.val (.int p0), .val (.int p1), .val (.ref sa1), .val (.ref sa2), .val (.int rr), .unset, .unset, .unset, .unset] [(.int (([48, 49, 50, 51, 52, 53, 54, 55, 56, 57, 97, 98, 99, 100, 101, 102] : List Int32).getD rr.toNatClampNeg 0)), (.int p0)])
      by_cases hc43_8 : p0 = (([48, 49, 50, 51, 52, 53, 54, 55, 56, 57, 97, 98, 99, 100, 101, 102] : List Int32).getD rr.toNatClampNeg 0)
      · -- pc 43: yes
        refine own_go (fun t k => XS.icmpYes X7.here hx rfl (pc0 := 43) (pc' := 56) rfl (hb hby at_43) rfl (teq hc43_8).1 (by decide) (by decide) k) ?_
        show own_R p e below _ T7 (mkF m 56 #[.val (.int p0), .val (.int p1), .val (.ref sa1), .val (.ref sa2), .val (.int rr), .unset, .unset, .unset, .unset] [])
        refine own_go (fun t k => XS.iconst X7.here hx rfl (hb hby at_56) k) ?_
        show own_R p e below _ T7 (mkF m 57 #[.val (.int p0), .val (.int p1), .val (.ref sa1), .val (.ref sa2), .val (.int rr), .unset, .unset, .unset, .unset] [(.int (1 : Int32))])
        refine own_go (fun t k => XS.goto X7.here hx rfl (pc0 := 57) (pc' := 61) rfl (hb hby at_57) (by decide) (by decide) k) ?_
        show own_R p e below _ T7 (mkF m 61 #[.val (.int p0), .val (.int p1), .val (.ref sa1), .val (.ref sa2), .val (.int rr), .unset, .unset, .unset, .unset] [(.int (1 : Int32))])
        refine own_go (fun t k => XS.istore X7.here hx rfl (hb hby at_61) rfl (l' := #[.val (.int p0), .val (.int p1), .val (.ref sa1), .val (.ref sa2), .val (.int rr), .val (.int (1 : Int32)), .unset, .unset, .unset]) rfl k) ?_
        show own_R p e below _ T7 (mkF m 63 #[.val (.int p0), .val (.int p1), .val (.ref sa1), .val (.ref sa2), .val (.int rr), .val (.int (1 : Int32)), .unset, .unset, .unset] [])
        refine own_go (fun t k => XS.goto X7.here hx rfl (pc0 := 63) (pc' := 69) rfl (hb hby at_63) (by decide) (by decide) k) ?_
        show own_R p e below _ T7 (mkF m 69 #[.val (.int p0), .val (.int p1), .val (.ref sa1), .val (.ref sa2), .val (.int rr), .val (.int (1 : Int32)), .unset, .unset, .unset] [])
        exact own_here X7 e7 N7
      · -- pc 43: no
        refine own_go (fun t k => XS.icmpNo X7.here hx rfl (hb hby at_43) rfl (feq hc43_8).1 k) ?_
        show own_R p e below _ T7 (mkF m 46 #[.val (.int p0), .val (.int p1), .val (.ref sa1), .val (.ref sa2), .val (.int rr), .unset, .unset, .unset, .unset] [])
        refine own_go (fun t k => XS.iloadN X7.here hx rfl (hb hby at_46) rfl  k) ?_
        show own_R p e below _ T7 (mkF m 47 #[.val (.int p0), .val (.int p1), .val (.ref sa1), .val (.ref sa2), .val (.int rr), .unset, .unset, .unset, .unset] [(.int p0)])
        refine own_go (fun t k => XS.aloadN X7.here hx rfl (hb hby at_47) rfl rfl  k) ?_
        show own_R p e below _ T7 (mkF m 48 #[.val (.int p0), .val (.int p1), .val (.ref sa1), .val (.ref sa2), .val (.int rr), .unset, .unset, .unset, .unset] [(.ref sa2), (.int p0)])
        refine own_go (fun t k => XS.iload X7.here hx rfl (hb hby at_48) rfl  k) ?_
        show own_R p e below _ T7 (mkF m 50 #[.val (.int p0), .val (.int p1), .val (.ref sa1), .val (.ref sa2), .val (.int rr), .unset, .unset, .unset, .unset] [(.int rr), (.ref sa2), (.int p0)])
        have cd9 : StrChars.Road.CodA ([48, 49, 50, 51, 52, 53, 54, 55, 56, 57, 65, 66, 67, 68, 69, 70] : List Int32) 0 (16 : Int32) ((([48, 49, 50, 51, 52, 53, 54, 55, 56, 57, 65, 66, 67, 68, 69, 70] : List Int32).map (fun c => c.toInt8.toInt32)).map Value.int) := StrChars.Road.codOf (n := 16) rfl (by decide)
        obtain ⟨cq10, kq10, q10a, q10b, q10c⟩ := isOf hZ e7 Ex2
        obtain ⟨_, _, ⟨T10, L10, k10, n10⟩, -, X10, ⟨Lc10, hQ10, l10, y10, z10⟩, st10⟩ := X7.virtualBack hx (y := (⟨"java/lang/String", "charAt", "(I)C"⟩ : MethodName)) (z := (⟨"java/lang/String", "charAt", "(I)C"⟩ : MethodName)) hown (mvT hZ (hw _ (List.mem_of_getElem? (i := 13) rfl))) (mvT hZ (hw _ (List.mem_of_getElem? (i := 14) rfl))) (notFace_of_selects (args := #[]) (mvT hZ (hw _ (List.mem_of_getElem? (i := 16) rfl)))) (mvT hZ (hw _ (List.mem_of_getElem? (i := 16) rfl))) (mvT hZ (hw _ (List.mem_of_getElem? (i := 15) rfl))) (by decide) (StrChars.Road.chN (W := 1) hZ hch (kI := 4) wi Ex2 FV2 FC2 AV2 cd9 (by decide) (Sta.ext O_.2 S_COMPACT_STRINGS) hz5 (Sta.ext O_.2 S_SIOOBE_FORMATTER) rf5 (by decide) (i := rr.toNatClampNeg) (own_idxlt rg.1 rg.2) (j := rr) (own_idx rg.1) (by decide) (by decide)) q10a q10c (g := (mkF m 50 #[.val (.int p0), .val (.int p1), .val (.ref sa1), .val (.ref sa2), .val (.int rr), .unset, .unset, .unset, .unset] [(.int rr), (.ref sa2), (.int p0)])) rfl (by rw [hml]; rfl) (Steps.refl _) (argsL := [(.int rr)]) (rest := [(.int p0)]) (lenOf pd_1 rfl) rfl (by show 2 * 0 + _ ≤ _; exact Nat.le_of_eq rfl) (hb hby at_50) (fun _ _ => ⟨rfl, e7, (by decide : 4 + 0 ≤ _), (by decide : 136 + 0 ≤ _)⟩)
        dsimp only [Pt.U, Pt.locs, Pt.cells, Pt.slots] at X10 l10 y10 z10 st10 hQ10
        subst l10 y10 z10
        obtain ⟨rfl, rfl, e10⟩ := hQ10
        have Nq10 := Fr.nil n0
        have N10 := Fr.app N7 Nq10
        refine own_go (fun t k => st10.trans k) ?_
        show own_R p e below _ T10 (mkF m 53 #[.val (.int p0), .val (.int p1), .val (.ref sa1), .val (.ref sa2), .val (.int rr), .unset, .unset, .unset, .unset] [(.int (([48, 49, 50, 51, 52, 53, 54, 55, 56, 57, 65, 66, 67, 68, 69, 70] : List Int32).getD rr.toNatClampNeg 0)), (.int p0)])
        refine own_go (fun t k => XS.icmpNo X10.here hx rfl (hb hby at_53) rfl (teq (ok.2.2.resolve_left hc43_8)).2 k) ?_
        show own_R p e below _ T10 (mkF m 56 #[.val (.int p0), .val (.int p1), .val (.ref sa1), .val (.ref sa2), .val (.int rr), .unset, .unset, .unset, .unset] [])
        refine own_go (fun t k => XS.iconst X10.here hx rfl (hb hby at_56) k) ?_
        show own_R p e below _ T10 (mkF m 57 #[.val (.int p0), .val (.int p1), .val (.ref sa1), .val (.ref sa2), .val (.int rr), .unset, .unset, .unset, .unset] [(.int (1 : Int32))])
        refine own_go (fun t k => XS.goto X10.here hx rfl (pc0 := 57) (pc' := 61) rfl (hb hby at_57) (by decide) (by decide) k) ?_
        show own_R p e below _ T10 (mkF m 61 #[.val (.int p0), .val (.int p1), .val (.ref sa1), .val (.ref sa2), .val (.int rr), .unset, .unset, .unset, .unset] [(.int (1 : Int32))])
        refine own_go (fun t k => XS.istore X10.here hx rfl (hb hby at_61) rfl (l' := #[.val (.int p0), .val (.int p1), .val (.ref sa1), .val (.ref sa2), .val (.int rr), .val (.int (1 : Int32)), .unset, .unset, .unset]) rfl k) ?_
        show own_R p e below _ T10 (mkF m 63 #[.val (.int p0), .val (.int p1), .val (.ref sa1), .val (.ref sa2), .val (.int rr), .val (.int (1 : Int32)), .unset, .unset, .unset] [])
        refine own_go (fun t k => XS.goto X10.here hx rfl (pc0 := 63) (pc' := 69) rfl (hb hby at_63) (by decide) (by decide) k) ?_
        show own_R p e below _ T10 (mkF m 69 #[.val (.int p0), .val (.int p1), .val (.ref sa1), .val (.ref sa2), .val (.int rr), .val (.int (1 : Int32)), .unset, .unset, .unset] [])
        exact own_here X10 e10 N10
  refine own_go (fun t k => st4.trans k) ?_
  show own_R p e below _ T4 (mkF m 69 #[.val (.int p0), .val (.int p1), .val (.ref sa1), .val (.ref sa2), .val (.int rr), .val (.int (1 : Int32)), .unset, .unset, .unset] [])
  refine own_go (fun t k => XS.iloadN X4.here hx rfl (hb hby at_69) rfl  k) ?_
  show own_R p e below _ T4 (mkF m 70 #[.val (.int p0), .val (.int p1), .val (.ref sa1), .val (.ref sa2), .val (.int rr), .val (.int (1 : Int32)), .unset, .unset, .unset] [(.int p1)])
  refine own_go (fun t k => XS.bipush X4.here hx rfl (hb hby at_70) k) ?_
  show own_R p e below _ T4 (mkF m 72 #[.val (.int p0), .val (.int p1), .val (.ref sa1), .val (.ref sa2), .val (.int rr), .val (.int (1 : Int32)), .unset, .unset, .unset] [(.int (15 : Int32)), (.int p1)])
  refine own_go (fun t k => XS.iand X4.here hx rfl (hb hby at_72) rfl k) ?_
  show own_R p e below _ T4 (mkF m 73 #[.val (.int p0), .val (.int p1), .val (.ref sa1), .val (.ref sa2), .val (.int rr), .val (.int (1 : Int32)), .unset, .unset, .unset] [(.int (p1 &&& (15 : Int32)))])
  refine own_go (fun t k => XS.istore X4.here hx rfl (hb hby at_73) rfl (l' := #[.val (.int p0), .val (.int p1), .val (.ref sa1), .val (.ref sa2), .val (.int rr), .val (.int (1 : Int32)), .val (.int (p1 &&& (15 : Int32))), .unset, .unset]) rfl k) ?_
  show own_R p e below _ T4 (mkF m 75 #[.val (.int p0), .val (.int p1), .val (.ref sa1), .val (.ref sa2), .val (.int rr), .val (.int (1 : Int32)), .val (.int (p1 &&& (15 : Int32))), .unset, .unset] [])
  have kg := own_m15 p1
  obtain ⟨kd, hkd⟩ : ∃ z, z = (p1 &&& (15 : Int32)) := ⟨_, rfl⟩
  rw [← hkd]
  show own_R p e below _ T4 (mkF m 75 #[.val (.int p0), .val (.int p1), .val (.ref sa1), .val (.ref sa2), .val (.int rr), .val (.int (1 : Int32)), .val (.int kd), .unset, .unset] [])
  rw [← hkd] at kg
  have lw := own_law kd kg.1 kg.2
  refine own_go (fun t k => XS.aloadN X4.here hx rfl (hb hby at_75) rfl rfl  k) ?_
  show own_R p e below _ T4 (mkF m 76 #[.val (.int p0), .val (.int p1), .val (.ref sa1), .val (.ref sa2), .val (.int rr), .val (.int (1 : Int32)), .val (.int kd), .unset, .unset] [(.ref sa1)])
  refine own_go (fun t k => XS.iload X4.here hx rfl (hb hby at_76) rfl  k) ?_
  show own_R p e below _ T4 (mkF m 78 #[.val (.int p0), .val (.int p1), .val (.ref sa1), .val (.ref sa2), .val (.int rr), .val (.int (1 : Int32)), .val (.int kd), .unset, .unset] [(.int kd), (.ref sa1)])
  have cd11 : StrChars.Road.CodA ([48, 49, 50, 51, 52, 53, 54, 55, 56, 57, 97, 98, 99, 100, 101, 102] : List Int32) 0 (16 : Int32) ((([48, 49, 50, 51, 52, 53, 54, 55, 56, 57, 97, 98, 99, 100, 101, 102] : List Int32).map (fun c => c.toInt8.toInt32)).map Value.int) := StrChars.Road.codOf (n := 16) rfl (by decide)
  obtain ⟨cq12, kq12, q12a, q12b, q12c⟩ := isOf hZ e4 Ex1
  obtain ⟨_, _, ⟨T12, L12, k12, n12⟩, -, X12, ⟨Lc12, hQ12, l12, y12, z12⟩, st12⟩ := X4.virtualBack hx (y := (⟨"java/lang/String", "charAt", "(I)C"⟩ : MethodName)) (z := (⟨"java/lang/String", "charAt", "(I)C"⟩ : MethodName)) hown (mvT hZ (hw _ (List.mem_of_getElem? (i := 13) rfl))) (mvT hZ (hw _ (List.mem_of_getElem? (i := 14) rfl))) (notFace_of_selects (args := #[]) (mvT hZ (hw _ (List.mem_of_getElem? (i := 16) rfl)))) (mvT hZ (hw _ (List.mem_of_getElem? (i := 16) rfl))) (mvT hZ (hw _ (List.mem_of_getElem? (i := 15) rfl))) (by decide) (StrChars.Road.chN (W := 0) hZ hch (kI := 4) wi Ex1 FV1 FC1 AV1 cd11 (by decide) (Sta.ext O_.2 S_COMPACT_STRINGS) hz5 (Sta.ext O_.2 S_SIOOBE_FORMATTER) rf5 (by decide) (i := kd.toNatClampNeg) (own_idxlt kg.1 kg.2) (j := kd) (own_idx kg.1) (by decide) (by decide)) q12a q12c (g := (mkF m 78 #[.val (.int p0), .val (.int p1), .val (.ref sa1), .val (.ref sa2), .val (.int rr), .val (.int (1 : Int32)), .val (.int kd), .unset, .unset] [(.int kd), (.ref sa1)])) rfl (by rw [hml]; rfl) (Steps.refl _) (argsL := [(.int kd)]) (rest := []) (lenOf pd_1 rfl) rfl (by show 2 * 0 + _ ≤ _; exact Nat.le_of_eq rfl) (hb hby at_78) (fun _ _ => ⟨rfl, e4, (by decide : 4 + 0 ≤ _), (by decide : 136 + 0 ≤ _)⟩)
  dsimp only [Pt.U, Pt.locs, Pt.cells, Pt.slots] at X12 l12 y12 z12 st12 hQ12
  subst l12 y12 z12
  obtain ⟨rfl, rfl, e12⟩ := hQ12
  have Nq12 := Fr.nil n0
  have N12 := Fr.app N4 Nq12
  refine own_go (fun t k => st12.trans k) ?_
  show own_R p e below _ T12 (mkF m 81 #[.val (.int p0), .val (.int p1), .val (.ref sa1), .val (.ref sa2), .val (.int rr), .val (.int (1 : Int32)), .val (.int kd), .unset, .unset] [(.int (([48, 49, 50, 51, 52, 53, 54, 55, 56, 57, 97, 98, 99, 100, 101, 102] : List Int32).getD kd.toNatClampNeg 0))])
  obtain ⟨_, _, ⟨T13, L13, k13, n13⟩, -, X13, ⟨Lc13, hQ13, l13, y13, z13⟩, st13⟩ := Jvm.LawKit.callS X12 hx (y := (⟨site_7.cls, "hexValue", "(I)I"⟩ : MethodName)) hown (mvT hZ (hw _ (List.mem_of_getElem? (i := 9) rfl))) (mvT hZ (hw _ (List.mem_of_getElem? (i := 10) rfl))) (mvT hZ (hw _ (List.mem_of_getElem? (i := 11) rfl))) (mvT hZ (hw _ (List.mem_of_getElem? (i := 12) rfl))) (by decide) (backOf (W := 0) (rmhexv l Z a0 hw [] (([48, 49, 50, 51, 52, 53, 54, 55, 56, 57, 97, 98, 99, 100, 101, 102] : List Int32).getD kd.toNatClampNeg 0) h2 n0 (Nat.le_trans Z0 Kh.1)) hZ (hw _ (List.mem_of_getElem? (i := 12) rfl)) (hw _ (List.mem_of_getElem? (i := 11) rfl)) (by decide) (by decide)) (g := (mkF m 81 #[.val (.int p0), .val (.int p1), .val (.ref sa1), .val (.ref sa2), .val (.int rr), .val (.int (1 : Int32)), .val (.int kd), .unset, .unset] [(.int (([48, 49, 50, 51, 52, 53, 54, 55, 56, 57, 97, 98, 99, 100, 101, 102] : List Int32).getD kd.toNatClampNeg 0))])) rfl (by rw [hml]; rfl) (argsL := [(.int (([48, 49, 50, 51, 52, 53, 54, 55, 56, 57, 97, 98, 99, 100, 101, 102] : List Int32).getD kd.toNatClampNeg 0))]) (rest := []) (lenOf pd_0 rfl) rfl (by show 2 * 0 + _ ≤ _; exact Nat.le_of_eq rfl) (hb hby at_81) (fun _ _ => ⟨rfl, e12, (by decide : 4 + 0 ≤ _), (by decide : 136 + 0 ≤ _)⟩)
  dsimp only [Pt.U, Pt.locs, Pt.cells, Pt.slots] at X13 l13 y13 z13 st13 hQ13
  subst l13 y13 z13
  obtain ⟨rfl, Nq13, e13⟩ := hQ13
  have N13 := Fr.app N12 Nq13
  refine own_go (st13) ?_
  show own_R p e below _ T13 (mkF m 84 #[.val (.int p0), .val (.int p1), .val (.ref sa1), .val (.ref sa2), .val (.int rr), .val (.int (1 : Int32)), .val (.int kd), .unset, .unset] [(.int (own_hex (([48, 49, 50, 51, 52, 53, 54, 55, 56, 57, 97, 98, 99, 100, 101, 102] : List Int32).getD kd.toNatClampNeg 0)))])
  refine own_go (fun t k => XS.iload X13.here hx rfl (hb hby at_84) rfl  k) ?_
  show own_R p e below _ T13 (mkF m 86 #[.val (.int p0), .val (.int p1), .val (.ref sa1), .val (.ref sa2), .val (.int rr), .val (.int (1 : Int32)), .val (.int kd), .unset, .unset] [(.int kd), (.int (own_hex (([48, 49, 50, 51, 52, 53, 54, 55, 56, 57, 97, 98, 99, 100, 101, 102] : List Int32).getD kd.toNatClampNeg 0)))])
  refine own_go (fun t k => XS.icmpNo X13.here hx rfl (hb hby at_86) rfl (teq lw.1).2 k) ?_
  show own_R p e below _ T13 (mkF m 89 #[.val (.int p0), .val (.int p1), .val (.ref sa1), .val (.ref sa2), .val (.int rr), .val (.int (1 : Int32)), .val (.int kd), .unset, .unset] [])
  refine own_go (fun t k => XS.iconst X13.here hx rfl (hb hby at_89) k) ?_
  show own_R p e below _ T13 (mkF m 90 #[.val (.int p0), .val (.int p1), .val (.ref sa1), .val (.ref sa2), .val (.int rr), .val (.int (1 : Int32)), .val (.int kd), .unset, .unset] [(.int (1 : Int32))])
  refine own_go (fun t k => XS.goto X13.here hx rfl (pc0 := 90) (pc' := 94) rfl (hb hby at_90) (by decide) (by decide) k) ?_
  show own_R p e below _ T13 (mkF m 94 #[.val (.int p0), .val (.int p1), .val (.ref sa1), .val (.ref sa2), .val (.int rr), .val (.int (1 : Int32)), .val (.int kd), .unset, .unset] [(.int (1 : Int32))])
  refine own_go (fun t k => XS.istore X13.here hx rfl (hb hby at_94) rfl (l' := #[.val (.int p0), .val (.int p1), .val (.ref sa1), .val (.ref sa2), .val (.int rr), .val (.int (1 : Int32)), .val (.int kd), .val (.int (1 : Int32)), .unset]) rfl k) ?_
  show own_R p e below _ T13 (mkF m 96 #[.val (.int p0), .val (.int p1), .val (.ref sa1), .val (.ref sa2), .val (.int rr), .val (.int (1 : Int32)), .val (.int kd), .val (.int (1 : Int32)), .unset] [])
  refine own_go (fun t k => XS.aloadN X13.here hx rfl (hb hby at_96) rfl rfl  k) ?_
  show own_R p e below _ T13 (mkF m 97 #[.val (.int p0), .val (.int p1), .val (.ref sa1), .val (.ref sa2), .val (.int rr), .val (.int (1 : Int32)), .val (.int kd), .val (.int (1 : Int32)), .unset] [(.ref sa2)])
  refine own_go (fun t k => XS.iload X13.here hx rfl (hb hby at_97) rfl  k) ?_
  show own_R p e below _ T13 (mkF m 99 #[.val (.int p0), .val (.int p1), .val (.ref sa1), .val (.ref sa2), .val (.int rr), .val (.int (1 : Int32)), .val (.int kd), .val (.int (1 : Int32)), .unset] [(.int kd), (.ref sa2)])
  have cd14 : StrChars.Road.CodA ([48, 49, 50, 51, 52, 53, 54, 55, 56, 57, 65, 66, 67, 68, 69, 70] : List Int32) 0 (16 : Int32) ((([48, 49, 50, 51, 52, 53, 54, 55, 56, 57, 65, 66, 67, 68, 69, 70] : List Int32).map (fun c => c.toInt8.toInt32)).map Value.int) := StrChars.Road.codOf (n := 16) rfl (by decide)
  obtain ⟨cq15, kq15, q15a, q15b, q15c⟩ := isOf hZ e13 Ex2
  obtain ⟨_, _, ⟨T15, L15, k15, n15⟩, -, X15, ⟨Lc15, hQ15, l15, y15, z15⟩, st15⟩ := X13.virtualBack hx (y := (⟨"java/lang/String", "charAt", "(I)C"⟩ : MethodName)) (z := (⟨"java/lang/String", "charAt", "(I)C"⟩ : MethodName)) hown (mvT hZ (hw _ (List.mem_of_getElem? (i := 13) rfl))) (mvT hZ (hw _ (List.mem_of_getElem? (i := 14) rfl))) (notFace_of_selects (args := #[]) (mvT hZ (hw _ (List.mem_of_getElem? (i := 16) rfl)))) (mvT hZ (hw _ (List.mem_of_getElem? (i := 16) rfl))) (mvT hZ (hw _ (List.mem_of_getElem? (i := 15) rfl))) (by decide) (StrChars.Road.chN (W := 0) hZ hch (kI := 4) wi Ex2 FV2 FC2 AV2 cd14 (by decide) (Sta.ext O_.2 S_COMPACT_STRINGS) hz5 (Sta.ext O_.2 S_SIOOBE_FORMATTER) rf5 (by decide) (i := kd.toNatClampNeg) (own_idxlt kg.1 kg.2) (j := kd) (own_idx kg.1) (by decide) (by decide)) q15a q15c (g := (mkF m 99 #[.val (.int p0), .val (.int p1), .val (.ref sa1), .val (.ref sa2), .val (.int rr), .val (.int (1 : Int32)), .val (.int kd), .val (.int (1 : Int32)), .unset] [(.int kd), (.ref sa2)])) rfl (by rw [hml]; rfl) (Steps.refl _) (argsL := [(.int kd)]) (rest := []) (lenOf pd_1 rfl) rfl (by show 2 * 0 + _ ≤ _; exact Nat.le_of_eq rfl) (hb hby at_99) (fun _ _ => ⟨rfl, e13, (by decide : 4 + 0 ≤ _), (by decide : 136 + 0 ≤ _)⟩)
  dsimp only [Pt.U, Pt.locs, Pt.cells, Pt.slots] at X15 l15 y15 z15 st15 hQ15
  subst l15 y15 z15
  obtain ⟨rfl, rfl, e15⟩ := hQ15
  have Nq15 := Fr.nil n0
  have N15 := Fr.app N13 Nq15
  refine own_go (fun t k => st15.trans k) ?_
  show own_R p e below _ T15 (mkF m 102 #[.val (.int p0), .val (.int p1), .val (.ref sa1), .val (.ref sa2), .val (.int rr), .val (.int (1 : Int32)), .val (.int kd), .val (.int (1 : Int32)), .unset] [(.int (([48, 49, 50, 51, 52, 53, 54, 55, 56, 57, 65, 66, 67, 68, 69, 70] : List Int32).getD kd.toNatClampNeg 0))])
  obtain ⟨_, _, ⟨T16, L16, k16, n16⟩, -, X16, ⟨Lc16, hQ16, l16, y16, z16⟩, st16⟩ := Jvm.LawKit.callS X15 hx (y := (⟨site_7.cls, "hexValue", "(I)I"⟩ : MethodName)) hown (mvT hZ (hw _ (List.mem_of_getElem? (i := 9) rfl))) (mvT hZ (hw _ (List.mem_of_getElem? (i := 10) rfl))) (mvT hZ (hw _ (List.mem_of_getElem? (i := 11) rfl))) (mvT hZ (hw _ (List.mem_of_getElem? (i := 12) rfl))) (by decide) (backOf (W := 0) (rmhexv l Z a0 hw [] (([48, 49, 50, 51, 52, 53, 54, 55, 56, 57, 65, 66, 67, 68, 69, 70] : List Int32).getD kd.toNatClampNeg 0) h2 n0 (Nat.le_trans Z0 Kh.1)) hZ (hw _ (List.mem_of_getElem? (i := 12) rfl)) (hw _ (List.mem_of_getElem? (i := 11) rfl)) (by decide) (by decide)) (g := (mkF m 102 #[.val (.int p0), .val (.int p1), .val (.ref sa1), .val (.ref sa2), .val (.int rr), .val (.int (1 : Int32)), .val (.int kd), .val (.int (1 : Int32)), .unset] [(.int (([48, 49, 50, 51, 52, 53, 54, 55, 56, 57, 65, 66, 67, 68, 69, 70] : List Int32).getD kd.toNatClampNeg 0))])) rfl (by rw [hml]; rfl) (argsL := [(.int (([48, 49, 50, 51, 52, 53, 54, 55, 56, 57, 65, 66, 67, 68, 69, 70] : List Int32).getD kd.toNatClampNeg 0))]) (rest := []) (lenOf pd_0 rfl) rfl (by show 2 * 0 + _ ≤ _; exact Nat.le_of_eq rfl) (hb hby at_102) (fun _ _ => ⟨rfl, e15, (by decide : 4 + 0 ≤ _), (by decide : 136 + 0 ≤ _)⟩)
  dsimp only [Pt.U, Pt.locs, Pt.cells, Pt.slots] at X16 l16 y16 z16 st16 hQ16
  subst l16 y16 z16
  obtain ⟨rfl, Nq16, e16⟩ := hQ16
  have N16 := Fr.app N15 Nq16
  refine own_go (st16) ?_
  show own_R p e below _ T16 (mkF m 105 #[.val (.int p0), .val (.int p1), .val (.ref sa1), .val (.ref sa2), .val (.int rr), .val (.int (1 : Int32)), .val (.int kd), .val (.int (1 : Int32)), .unset] [(.int (own_hex (([48, 49, 50, 51, 52, 53, 54, 55, 56, 57, 65, 66, 67, 68, 69, 70] : List Int32).getD kd.toNatClampNeg 0)))])
  refine own_go (fun t k => XS.iload X16.here hx rfl (hb hby at_105) rfl  k) ?_
  show own_R p e below _ T16 (mkF m 107 #[.val (.int p0), .val (.int p1), .val (.ref sa1), .val (.ref sa2), .val (.int rr), .val (.int (1 : Int32)), .val (.int kd), .val (.int (1 : Int32)), .unset] [(.int kd), (.int (own_hex (([48, 49, 50, 51, 52, 53, 54, 55, 56, 57, 65, 66, 67, 68, 69, 70] : List Int32).getD kd.toNatClampNeg 0)))])
  refine own_go (fun t k => XS.icmpNo X16.here hx rfl (hb hby at_107) rfl (teq lw.2).2 k) ?_
  show own_R p e below _ T16 (mkF m 110 #[.val (.int p0), .val (.int p1), .val (.ref sa1), .val (.ref sa2), .val (.int rr), .val (.int (1 : Int32)), .val (.int kd), .val (.int (1 : Int32)), .unset] [])
  refine own_go (fun t k => XS.iconst X16.here hx rfl (hb hby at_110) k) ?_
  show own_R p e below _ T16 (mkF m 111 #[.val (.int p0), .val (.int p1), .val (.ref sa1), .val (.ref sa2), .val (.int rr), .val (.int (1 : Int32)), .val (.int kd), .val (.int (1 : Int32)), .unset] [(.int (1 : Int32))])
  refine own_go (fun t k => XS.goto X16.here hx rfl (pc0 := 111) (pc' := 115) rfl (hb hby at_111) (by decide) (by decide) k) ?_
  show own_R p e below _ T16 (mkF m 115 #[.val (.int p0), .val (.int p1), .val (.ref sa1), .val (.ref sa2), .val (.int rr), .val (.int (1 : Int32)), .val (.int kd), .val (.int (1 : Int32)), .unset] [(.int (1 : Int32))])
  refine own_go (fun t k => XS.istore X16.here hx rfl (hb hby at_115) rfl (l' := #[.val (.int p0), .val (.int p1), .val (.ref sa1), .val (.ref sa2), .val (.int rr), .val (.int (1 : Int32)), .val (.int kd), .val (.int (1 : Int32)), .val (.int (1 : Int32))]) rfl k) ?_
  show own_R p e below _ T16 (mkF m 117 #[.val (.int p0), .val (.int p1), .val (.ref sa1), .val (.ref sa2), .val (.int rr), .val (.int (1 : Int32)), .val (.int kd), .val (.int (1 : Int32)), .val (.int (1 : Int32))] [])
  refine own_go (fun t k => XS.iload X16.here hx rfl (hb hby at_117) rfl  k) ?_
  show own_R p e below _ T16 (mkF m 119 #[.val (.int p0), .val (.int p1), .val (.ref sa1), .val (.ref sa2), .val (.int rr), .val (.int (1 : Int32)), .val (.int kd), .val (.int (1 : Int32)), .val (.int (1 : Int32))] [(.int (1 : Int32))])
  refine own_go (fun t k => XS.ifNo X16.here hx rfl (hb hby at_119) rfl ((if0 _ _).trans (feq (by decide : ¬ ((1 : Int32) = (0 : Int32)))).1) k) ?_
  show own_R p e below _ T16 (mkF m 122 #[.val (.int p0), .val (.int p1), .val (.ref sa1), .val (.ref sa2), .val (.int rr), .val (.int (1 : Int32)), .val (.int kd), .val (.int (1 : Int32)), .val (.int (1 : Int32))] [])
  refine own_go (fun t k => XS.iload X16.here hx rfl (hb hby at_122) rfl  k) ?_
  show own_R p e below _ T16 (mkF m 124 #[.val (.int p0), .val (.int p1), .val (.ref sa1), .val (.ref sa2), .val (.int rr), .val (.int (1 : Int32)), .val (.int kd), .val (.int (1 : Int32)), .val (.int (1 : Int32))] [(.int (1 : Int32))])
  refine own_go (fun t k => XS.ifNo X16.here hx rfl (hb hby at_124) rfl ((if0 _ _).trans (feq (by decide : ¬ ((1 : Int32) = (0 : Int32)))).1) k) ?_
  show own_R p e below _ T16 (mkF m 127 #[.val (.int p0), .val (.int p1), .val (.ref sa1), .val (.ref sa2), .val (.int rr), .val (.int (1 : Int32)), .val (.int kd), .val (.int (1 : Int32)), .val (.int (1 : Int32))] [])
  refine own_go (fun t k => XS.iload X16.here hx rfl (hb hby at_127) rfl  k) ?_
  show own_R p e below _ T16 (mkF m 129 #[.val (.int p0), .val (.int p1), .val (.ref sa1), .val (.ref sa2), .val (.int rr), .val (.int (1 : Int32)), .val (.int kd), .val (.int (1 : Int32)), .val (.int (1 : Int32))] [(.int (1 : Int32))])
  refine own_go (fun t k => XS.ifNo X16.here hx rfl (hb hby at_129) rfl ((if0 _ _).trans (feq (by decide : ¬ ((1 : Int32) = (0 : Int32)))).1) k) ?_
  show own_R p e below _ T16 (mkF m 132 #[.val (.int p0), .val (.int p1), .val (.ref sa1), .val (.ref sa2), .val (.int rr), .val (.int (1 : Int32)), .val (.int kd), .val (.int (1 : Int32)), .val (.int (1 : Int32))] [])
  refine own_go (fun t k => XS.iconst X16.here hx rfl (hb hby at_132) k) ?_
  show own_R p e below _ T16 (mkF m 133 #[.val (.int p0), .val (.int p1), .val (.ref sa1), .val (.ref sa2), .val (.int rr), .val (.int (1 : Int32)), .val (.int kd), .val (.int (1 : Int32)), .val (.int (1 : Int32))] [(.int (1 : Int32))])
  refine own_go (fun t k => XS.goto X16.here hx rfl (pc0 := 133) (pc' := 137) rfl (hb hby at_133) (by decide) (by decide) k) ?_
  show own_R p e below _ T16 (mkF m 137 #[.val (.int p0), .val (.int p1), .val (.ref sa1), .val (.ref sa2), .val (.int rr), .val (.int (1 : Int32)), .val (.int kd), .val (.int (1 : Int32)), .val (.int (1 : Int32))] [(.int (1 : Int32))])
  refine own_retNW X16 hx Bd.returns (by simp) (BodyLoose.notSynchronized Bd) (hb hby at_137) hS (by rw [e16]; exact hkk) (by decide) (by decide) ?_
  exact ⟨rfl, N16⟩
set_option maxRecDepth 65536 in
set_option maxHeartbeats 40000000 in
theorem comes_1 {Post : Tables → Env → Array Value → State → Outcome → State → Prop} (hpost : ∀ tb e args s v u, (limb_1_1.after args s (.returned v) u = true ∧ limb_1_2.after args s (.returned v) u = true ∧ True) → ReturnedEndW s (.returned v) u (Jvm.fieldLocs frame_1_writes args s ++ Jvm.arrayLocs frame_1_arrays args s ++ Jvm.staticLocs frame_1_statics s) 8 2112 → Post tb e args s (.returned v) u) :
    ArmFor flags0 classFile x code maxLocals ret World_1 tables_1 room_1 Calls_1 rest_1 Pre_1 Post := by
  intro l hfl _ _ p e ha hc hk s m args below hf hA hF happ hP
  obtain ⟨hcalls, hrest, hpre⟩ := hP
  obtain ⟨-, -, -, hnamed, -, -, -, hat⟩ := (Spec.applies_iff hf).mp happ
  obtain ⟨hg, hn⟩ := and_e (Cond.before_iff.mp (show (Jvm.Cond.and given_1 narrow_1).before args s = true from hpre))
  obtain ⟨g0, gr0⟩ := and_e hg
  obtain ⟨ga0, gr1⟩ := and_e gr0
  have ga1 := gr1
  obtain ⟨w0, w1, rfl⟩ : ∃ w0 w1 : Value, args = #[w0, w1] := by
    have hs : args.size = 2 := by simpa [Cond.value, given_1] using g0
    obtain ⟨L⟩ := args
    match L, hs with
    | [w0, w1], _ => exact ⟨w0, w1, rfl⟩
  have hw := fun d (hd : d ∈ tables_1) => atoms_spec (ws := Jvm.Cond.code x code maxLocals ret :: tables_1) hat d (List.mem_cons_of_mem _ hd)
  have hfit : Fit s := fun {y c} hc i hi => by
    obtain ⟨ha, rfl⟩ := Array.getElem?_eq_some_iff.mp hc
    have q := List.all_eq_true.mp ((Array.all_eq_true_iff_forall_mem.mp hF) _ (Array.getElem_mem ha)) i (List.mem_range.mpr hi)
    simpa [Array.getElem?_eq_getElem hi] using q
  obtain ⟨hsets, hown0⟩ := atoms_of _ (rest_1_c_eq ▸ (show rest_1_c.before _ s = true from hrest))
  obtain ⟨i0, ei0⟩ := is_v ga0
  obtain rfl : w0 = (.int i0) := Option.some.inj ei0
  obtain ⟨i1, ei1⟩ := is_v ga1
  obtain rfl : w1 = (.int i1) := Option.some.inj ei1
  obtain ⟨zz, ezz⟩ := is_v (Cond.before_iff.mp (hsets _ (List.mem_of_getElem? (i := 1) rfl)))
  have Szz := Sta.start ezz (Or.inl (hsets _ (List.mem_of_getElem? (i := 0) rfl)))
  have hcw : Jvm.Lit.compactW.before _ s = true := hsets _ (List.mem_of_getElem? (i := 2) rfl)
  have hz5 : ¬ zz = 0 := by
    have q := not_v (Cond.before_iff.mp hcw)
    intro hz
    rw [eq_i ezz (Term.int_eval (0)) (by rw [hz])] at q
    cases q
  obtain ⟨fm, efm, rf5⟩ := isR_v (Cond.before_iff.mp (hsets _ (List.mem_of_getElem? (i := 8) rfl)))
  have Sfm := Sta.start efm (Or.inl (hsets _ (List.mem_of_getElem? (i := 7) rfl)))
  have hheld1 := hcalls.1 _ (List.mem_of_getElem? (i := 0) rfl)
  have hheld2 := hcalls.1 _ (List.mem_of_getElem? (i := 1) rfl)
  obtain ⟨n, o, h1, h2, h3, _, L, rfl, ⟨rfl, N⟩, hq⟩ := rm0 l s _ hw tables_1 i0 i1 zz fm s.heap s.heap.size (Nat.le_refl _) Szz Sfm (Old.start s) rfl hheld1 hheld2 hcw hz5 rf5 p e ha hc hk s m _ below hf ((Spec.applies_iff_loose hf).mp happ).1 ⟨rfl, rfl, rfl⟩ trivial
  refine ⟨n, _, h1, h2, h3, hpost _ _ _ _ _ _ ⟨Cond.after_iff.mpr rfl, Cond.after_iff.mpr (eq_i res_at (Term.int_eval (1)) rfl), trivial⟩ ⟨hq.1, hq.2.1, hq.2.2.1, (hq.2.2.2.sift fun y hy => Or.inr (N y hy)).mono (by decide) (by decide)⟩⟩
theorem main_1_1 : Claimed_1_1 := comes_1 fun _ _ _ _ _ _ h hF => ⟨h.1, hF⟩
theorem main_1_2 : Claimed_1_2 := comes_1 fun _ _ _ _ _ _ h hF => ⟨h.2.1, hF⟩
end Jvm.Pilot.@@N@@
namespace Jvm.Pilot.@@N@@
open Jvm Jvm.ClassFile Sem Op Lib Jvm.Free Jvm.Stand Jvm.Pilot.@@N@@.Jvm.D
/-! MADE BY PROGRAM (witnessworld.py) out of the Statement's table words and the real class files: 17 classes; the members and pool entries that the words name. The judged class is class 1, her method 1. -/
namespace start1
open Jvm.ClassFile
def u (s : String) : CpInfo := .utf8 (stringToUtf16 s)
/-- a pool by its gaps: so many unusable entries, then the entry; so many at the end -/
def gap : Nat → List CpInfo → List CpInfo
  | 0, r => r
  | n + 1, r => .unusable :: gap n r
def poolList (es : List (Nat × CpInfo)) (last : Nat) : List CpInfo := es.foldr (fun e r => gap e.1 (e.2 :: r)) (gap last [])
def pool (es : List (Nat × CpInfo)) (last : Nat) : Array CpInfo := ⟨poolList es last⟩
def fileOf (pool : Array CpInfo) (this : Nat) (attrs : Array Attribute := #[]) (ms : Array MethodInfo := #[]) (fl : Nat := 33) (sup : Nat := 0) (ifs : Array Nat := #[]) (fds : Array FieldInfo := #[]) : ClassFile where
  minorVersion := 0
  majorVersion := 65
  constantPool := pool
  accessFlags := fl
  thisClass := this
  superClass := sup
  interfaces := ifs
  fields := fds
  methods := ms
  attributes := attrs
def plain (name : String) (sup : Option ClassId) : Class where
  name := name
  kind := .ordinary
  loader := none
  accessFlags := 33
  super := sup
  interfaces := #[]
  cf := none
  fields := #[]
  methods := #[]
  instanceTypes := #[]
  staticTypes := #[]
  resolved := #[]
  callSites := []
  init := .initialized
  statics := none
  mirror := none

def pool0 : Array CpInfo := pool [(5, u "<init>"), (0, u "()V"), (1, .class_ 10), (1, u "java/lang/Object")] 113

def k0m0 : Method := { name := "<init>", desc := "()V", sig := { parameters := [], returnType := none }, accessFlags := 1, code := none }
def k0 : Class := { plain "java/lang/Object" none with
  accessFlags := 33
  interfaces := #[]
  cf := some (fileOf pool0 8 #[] #[{ accessFlags := 1, nameIndex := 5, descriptorIndex := 6, attributes := #[] }] 33 0 #[] #[])
  fields := #[]
  methods := #[k0m0]
  instanceTypes := #[]
  staticTypes := #[]
  resolved := Array.replicate 124 none
  statics := none }

def pool1 : Array CpInfo := pool [(2, .class_ 4), (1, u "java/lang/Object"), (0, u "<init>"), (0, u "()V"), (0, .string 8), (0, u "0123456789abcdef"), (0, .string 10), (0, u "0123456789ABCDEF"), (0, .methodref 12 13), (0, .class_ 14), (0, .nameAndType 15 16), (0, u site_7.cls), (0, u "hexValue"), (0, u "(I)I"), (0, .methodref 18 19), (0, .class_ 20), (0, .nameAndType 21 22), (0, u "java/lang/String"), (0, u "charAt"), (0, u "(I)C"), (0, .class_ 24), (0, u x.cls), (2, u "law"), (0, u "(II)Z")] 3

def k1m0 : Method := { name := "<init>", desc := "()V", sig := { parameters := [], returnType := none }, accessFlags := 1, code := none }
def k1c1 : Code := { maxStack := 3, maxLocals := 9, code := code, exceptionTable := #[], attributes := #[] }
def k1m1 : Method := { name := "law", desc := "(II)Z", sig := { parameters := [.int, .int], returnType := some .boolean }, accessFlags := 9, code := some k1c1 }
def k1 : Class := { plain x.cls (some 0) with
  accessFlags := 49
  interfaces := #[]
  cf := some (fileOf pool1 23 #[] #[{ accessFlags := 1, nameIndex := 5, descriptorIndex := 6, attributes := #[] }, { accessFlags := 9, nameIndex := 27, descriptorIndex := 28, attributes := #[] }] 49 2 #[] #[])
  fields := #[]
  methods := #[k1m0, k1m1]
  instanceTypes := #[]
  staticTypes := #[]
  resolved := Array.replicate 32 none
  statics := none }

def pool2 : Array CpInfo := pool [(1, .class_ 2), (0, u "java/io/Serializable"), (0, .class_ 4), (0, u "java/lang/Object")] 2

def k2 : Class := { plain "java/io/Serializable" (some 0) with
  accessFlags := 1537
  interfaces := #[]
  cf := some (fileOf pool2 1 #[] #[] 1537 3 #[] #[])
  fields := #[]
  methods := #[]
  instanceTypes := #[]
  staticTypes := #[]
  resolved := Array.replicate 7 none
  statics := none }

def pool3 : Array CpInfo := pool [(1, .class_ 2), (0, u "java/lang/Comparable"), (0, .class_ 4), (0, u "java/lang/Object")] 7

def k3 : Class := { plain "java/lang/Comparable" (some 0) with
  accessFlags := 1537
  interfaces := #[]
  cf := some (fileOf pool3 1 #[] #[] 1537 3 #[] #[])
  fields := #[]
  methods := #[]
  instanceTypes := #[]
  staticTypes := #[]
  resolved := Array.replicate 12 none
  statics := none }

def pool4 : Array CpInfo := pool [(2, .class_ 4), (1, u "java/lang/CharSequence"), (42, .class_ 48), (0, u "java/lang/CharSequence$1CodePointIterator"), (10, .class_ 60), (0, u "java/lang/CharSequence$1CharIterator"), (5, .class_ 67), (0, u "java/lang/Object")] 63

def k4 : Class := { plain "java/lang/CharSequence" (some 0) with
  accessFlags := 1537
  interfaces := #[]
  cf := some (fileOf pool4 2 #[.nestMembers #[47, 59]] #[] 1537 66 #[] #[])
  fields := #[]
  methods := #[]
  instanceTypes := #[]
  staticTypes := #[]
  resolved := Array.replicate 131 none
  statics := none }

def pool5 : Array CpInfo := pool [(1, .class_ 2), (0, u "java/lang/constant/Constable"), (0, .class_ 4), (0, u "java/lang/Object")] 6

def k5 : Class := { plain "java/lang/constant/Constable" (some 0) with
  accessFlags := 1537
  interfaces := #[]
  cf := some (fileOf pool5 1 #[] #[] 1537 3 #[] #[])
  fields := #[]
  methods := #[]
  instanceTypes := #[]
  staticTypes := #[]
  resolved := Array.replicate 11 none
  statics := none }

def pool6 : Array CpInfo := pool [(1, .class_ 2), (0, u "java/lang/constant/ConstantDesc"), (0, .class_ 4), (0, u "java/lang/Object")] 32

def k6 : Class := { plain "java/lang/constant/ConstantDesc" (some 0) with
  accessFlags := 1537
  interfaces := #[]
  cf := some (fileOf pool6 1 #[] #[] 1537 3 #[] #[])
  fields := #[]
  methods := #[]
  instanceTypes := #[]
  staticTypes := #[]
  resolved := Array.replicate 37 none
  statics := none }

def pool7 : Array CpInfo := pool [(2, .class_ 4), (1, u "java/lang/Object"), (0, u "<init>"), (0, u "()V"), (2, .fieldref 10 11), (0, .class_ 12), (0, .nameAndType 13 14), (0, u "java/lang/String"), (0, u "value"), (0, u "[B"), (0, .fieldref 10 16), (0, .nameAndType 17 18), (0, u "coder"), (0, u "B"), (2, u "hash"), (0, u "I"), (2, u "hashIsZero"), (0, u "Z"), (11, .fieldref 10 39), (0, .nameAndType 40 26), (0, u "COMPACT_STRINGS"), (66, .class_ 109), (1, u "java/lang/StringLatin1"), (32, u "()Z"), (220, u "([BI)C"), (27, u "(II)V"), (35, u "(I)C"), (64, .methodref 10 493), (0, .nameAndType 494 142), (0, u "isLatin1"), (0, .methodref 107 496), (0, .nameAndType 497 363), (0, u "charAt"), (3, u "checkIndex"), (73, .class_ 576), (0, u "java/lang/CharSequence"), (22, u "CASE_INSENSITIVE_ORDER"), (0, u "Ljava/util/Comparator;"), (452, .fieldref 1054 1055), (0, .class_ 1056), (0, .nameAndType 1057 1058), (0, u "jdk/internal/util/Preconditions"), (0, u "SIOOBE_FORMATTER"), (0, u "Ljava/util/function/BiFunction;"), (0, .methodref 1054 1060), (0, .nameAndType 501 1061), (0, u "(IILjava/util/function/BiFunction;)I"), (39, u "serialPersistentFields"), (0, u "[Ljava/io/ObjectStreamField;"), (0, .class_ 1104), (0, u "java/lang/String$CaseInsensitiveComparator"), (1, .class_ 1107), (0, u "java/io/Serializable"), (0, .class_ 1109), (0, u "java/lang/Comparable"), (0, .class_ 1111), (0, u "java/lang/constant/Constable"), (0, .class_ 1113), (0, u "java/lang/constant/ConstantDesc"), (2, u "serialVersionUID"), (0, u "J"), (3, u "REPL"), (0, u "C"), (2, u "LATIN1"), (1, u "UTF16")] 323

def k7m0 : Method := { name := "<init>", desc := "()V", sig := { parameters := [], returnType := none }, accessFlags := 1, code := none }
def k7c1 : Code := { maxStack := 2, maxLocals := 2, code := jdk_42_method_56_code, exceptionTable := #[], attributes := #[] }
def k7m1 : Method := { name := "charAt", desc := "(I)C", sig := { parameters := [.int], returnType := some .char }, accessFlags := 1, code := some k7c1 }
def k7c2 : Code := { maxStack := 1, maxLocals := 1, code := jdk_42_method_154_code, exceptionTable := #[], attributes := #[] }
def k7m2 : Method := { name := "isLatin1", desc := "()Z", sig := { parameters := [], returnType := some .boolean }, accessFlags := 0, code := some k7c2 }
def k7c3 : Code := { maxStack := 3, maxLocals := 2, code := jdk_42_method_155_code, exceptionTable := #[], attributes := #[] }
def k7m3 : Method := { name := "checkIndex", desc := "(II)V", sig := { parameters := [.int, .int], returnType := none }, accessFlags := 8, code := some k7c3 }
def k7 : Class := { plain "java/lang/String" (some 0) with
  accessFlags := 49
  interfaces := #[2, 3, 4, 5, 6]
  cf := some (fileOf pool7 10 #[.nestMembers #[1103]] #[{ accessFlags := 1, nameIndex := 5, descriptorIndex := 6, attributes := #[] }, { accessFlags := 1, nameIndex := 497, descriptorIndex := 427, attributes := #[] }, { accessFlags := 0, nameIndex := 494, descriptorIndex := 142, attributes := #[] }, { accessFlags := 8, nameIndex := 501, descriptorIndex := 391, attributes := #[] }] 49 2 #[1106, 1108, 575, 1110, 1112] #[{ accessFlags := 18, nameIndex := 13, descriptorIndex := 14, attributes := #[] }, { accessFlags := 18, nameIndex := 17, descriptorIndex := 18, attributes := #[] }, { accessFlags := 2, nameIndex := 21, descriptorIndex := 22, attributes := #[] }, { accessFlags := 2, nameIndex := 25, descriptorIndex := 26, attributes := #[] }, { accessFlags := 26, nameIndex := 1116, descriptorIndex := 1117, attributes := #[] }, { accessFlags := 24, nameIndex := 40, descriptorIndex := 26, attributes := #[] }, { accessFlags := 26, nameIndex := 1101, descriptorIndex := 1102, attributes := #[] }, { accessFlags := 26, nameIndex := 1121, descriptorIndex := 1122, attributes := #[] }, { accessFlags := 25, nameIndex := 599, descriptorIndex := 600, attributes := #[] }, { accessFlags := 24, nameIndex := 1125, descriptorIndex := 18, attributes := #[] }, { accessFlags := 24, nameIndex := 1127, descriptorIndex := 18, attributes := #[] }])
  fields := #[{ name := "value", type := (.array .byte), accessFlags := 18, slot := 0, constantValue := 0 }, { name := "coder", type := .byte, accessFlags := 18, slot := 1, constantValue := 0 }, { name := "hash", type := .int, accessFlags := 2, slot := 2, constantValue := 0 }, { name := "hashIsZero", type := .boolean, accessFlags := 2, slot := 3, constantValue := 0 }, { name := "serialVersionUID", type := .long, accessFlags := 26, slot := 0, constantValue := 0 }, { name := "COMPACT_STRINGS", type := .boolean, accessFlags := 24, slot := 1, constantValue := 0 }, { name := "serialPersistentFields", type := (.array (.object "java/io/ObjectStreamField")), accessFlags := 26, slot := 2, constantValue := 0 }, { name := "REPL", type := .char, accessFlags := 26, slot := 3, constantValue := 0 }, { name := "CASE_INSENSITIVE_ORDER", type := (.object "java/util/Comparator"), accessFlags := 25, slot := 4, constantValue := 0 }, { name := "LATIN1", type := .byte, accessFlags := 24, slot := 5, constantValue := 0 }, { name := "UTF16", type := .byte, accessFlags := 24, slot := 6, constantValue := 0 }]
  methods := #[k7m0, k7m1, k7m2, k7m3]
  instanceTypes := #[(.array .byte), .byte, .int, .boolean]
  staticTypes := #[.long, .boolean, (.array (.object "java/io/ObjectStreamField")), .char, (.object "java/util/Comparator"), .byte, .byte]
  resolved := Array.replicate 1451 none
  statics := some 0 }

def pool8 : Array CpInfo := pool [(2, .class_ 4), (1, u "java/lang/Object"), (6, .class_ 13), (1, u site_7.cls), (0, u "heap"), (0, u "I"), (5, u "recentIris"), (0, u "I"), (2, u "text"), (0, u "[C"), (2, u "pastLine"), (0, u "I"), (7, u "lines"), (0, u "I"), (6, u "length"), (10, u "pos"), (2, u "line"), (0, u "J"), (12, u "MALFORMED"), (138, u "(I)I"), (88, u "hexValue"), (62, u "END"), (2, u "LINE_BREAK")] 59

def k8c0 : Code := { maxStack := 2, maxLocals := 1, code := prog_70_method_40_code, exceptionTable := #[], attributes := #[] }
def k8m0 : Method := { name := "hexValue", desc := "(I)I", sig := { parameters := [.int], returnType := some .int }, accessFlags := 9, code := some k8c0 }
def k8 : Class := { plain site_7.cls (some 0) with
  accessFlags := 49
  interfaces := #[]
  cf := some (fileOf pool8 11 #[] #[{ accessFlags := 9, nameIndex := 302, descriptorIndex := 213, attributes := #[] }] 49 2 #[] #[])
  fields := #[]
  methods := #[k8m0]
  instanceTypes := #[]
  staticTypes := #[]
  resolved := Array.replicate 428 none
  statics := none }

def pool9 : Array CpInfo := pool [(1, .class_ 2), (0, u "java/lang/String"), (1, .class_ 6), (1, u "java/lang/Object"), (0, u "<init>"), (0, u "()V"), (0, .methodref 1 10), (0, .nameAndType 11 12), (0, u "checkIndex"), (0, u "(II)V"), (1, .class_ 16), (1, u "java/lang/StringLatin1"), (36, u "([BI)C"), (67, u "$assertionsDisabled"), (0, u "Z"), (98, .class_ 223), (1, u "java/lang/StringLatin1$LinesSpliterator"), (28, u "charAt"), (137, .class_ 391), (0, u "java/lang/StringLatin1$CharsSpliterator")] 3

def k9m0 : Method := { name := "<init>", desc := "()V", sig := { parameters := [], returnType := none }, accessFlags := 0, code := none }
def k9c1 : Code := { maxStack := 2, maxLocals := 2, code := jdk_43_method_2_code, exceptionTable := #[], attributes := #[] }
def k9m1 : Method := { name := "charAt", desc := "([BI)C", sig := { parameters := [(.array .byte), .int], returnType := some .char }, accessFlags := 9, code := some k9c1 }
def k9 : Class := { plain "java/lang/StringLatin1" (some 0) with
  accessFlags := 48
  interfaces := #[]
  cf := some (fileOf pool9 14 #[.nestMembers #[390, 221]] #[{ accessFlags := 0, nameIndex := 7, descriptorIndex := 8, attributes := #[] }, { accessFlags := 9, nameIndex := 252, descriptorIndex := 53, attributes := #[] }] 48 4 #[] #[{ accessFlags := 4120, nameIndex := 121, descriptorIndex := 122, attributes := #[] }])
  fields := #[{ name := "$assertionsDisabled", type := .boolean, accessFlags := 4120, slot := 0, constantValue := 0 }]
  methods := #[k9m0, k9m1]
  instanceTypes := #[]
  staticTypes := #[.boolean]
  resolved := Array.replicate 395 none
  statics := none }

def pool10 : Array CpInfo := pool [(2, .class_ 4), (1, u "java/lang/Object"), (0, u "<init>"), (0, u "()V"), (17, .class_ 26), (1, u "jdk/internal/util/Preconditions"), (6, u "checkIndex"), (21, .class_ 56), (0, u "jdk/internal/util/Preconditions$4"), (57, .class_ 115), (0, u "jdk/internal/util/Preconditions$1"), (7, u "SIOOBE_FORMATTER"), (0, u "Ljava/util/function/BiFunction;"), (0, .class_ 126), (0, u "jdk/internal/util/Preconditions$2"), (3, u "AIOOBE_FORMATTER"), (0, .class_ 132), (0, u "jdk/internal/util/Preconditions$3"), (3, u "IOOBE_FORMATTER"), (41, u "(IILjava/util/function/BiFunction;)I")] 15

def k10m0 : Method := { name := "<init>", desc := "()V", sig := { parameters := [], returnType := none }, accessFlags := 1, code := none }
def k10c1 : Code := { maxStack := 3, maxLocals := 3, code := jdk_41_method_11_code, exceptionTable := #[], attributes := #[] }
def k10m1 : Method := { name := "checkIndex", desc := "(IILjava/util/function/BiFunction;)I", sig := { parameters := [.int, .int, (.object "java/util/function/BiFunction")], returnType := some .int }, accessFlags := 9, code := some k10c1 }
def k10 : Class := { plain "jdk/internal/util/Preconditions" (some 0) with
  accessFlags := 33
  interfaces := #[]
  cf := some (fileOf pool10 24 #[.nestMembers #[55, 131, 125, 114]] #[{ accessFlags := 1, nameIndex := 5, descriptorIndex := 6, attributes := #[] }, { accessFlags := 9, nameIndex := 33, descriptorIndex := 178, attributes := #[] }] 33 2 #[] #[{ accessFlags := 25, nameIndex := 123, descriptorIndex := 124, attributes := #[] }, { accessFlags := 25, nameIndex := 130, descriptorIndex := 124, attributes := #[] }, { accessFlags := 25, nameIndex := 136, descriptorIndex := 124, attributes := #[] }])
  fields := #[{ name := "SIOOBE_FORMATTER", type := (.object "java/util/function/BiFunction"), accessFlags := 25, slot := 0, constantValue := 0 }, { name := "AIOOBE_FORMATTER", type := (.object "java/util/function/BiFunction"), accessFlags := 25, slot := 1, constantValue := 0 }, { name := "IOOBE_FORMATTER", type := (.object "java/util/function/BiFunction"), accessFlags := 25, slot := 2, constantValue := 0 }]
  methods := #[k10m0, k10m1]
  instanceTypes := #[]
  staticTypes := #[(.object "java/util/function/BiFunction"), (.object "java/util/function/BiFunction"), (.object "java/util/function/BiFunction")]
  resolved := Array.replicate 194 none
  statics := some 1 }

def pool11 : Array CpInfo := pool [(9, u "<init>"), (6, .class_ 18), (1, u "java/lang/Object"), (0, u "()V"), (1, .class_ 23), (1, u "jdk/internal/util/ArraysSupport"), (0, u "LOG2_ARRAY_LONG_INDEX_SCALE"), (0, u "I"), (2, u "U"), (0, u "Ljdk/internal/misc/Unsafe;"), (8, u "BIG_ENDIAN"), (0, u "Z"), (8, u "LOG2_BYTE_BIT_SIZE"), (4, u "LOG2_ARRAY_INT_INDEX_SCALE"), (54, u "JLA"), (0, u "Ljdk/internal/access/JavaLangAccess;"), (11, u "LOG2_ARRAY_BOOLEAN_INDEX_SCALE"), (9, u "LOG2_ARRAY_BYTE_INDEX_SCALE"), (5, u "LOG2_ARRAY_CHAR_INDEX_SCALE"), (5, u "LOG2_ARRAY_SHORT_INDEX_SCALE"), (18, u "LOG2_ARRAY_FLOAT_INDEX_SCALE"), (24, u "LOG2_ARRAY_DOUBLE_INDEX_SCALE"), (89, u "T_BOOLEAN"), (2, u "T_CHAR"), (1, u "T_FLOAT"), (1, u "T_DOUBLE"), (1, u "T_BYTE"), (1, u "T_SHORT"), (1, u "T_INT"), (1, u "T_LONG"), (1, u "SOFT_MAX_ARRAY_LENGTH")] 83

def k11m0 : Method := { name := "<init>", desc := "()V", sig := { parameters := [], returnType := none }, accessFlags := 2, code := none }
def k11 : Class := { plain "jdk/internal/util/ArraysSupport" (some 0) with
  accessFlags := 33
  interfaces := #[]
  cf := some (fileOf pool11 21 #[] #[{ accessFlags := 2, nameIndex := 9, descriptorIndex := 19, attributes := #[] }] 33 16 #[] #[{ accessFlags := 24, nameIndex := 28, descriptorIndex := 29, attributes := #[] }, { accessFlags := 26, nameIndex := 38, descriptorIndex := 39, attributes := #[] }, { accessFlags := 25, nameIndex := 121, descriptorIndex := 25, attributes := #[] }, { accessFlags := 25, nameIndex := 131, descriptorIndex := 25, attributes := #[] }, { accessFlags := 25, nameIndex := 137, descriptorIndex := 25, attributes := #[] }, { accessFlags := 25, nameIndex := 143, descriptorIndex := 25, attributes := #[] }, { accessFlags := 25, nameIndex := 53, descriptorIndex := 25, attributes := #[] }, { accessFlags := 25, nameIndex := 24, descriptorIndex := 25, attributes := #[] }, { accessFlags := 25, nameIndex := 162, descriptorIndex := 25, attributes := #[] }, { accessFlags := 25, nameIndex := 187, descriptorIndex := 25, attributes := #[] }, { accessFlags := 26, nameIndex := 48, descriptorIndex := 25, attributes := #[] }, { accessFlags := 25, nameIndex := 277, descriptorIndex := 25, attributes := #[] }, { accessFlags := 25, nameIndex := 280, descriptorIndex := 25, attributes := #[] }, { accessFlags := 25, nameIndex := 282, descriptorIndex := 25, attributes := #[] }, { accessFlags := 25, nameIndex := 284, descriptorIndex := 25, attributes := #[] }, { accessFlags := 25, nameIndex := 286, descriptorIndex := 25, attributes := #[] }, { accessFlags := 25, nameIndex := 288, descriptorIndex := 25, attributes := #[] }, { accessFlags := 25, nameIndex := 290, descriptorIndex := 25, attributes := #[] }, { accessFlags := 25, nameIndex := 292, descriptorIndex := 25, attributes := #[] }, { accessFlags := 26, nameIndex := 108, descriptorIndex := 109, attributes := #[] }, { accessFlags := 25, nameIndex := 294, descriptorIndex := 25, attributes := #[] }])
  fields := #[{ name := "U", type := (.object "jdk/internal/misc/Unsafe"), accessFlags := 24, slot := 0, constantValue := 0 }, { name := "BIG_ENDIAN", type := .boolean, accessFlags := 26, slot := 1, constantValue := 0 }, { name := "LOG2_ARRAY_BOOLEAN_INDEX_SCALE", type := .int, accessFlags := 25, slot := 2, constantValue := 0 }, { name := "LOG2_ARRAY_BYTE_INDEX_SCALE", type := .int, accessFlags := 25, slot := 3, constantValue := 0 }, { name := "LOG2_ARRAY_CHAR_INDEX_SCALE", type := .int, accessFlags := 25, slot := 4, constantValue := 0 }, { name := "LOG2_ARRAY_SHORT_INDEX_SCALE", type := .int, accessFlags := 25, slot := 5, constantValue := 0 }, { name := "LOG2_ARRAY_INT_INDEX_SCALE", type := .int, accessFlags := 25, slot := 6, constantValue := 0 }, { name := "LOG2_ARRAY_LONG_INDEX_SCALE", type := .int, accessFlags := 25, slot := 7, constantValue := 0 }, { name := "LOG2_ARRAY_FLOAT_INDEX_SCALE", type := .int, accessFlags := 25, slot := 8, constantValue := 0 }, { name := "LOG2_ARRAY_DOUBLE_INDEX_SCALE", type := .int, accessFlags := 25, slot := 9, constantValue := 0 }, { name := "LOG2_BYTE_BIT_SIZE", type := .int, accessFlags := 26, slot := 10, constantValue := 0 }, { name := "T_BOOLEAN", type := .int, accessFlags := 25, slot := 11, constantValue := 0 }, { name := "T_CHAR", type := .int, accessFlags := 25, slot := 12, constantValue := 0 }, { name := "T_FLOAT", type := .int, accessFlags := 25, slot := 13, constantValue := 0 }, { name := "T_DOUBLE", type := .int, accessFlags := 25, slot := 14, constantValue := 0 }, { name := "T_BYTE", type := .int, accessFlags := 25, slot := 15, constantValue := 0 }, { name := "T_SHORT", type := .int, accessFlags := 25, slot := 16, constantValue := 0 }, { name := "T_INT", type := .int, accessFlags := 25, slot := 17, constantValue := 0 }, { name := "T_LONG", type := .int, accessFlags := 25, slot := 18, constantValue := 0 }, { name := "JLA", type := (.object "jdk/internal/access/JavaLangAccess"), accessFlags := 26, slot := 19, constantValue := 0 }, { name := "SOFT_MAX_ARRAY_LENGTH", type := .int, accessFlags := 25, slot := 20, constantValue := 0 }]
  methods := #[k11m0]
  instanceTypes := #[]
  staticTypes := #[(.object "jdk/internal/misc/Unsafe"), .boolean, .int, .int, .int, .int, .int, .int, .int, .int, .int, .int, .int, .int, .int, .int, .int, .int, .int, (.object "jdk/internal/access/JavaLangAccess"), .int]
  resolved := Array.replicate 378 none
  statics := none }

def pool12 : Array CpInfo := pool [(1, u "java/lang/Cloneable"), (0, .class_ 1), (0, u "java/lang/Object"), (0, .class_ 3)] 3

def k12 : Class := { plain "java/lang/Cloneable" (some 0) with
  accessFlags := 1537
  interfaces := #[]
  cf := some (fileOf pool12 2 #[] #[] 1537 4 #[] #[])
  fields := #[]
  methods := #[]
  instanceTypes := #[]
  staticTypes := #[]
  resolved := Array.replicate 8 none
  statics := none }

/-- the primitive byte -/
def k13 : Class := { plain "byte" none with kind := .primitive 'B', accessFlags := 0x411 }
/-- [B -/
def k14 : Class := { plain "[B" (some 0) with kind := .array 13 .byte, interfaces := #[12, 2], accessFlags := 1041 }

/-- the primitive int -/
def k15 : Class := { plain "int" none with kind := .primitive 'I', accessFlags := 0x411 }
/-- [I -/
def k16 : Class := { plain "[I" (some 0) with kind := .array 15 .int, interfaces := #[12, 2], accessFlags := 1041 }

def heap : Heap := #[{ cls := 7, slots := #[.long 0, .int 1, .null, .int 0, .null, .int 0, .int 0], vm := .statics 7 },
  { cls := 10, slots := #[.null, .null, .null], vm := .statics 10 }]
def classes : Array Class := #[k0, k1, k2, k3, k4, k5, k6, k7, k8, k9, k10, k11, k12, k13, k14, k15, k16]
def interned : List (Array UInt16 × Addr) := []
def slotsUsed : Nat := 10
def theMethod : MethodId := ⟨1, 1⟩
def args0 : Array Value := #[.int 65, .int 1]
def aboutOver (below : List Frame) : State where
  vm := { classes := classes, interned := interned.toArray }
  heap := heap
  slotsUsed := slotsUsed
  threads := #[{ frames := .invoking theMethod args0 :: below }]
def below0 : List Frame := [.native { method := ⟨0, 0⟩, args := #[] }]
def about1 : State := aboutOver below0
def p0 : Program := .bare "" "" ""
def e0 : Env := launch0.env 0 0 0
theorem w_frames : about1.frames = Frame.invoking theMethod args0 :: below0 := rfl
set_option maxRecDepth 65536 in
theorem w_args : argsFit about1.vm theMethod args0 = true := by decide +kernel
set_option maxRecDepth 65536 in
theorem w_heap : heapFits about1 = true := by decide +kernel
set_option maxRecDepth 65536 in
theorem w_runnable : about1.curStatus? = some .runnable := by decide +kernel
set_option maxRecDepth 65536 in
theorem w_alone : about1.alone = true := by decide +kernel
set_option maxRecDepth 65536 in
theorem w_named : about1.methodNamed? x = some theMethod := by decide +kernel
set_option maxRecDepth 65536 in
theorem w_hears : about1.hears theMethod below0 = true := by decide +kernel
set_option maxRecDepth 65536 in
theorem w_ripe : about1.ripe theMethod args0 below0 = true := by decide +kernel
theorem w_running : about1.status = .running := rfl
set_option maxRecDepth 65536 in
theorem w_room : about1.hasRoom e0.platform room_1 = true :=
  launch0.hasRoom_least _ room_1 (by decide +kernel) (by decide +kernel) (by decide +kernel) (by decide +kernel) (by decide +kernel) (by decide +kernel)
theorem allAtoms_all (ts : List Jvm.Cond) (a : Array Jvm.Value) (st : Jvm.State) : (allAtoms ts).before a st = ts.all (fun c => c.before a st) := by
  induction ts with
  | nil => rfl
  | cons c t ih =>
    show (Jvm.Cond.and c (allAtoms t)).before a st = _
    rw [Jvm.Cond.before_and, ih, List.all_cons]
def words1 : List Jvm.Cond := Jvm.Cond.code x code maxLocals ret :: tables_1
/-- a 'code' word, met by the world's own term for the bytes: nothing is compared byte by byte -/
theorem code_word {y : MethodName} {bytes : ByteArray} {mx : Nat} {rt : Option FieldType} {a : Array Value} {s : State} {m : MethodId} {meth : Method} {c : Code} (h1 : s.methodNamed? y = some m) (h2 : s.vm.method? m = some meth) (h3 : meth.code = some c) (h4 : c.code = bytes)
    (h5 : (c.maxLocals == mx && c.exceptionTable.isEmpty && decide (c.maxStack ≤ mostOperands) && decide (meth.sig.returnType = rt) && !meth.locks && decide (parseMethodDescriptor y.desc = some meth.sig)) = true) : (Jvm.Cond.code y bytes mx rt).before a s = true := by
  simp only [Bool.and_eq_true, beq_iff_eq, Bool.not_eq_true', decide_eq_true_eq] at h5
  obtain ⟨⟨⟨⟨⟨g1, g2⟩, g3⟩, g4⟩, g5⟩, g6⟩ := h5
  simp [Cond.before, Cond.holds, Cond.value, h1, h2, h3, h4, g1, g2, g3, g4, g5, g6]
def isCode : Jvm.Cond → Bool
  | .code _ _ _ _ => true
  | _ => false
theorem all_split {L : List Jvm.Cond} {P : Jvm.Cond → Bool} (h1 : L.all (fun c => isCode c || P c) = true) (h2 : ∀ c ∈ L.filter isCode, P c = true) : L.all P = true := by
  refine List.all_eq_true.mpr fun c hc => ?_
  have h := List.all_eq_true.mp h1 c hc
  rcases Bool.eq_false_or_eq_true (isCode c) with hi | hi
  · exact h2 c (List.mem_filter.mpr ⟨hc, hi⟩)
  · simpa [hi] using h
set_option maxRecDepth 65536 in
theorem w_c0 : (Jvm.Cond.code x code maxLocals ret).before args0 about1 = true := code_word (m := ⟨1, 1⟩) (meth := k1m1) (c := k1c1) (by decide +kernel) rfl rfl rfl (by decide +kernel)
set_option maxRecDepth 65536 in
theorem w_c1 : (Jvm.Cond.code ({ cls := site_7.cls, name := "hexValue", desc := "(I)I" } : Jvm.MethodName) prog_70_method_40_code (1 : Nat) (Option.some Jvm.ClassFile.FieldType.int)).before args0 about1 = true := code_word (m := ⟨8, 0⟩) (meth := k8m0) (c := k8c0) (by decide +kernel) rfl rfl rfl (by decide +kernel)
set_option maxRecDepth 65536 in
theorem w_c2 : (Jvm.Cond.code ({ cls := "java/lang/String", name := "charAt", desc := "(I)C" } : Jvm.MethodName) jdk_42_method_56_code (2 : Nat) (Option.some Jvm.ClassFile.FieldType.char)).before args0 about1 = true := code_word (m := ⟨7, 1⟩) (meth := k7m1) (c := k7c1) (by decide +kernel) rfl rfl rfl (by decide +kernel)
set_option maxRecDepth 65536 in
theorem w_c3 : (Jvm.Cond.code ({ cls := "java/lang/String", name := "isLatin1", desc := "()Z" } : Jvm.MethodName) jdk_42_method_154_code (1 : Nat) (Option.some Jvm.ClassFile.FieldType.boolean)).before args0 about1 = true := code_word (m := ⟨7, 2⟩) (meth := k7m2) (c := k7c2) (by decide +kernel) rfl rfl rfl (by decide +kernel)
set_option maxRecDepth 65536 in
theorem w_c4 : (Jvm.Cond.code ({ cls := "java/lang/StringLatin1", name := "charAt", desc := "([BI)C" } : Jvm.MethodName) jdk_43_method_2_code (2 : Nat) (Option.some Jvm.ClassFile.FieldType.char)).before args0 about1 = true := code_word (m := ⟨9, 1⟩) (meth := k9m1) (c := k9c1) (by decide +kernel) rfl rfl rfl (by decide +kernel)
set_option maxRecDepth 65536 in
theorem w_c5 : (Jvm.Cond.code ({ cls := "java/lang/String", name := "checkIndex", desc := "(II)V" } : Jvm.MethodName) jdk_42_method_155_code (2 : Nat) (Option.none : Option Jvm.ClassFile.FieldType)).before args0 about1 = true := code_word (m := ⟨7, 3⟩) (meth := k7m3) (c := k7c3) (by decide +kernel) rfl rfl rfl (by decide +kernel)
set_option maxRecDepth 65536 in
theorem w_c6 : (Jvm.Cond.code ({ cls := "jdk/internal/util/Preconditions", name := "checkIndex", desc := "(IILjava/util/function/BiFunction;)I" } : Jvm.MethodName) jdk_41_method_11_code (3 : Nat) (Option.some Jvm.ClassFile.FieldType.int)).before args0 about1 = true := code_word (m := ⟨10, 1⟩) (meth := k10m1) (c := k10c1) (by decide +kernel) rfl rfl rfl (by decide +kernel)
def codes1 : List Jvm.Cond := [Jvm.Cond.code x code maxLocals ret, Jvm.Cond.code ({ cls := site_7.cls, name := "hexValue", desc := "(I)I" } : Jvm.MethodName) prog_70_method_40_code (1 : Nat) (Option.some Jvm.ClassFile.FieldType.int), Jvm.Cond.code ({ cls := "java/lang/String", name := "charAt", desc := "(I)C" } : Jvm.MethodName) jdk_42_method_56_code (2 : Nat) (Option.some Jvm.ClassFile.FieldType.char), Jvm.Cond.code ({ cls := "java/lang/String", name := "isLatin1", desc := "()Z" } : Jvm.MethodName) jdk_42_method_154_code (1 : Nat) (Option.some Jvm.ClassFile.FieldType.boolean), Jvm.Cond.code ({ cls := "java/lang/StringLatin1", name := "charAt", desc := "([BI)C" } : Jvm.MethodName) jdk_43_method_2_code (2 : Nat) (Option.some Jvm.ClassFile.FieldType.char), Jvm.Cond.code ({ cls := "java/lang/String", name := "checkIndex", desc := "(II)V" } : Jvm.MethodName) jdk_42_method_155_code (2 : Nat) (Option.none : Option Jvm.ClassFile.FieldType), Jvm.Cond.code ({ cls := "jdk/internal/util/Preconditions", name := "checkIndex", desc := "(IILjava/util/function/BiFunction;)I" } : Jvm.MethodName) jdk_41_method_11_code (3 : Nat) (Option.some Jvm.ClassFile.FieldType.int)]
set_option maxRecDepth 65536 in
theorem codes_eq : words1.filter isCode = codes1 := rfl
theorem w_codes : ∀ c ∈ words1.filter isCode, c.before args0 about1 = true := by
  rw [codes_eq]
  intro c hc
  simp only [codes1, List.mem_cons, List.not_mem_nil, or_false] at hc
  rcases hc with rfl | rfl | rfl | rfl | rfl | rfl | rfl
  · exact w_c0
  · exact w_c1
  · exact w_c2
  · exact w_c3
  · exact w_c4
  · exact w_c5
  · exact w_c6
set_option maxRecDepth 65536 in
theorem w_t1 : (words1.take 24).all (fun c => isCode c || c.before args0 about1) = true := by decide +kernel
set_option maxRecDepth 65536 in
theorem w_t2 : (words1.drop 24).all (fun c => isCode c || c.before args0 about1) = true := by decide +kernel
theorem w_tables : (allAtoms (Jvm.Cond.code x code maxLocals ret :: tables_1)).before args0 about1 = true := by
  rw [allAtoms_all]
  show words1.all (fun c => c.before args0 about1) = true
  refine all_split ?_ w_codes
  rw [← List.take_append_drop 24 words1, List.all_append, w_t1, w_t2]
  rfl
set_option maxRecDepth 65536 in
theorem w_rest : rest_1_c.before args0 about1 = true := by decide +kernel
set_option maxRecDepth 65536 in
theorem w_case : (Jvm.Cond.and given_1 narrow_1).before args0 about1 = true := by decide +kernel
set_option maxRecDepth 65536 in
theorem w_consts : constsHeld consts_1 about1 := Jvm.Lit.constsHeldB_iff.mp (by decide +kernel)
theorem w_applies : (headSpec (Jvm.Cond.code x code maxLocals ret :: tables_1) room_1).applies x e0.platform about1 = true :=
  (Spec.applies_iff w_frames).mpr ⟨w_running, w_runnable, w_alone, w_named, w_hears, w_ripe, w_room, w_tables⟩
theorem atStart : AtStart classFile x code maxLocals ret World_1 tables_1 room_1 Calls_1 rest_1 Pre_1 launch0 p0 e0 about1 theMethod args0 below0 :=
  ⟨lists_1, trivial, launch0.admits_env _ _ _, launch0.least_env, fairChoices_fair.cas, fairChoices_fair.clock, w_frames, w_args, w_heap, w_applies, ⟨w_consts, trivial⟩, w_rest, w_case⟩
end start1
theorem witness_1 : WitnessClaimed_1 := ⟨start1.p0, start1.e0, start1.about1, start1.theMethod, start1.args0, start1.below0, start1.atStart⟩
end Jvm.Pilot.@@N@@
