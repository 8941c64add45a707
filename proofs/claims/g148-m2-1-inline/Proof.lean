import JvmDerived
import JvmDerived.Pilot.@@N@@Statement
import JvmDerived.Pilot.@@N@@Code
set_option linter.unusedVariables false
set_option linter.unusedSimpArgs false
@@BLOCK:TracedD.lean.txt@@
namespace Jvm.RoadKit
open Sem ClassFile Op Lib Jvm.Stand Jvm.Free Jvm.LawKit
section New
variable {p : Program} {l : Launch} {e : Env} {R : Room} {s : State} {m : MethodId} {args : Array Value} {below : List Frame} {meth : Method} {c : Code} {T : State} {locs : List Loc} {cells slots : Nat}
theorem retI (X : Stand p l e R s m args below meth c T locs cells slots) (hx : p.tables.exec = Jvm.exec) {pc : Nat} {Ls : Array Slot} {z : Int32} {rest : List Value} (hret : meth.sig.returnType = some .int) (hd : decode c.code pc = .ok (.ireturn, 1)) {fs : List Frame}
    (hl : ∀ (f : JFrame) (acts : List Action), f.method = m → f.locked = none → f.entered = [] → (doReturn e (T.setTop f) acts (some (.int z))).1 = T.setFrames fs) : Steps p.tables e below (T.setTop (mkF m pc Ls (.int z :: rest))) (T.setFrames fs) := by
  have hm' : T.vm.method? m = some meth := X.method'
  have hn : narrow .int (.int z) = .int z := rfl
  show Steps p.tables e below (T.setTop { method := m, pc := pc, locals := Ls, stack := _ :: rest, locked := none }) _
  jvm_step X.here [X.here.top, hx, hd, hm', hret, hn]
  first | (intro acts; rw [hl _ acts rfl rfl rfl]) | rw [hl _ _ rfl rfl rfl]
  exact Steps.refl _
theorem retR (X : Stand p l e R s m args below meth c T locs cells slots) (hx : p.tables.exec = Jvm.exec) {pc : Nat} {Ls : Array Slot} {w : Value} {t : FieldType} {rest : List Value} (hret : meth.sig.returnType = some t) (hn : narrow t w = w) (ht : t.isReference = true) (hw : w.isRef = true) (hd : decode c.code pc = .ok (.areturn, 1)) {fs : List Frame}
    (hl : ∀ (f : JFrame) (acts : List Action), f.method = m → f.locked = none → f.entered = [] → (doReturn e (T.setTop f) acts (some w)).1 = T.setFrames fs) : Steps p.tables e below (T.setTop (mkF m pc Ls (w :: rest))) (T.setFrames fs) := by
  have hm' : T.vm.method? m = some meth := X.method'
  show Steps p.tables e below (T.setTop { method := m, pc := pc, locals := Ls, stack := _ :: rest, locked := none }) _
  jvm_step X.here [X.here.top, hx, hd, hm', hret, hn, hw]
  try (refine ⟨ht, ?_⟩)
  first | (intro acts; rw [hl _ acts rfl rfl rfl]) | rw [hl _ _ rfl rfl rfl]
  exact Steps.refl _
end New
end Jvm.RoadKit
/- laws to paste: Road.lenW, Road.eqW, StrChars.pair_says, StrChars.lo8_mask, StrChars.shr1, StrChars.shr0, StrChars.narrow_ch, Road.wide_lo, Road.wide_hi (cut by pick.py; bodies as the Statement names them) -/
namespace Jvm.Pilot.@@N@@
namespace StrChars
open Jvm Sem ClassFile Op Lib Jvm.Stand Jvm.Free.XT Jvm.Free.ALB Jvm.Free.JM Jvm.Free
open Jvm.Lib.Cold (StaticIs)
/-- the byte that i2b leaves of a char -/
def lo8 (x : Int32) : Int32 := x.toInt8.toInt32
theorem fits_lo8 (y : Int32) : fits .byte (.int (lo8 y)) = true := by
  have h1 := y.toInt8.le_toInt
  have h2 := y.toInt8.toInt_lt
  simp only [lo8, fits, Bool.and_eq_true, decide_eq_true_eq, Int32.le_iff_toInt_le, Int8.toInt_toInt32, show (-128 : Int32).toInt = -128 from by decide, show (127 : Int32).toInt = 127 from by decide]
  omega
def U16 : String := "java/lang/StringUTF16"
namespace Cmp5
def yN : MethodName := ⟨"java/lang/StringUTF16", "compress", "([CI[BII)I"⟩
abbrev yB : ByteArray := jdk_52_method_21_code
end Cmp5
namespace Cmp3
def yN : MethodName := ⟨"java/lang/StringUTF16", "compress", "([CII)[B"⟩
abbrev yB : ByteArray := jdk_52_method_16_code
end Cmp3
namespace CodL
def yN : MethodName := ⟨"java/lang/StringUTF16", "coderFromArrayLen", "([BI)B"⟩
abbrev yB : ByteArray := jdk_52_method_15_code
end CodL
namespace New4
def yN : MethodName := ⟨"java/lang/String", "<init>", "([CIILjava/lang/Void;)V"⟩
abbrev yB : ByteArray := jdk_42_method_149_code
end New4
namespace New1
def yN : MethodName := ⟨"java/lang/String", "<init>", "([C)V"⟩
abbrev yB : ByteArray := jdk_42_method_3_code
end New1
/-- the byte, read back as charAt reads it, is the char -/
theorem lo8_mask {x : Int32} (h0 : ¬ x < 0) (h1 : ¬ 255 < x) : lo8 x &&& 255 = x := by
  have t : ∀ k : Fin 256, lo8 (Int32.ofNat k.val) &&& 255 = Int32.ofNat k.val := by decide +kernel
  rw [Int32.lt_iff_toInt_lt] at h0 h1
  have e0 : (0 : Int32).toInt = 0 := rfl
  have e1 : (255 : Int32).toInt = 255 := rfl
  obtain ⟨k, hk⟩ : ∃ k : Nat, x.toInt = k := ⟨x.toInt.toNat, by omega⟩
  have hx : x = Int32.ofNat k := Int32.toInt_inj.mp (by rw [hk, Int32.toInt_ofNat_small (by omega)])
  rw [hx]
  exact t ⟨k, by omega⟩
end StrChars
namespace StrChars.Road
open Jvm Sem ClassFile Op Lib Jvm.Stand Jvm.Free Jvm.Free.XT
open Jvm.Lib.Cold (StaticIs)
abbrev ST : String := "java/lang/String"
/-- every table word that New1's law asks, flat -/
abbrev words : List Jvm.Cond := [.code New1.yN New1.yB 2 none, .initialized ST, .methodLink ST 27 New4.yN, .instanceMethod New4.yN,
  .code New4.yN New4.yB 6 none, .fieldLink ST 38 ST "COMPACT_STRINGS" "Z", .laysFinal ST ST "value" "[B", .fieldLink ST 9 ST "value" "[B", .laysFinal ST ST "coder" "B", .fieldLink ST 15 ST "coder" "B",
  .methodLink ST 1 Lib.objectInit, .instanceMethod Lib.objectInit, .code Lib.objectInit ⟨#[0xb1]⟩ 1 none, .methodLink ST 177 Cmp3.yN, .static Cmp3.yN, .methodLink ST 47 CodL.yN, .static CodL.yN,
  .code Cmp3.yN Cmp3.yB 6 (some (.array .byte)), .initialized U16, .arrayClass .byte, .methodLink U16 115 Cmp5.yN, .static Cmp5.yN, .code Cmp5.yN Cmp5.yB 7 (some .int), .code CodL.yN CodL.yB 2 (some .byte)]
end StrChars.Road
namespace StrChars
open Jvm Sem ClassFile Op Lib Jvm.Stand Jvm.Free.XT Jvm.Free.ALB Jvm.Free.JM Jvm.Free
open Jvm.Lib.Cold (StaticIs)
def hi8 (x : Int32) : Int32 := lo8 (x >>> ((8 : Int32) &&& 31))
/-- what StringUTF16.getChar makes of two bytes -/
def pairCh (u v : Int32) : Int32 := (((u &&& 255) <<< ((0 : Int32) &&& 31)) ||| ((v &&& 255) <<< ((8 : Int32) &&& 31))).toUInt32.toUInt16.toUInt32.toInt32
theorem shr0 (c : Int32) : c >>> ((0 : Int32) &&& 31) = c := by
  have e : ((0 : Int32) &&& 31) = 0 := by decide
  rw [e]
  apply Int32.toBitVec_inj.mp
  rw [Int32.toBitVec_shiftRight]
  have e1 : ((0 : Int32).toBitVec.smod 32) = 0#32 := by decide
  rw [e1, BitVec.sshiftRight_eq']
  exact BitVec.sshiftRight_zero
theorem lo8_and (x : Int32) : (lo8 x &&& 255).toBitVec.toNat = x.toBitVec.toNat % 256 := by
  have h : (lo8 x).toBitVec = (x.toBitVec.signExtend 8).signExtend 32 := by rw [lo8, Int8.toBitVec_toInt32, Int32.toBitVec_toInt8]
  rw [Int32.toBitVec_and, BitVec.toNat_and, h]
  have e : ((x.toBitVec.signExtend 8).signExtend 32).toNat % 256 = x.toBitVec.toNat % 256 := by
    rw [BitVec.toNat_signExtend]
    have hlt := x.toBitVec.isLt
    simp only [BitVec.toNat_setWidth, BitVec.toNat_signExtend]
    split <;> split <;> omega
  rw [← e]
  exact Nat.and_two_pow_sub_one_eq_mod _ 8
theorem pair_says {c : Int32} (h0 : ¬ c < 0) (h1 : ¬ 65535 < c) : pairCh (lo8 c) (hi8 c) = c := by
  rw [Int32.lt_iff_toInt_lt] at h0 h1
  have e0 : (0 : Int32).toInt = 0 := rfl
  have e1 : (65535 : Int32).toInt = 65535 := rfl
  have hc : c.toInt = c.toBitVec.toNat := by
    have := c.toBitVec.isLt
    have e : c.toInt = c.toBitVec.toInt := rfl
    rw [e] at h0 h1
    rw [e]
    rw [BitVec.toInt_eq_toNat_cond] at h0 h1 ⊢
    split at h0 <;> split <;> omega
  have hn : c.toBitVec.toNat < 65536 := by omega
  have a1 := lo8_and c
  have a2 : (hi8 c &&& 255).toBitVec.toNat = c.toBitVec.toNat / 256 := by
    rw [hi8, lo8_and]
    have e : ((8 : Int32) &&& 31) = 8 := by decide
    rw [e, Int32.toBitVec_shiftRight]
    have e2 : ((8 : Int32).toBitVec.smod 32) = 8#32 := by decide
    rw [e2, BitVec.sshiftRight_eq', BitVec.toNat_sshiftRight_of_msb_false (by rw [BitVec.msb_eq_false_iff_two_mul_lt]; omega)]
    show c.toBitVec.toNat >>> 8 % 256 = _
    rw [Nat.shiftRight_eq_div_pow]
    omega
  unfold pairCh
  apply Int32.toBitVec_inj.mp
  apply BitVec.eq_of_toNat_eq
  have f0 : ((0 : Int32) &&& 31) = 0 := by decide
  have f8 : ((8 : Int32) &&& 31) = 8 := by decide
  rw [f0, f8]
  have g : (((lo8 c &&& 255) <<< (0 : Int32)) ||| ((hi8 c &&& 255) <<< (8 : Int32))).toBitVec.toNat = c.toBitVec.toNat := by
    rw [Int32.toBitVec_or, Int32.toBitVec_shiftLeft, Int32.toBitVec_shiftLeft]
    have s0 : ((0 : Int32).toBitVec.smod 32) = 0#32 := by decide
    have s8 : ((8 : Int32).toBitVec.smod 32) = 8#32 := by decide
    rw [s0, s8, BitVec.toNat_or]
    simp only [BitVec.shiftLeft_eq', BitVec.toNat_shiftLeft, a1, a2]
    show (c.toBitVec.toNat % 256) <<< 0 % 2 ^ 32 ||| (c.toBitVec.toNat / 256) <<< 8 % 2 ^ 32 = _
    rw [Nat.shiftLeft_zero, Nat.mod_eq_of_lt (show c.toBitVec.toNat % 256 < 2 ^ 32 by omega), Nat.mod_eq_of_lt (show (c.toBitVec.toNat / 256) <<< 8 < 2 ^ 32 by rw [Nat.shiftLeft_eq]; omega), Nat.or_comm, ← Nat.shiftLeft_add_eq_or_of_lt (by omega), Nat.shiftLeft_eq]
    omega
  show BitVec.toNat (((((lo8 c &&& 255) <<< (0 : Int32)) ||| ((hi8 c &&& 255) <<< (8 : Int32))).toBitVec.setWidth 16).setWidth 32) = _
  rw [BitVec.toNat_setWidth, BitVec.toNat_setWidth, g]
  omega
end StrChars
namespace StrChars
open Jvm Sem ClassFile Op Lib Jvm.Stand Jvm.Free.XT Jvm.Free.ALB Jvm.Free.JM Jvm.Free
open Jvm.Lib.Cold (StaticIs)
theorem shr1 {n : Nat} (h : 2 * n < 2 ^ 31) : Int32.ofNat (2 * n) >>> ((1 : Int32) &&& 31) = Int32.ofNat n := by
  have e : ((1 : Int32) &&& 31) = 1 := by decide
  rw [e]
  apply Int32.toBitVec_inj.mp
  rw [Int32.toBitVec_shiftRight]
  have e1 : ((1 : Int32).toBitVec.smod 32) = 1#32 := by decide
  have hm : (BitVec.ofNat 32 (2 * n)).toNat = 2 * n := by rw [BitVec.toNat_ofNat, Nat.mod_eq_of_lt (by omega)]
  rw [e1, BitVec.sshiftRight_eq']
  apply BitVec.eq_of_toNat_eq
  show ((BitVec.ofNat 32 (2 * n)).sshiftRight 1).toNat = (BitVec.ofNat 32 n).toNat
  rw [BitVec.toNat_sshiftRight_of_msb_false (by rw [BitVec.msb_eq_false_iff_two_mul_lt, hm]; omega), hm, BitVec.toNat_ofNat, Nat.shiftRight_eq_div_pow]
  omega
theorem narrow_ch {c : Int32} (h0 : ¬ c < 0) (h1 : ¬ 65535 < c) : narrow .char (.int c) = .int c := by
  have q : narrow .char (.int (pairCh (lo8 c) (hi8 c))) = .int (pairCh (lo8 c) (hi8 c)) := narrow_c _
  rwa [pair_says h0 h1] at q
/-- the array's cell V codes the n chars f 0 .. f (n - 1) by the coder cd, as the JDK does: coder 1 just where some char is above 255 -/
def Cod (cd : Int32) (n : Nat) (f : Nat → Int32) (V : Cell) : Prop := (cd = 0 ∧ V.slots.size = n ∧ ∀ j, j < n → V.slots[j]? = some (.int (lo8 (f j))) ∧ ¬ 255 < f j) ∨ (cd = 1 ∧ V.slots.size = 2 * n ∧ (∀ j, j < n → V.slots[2 * j]? = some (.int (lo8 (f j))) ∧ V.slots[2 * j + 1]? = some (.int (hi8 (f j)))) ∧ ∃ j, j < n ∧ 255 < f j)
theorem Cod.cd {cd : Int32} {n : Nat} {f : Nat → Int32} {V : Cell} (h : Cod cd n f V) : cd = 0 ∨ cd = 1 := h.imp (fun q => q.1) fun q => q.1
theorem Cod.len {cd : Int32} {n : Nat} {f : Nat → Int32} {V : Cell} (h : Cod cd n f V) (hs : V.slots.size < 2 ^ 31) : Int32.ofNat V.slots.size >>> (cd &&& 31) = Int32.ofNat n := by
  rcases h with ⟨rfl, h, -⟩ | ⟨rfl, h, -⟩
  · rw [shr0, h]
  · rw [h, shr1 (by omega)]
/-- **x is a String of the n chars f 0 .. f (n - 1)**, Latin-1 or UTF-16; its array at t has the cell V -/
def Txt (x t : Addr) (V : Cell) (cd : Int32) (n : Nat) (f : Nat → Int32) (U : State) : Prop := Exact "java/lang/String" x U ∧ Has x "java/lang/String" "value" "[B" (.ref t) U ∧ Has x "java/lang/String" "coder" "B" (.int cd) U ∧ XT.Arr .byte t V U ∧ Cod cd n f V ∧ ∀ j, j < n → ¬ f j < 0 ∧ ¬ 65535 < f j
theorem Txt.mv {x t : Addr} {V : Cell} {cd : Int32} {n : Nat} {f : Nat → Int32} {U U' : State} (h : Txt x t V cd n f U) (hal : U.vm.Alike U'.vm) (hh : U'.heap = U.heap) : Txt x t V cd n f U' := ⟨h.1.mv hal hh, h.2.1.mv hal hh, h.2.2.1.mv hal hh, h.2.2.2.1.mv hal hh, h.2.2.2.2⟩
namespace Cdr
def yN : MethodName := ⟨"java/lang/String", "coder", "()B"⟩
abbrev yB : ByteArray := jdk_42_method_152_code
theorem d0 : decode yB 0 = .ok (.getstatic 38, 3) := by decide +kernel
theorem d3 : decode yB 3 = .ok (.ifCond (.eq) 10, 3) := by decide +kernel
theorem d6 : decode yB 6 = .ok (.aload_n 0, 1) := by decide +kernel
theorem d7 : decode yB 7 = .ok (.getfield 15, 3) := by decide +kernel
theorem d10 : decode yB 10 = .ok (.goto 4, 3) := by decide +kernel
theorem d14 : decode yB 14 = .ok (.ireturn, 1) := by decide +kernel
def site : List Cond := [.fieldLink "java/lang/String" 38 "java/lang/String" "COMPACT_STRINGS" "Z", .fieldLink "java/lang/String" 15 "java/lang/String" "coder" "B"]
def tab : Cond := tabOf yN yB 1 (some .byte) site
def P (x : Addr) (cd z : Int32) (args : Array Value) (s : State) : Prop := args = #[.ref x] ∧ Has x "java/lang/String" "coder" "B" (.int cd) s ∧ (cd = 0 ∨ cd = 1) ∧ StaticIs s "java/lang/String" "COMPACT_STRINGS" "Z" (.int z) ∧ ¬ z = 0
def E (cd : Int32) (r : Option Value) (s u : State) : Prop := XT.PureE (some (.int cd)) r s u
theorem law (l : Launch) (x : Addr) (cd z : Int32) : Law l yN 1 0 0 0 yB 1 (some .byte) site (P x cd z) (E cd) [] 0 0 := by
  refine Law.of_walk (plainFor_of_name (by decide +kernel)) (by decide +kernel) (by decide +kernel) (by decide) (fun _ _ h => by rw [h.1]; rfl) (fun _ U U' hal hh h => ⟨h.1, h.2.1.mv hal hh, h.2.2.1, h.2.2.2.1.there hal hh, h.2.2.2.2⟩) (fun r U U' V V' h1 hal h2 h => XT.PureE.mv r U U' V V' h1 hal h2 h) ?_
  intro p e s m args below meth c s₁ X0 hexec hbytes hml hret hlk hnm hown hh0 W hP
  obtain ⟨rfl, hx, hc, s1, hz⟩ := hP
  have c1 : Steps p.tables e below (s₁.setTop (entryFrame m #[.ref x] 1)) (s₁.setTop (mkF m 0 #[.val (.ref x)] [])) := entry rfl
  obtain ⟨T2, X2, q2, st2⟩ := X0.sget hexec hown (wk W (.fieldLink "java/lang/String" 38 "java/lang/String" "COMPACT_STRINGS" "Z")) s1 (fun _ _ h => by rw [hh0]; exact h) (g := (mkF m 0 #[.val (.ref x)] [])) rfl (hb hbytes d0)
  have hh2 := q2.trans hh0
  have c3 : Steps p.tables e below (s₁.setTop (entryFrame m #[.ref x] 1)) (T2.setTop (mkF m 7 #[.val (.ref x)] [.ref x])) := (c1.trans (st2 _ (Steps.refl _))).trans (by
    refine XS.ifNo X2.here hexec rfl (hb hbytes d3) rfl (i0_eq_f hz) ?_
    refine XS.aloadN X2.here hexec rfl (hb hbytes d6) rfl rfl ?_
    exact Steps.refl _)
  obtain ⟨T4, X4, q4, st4⟩ := X2.hget hexec hown (wk W (.fieldLink "java/lang/String" 15 "java/lang/String" "coder" "B")) (hx.mv X2.warmed.alike hh2) (g := (mkF m 7 #[.val (.ref x)] [.ref x])) rfl (rest := []) rfl (hb hbytes d7)
  have c5 : Steps p.tables e below (s₁.setTop (entryFrame m #[.ref x] 1)) (T4.setTop (mkF m 14 #[.val (.ref x)] [.int cd])) := (c3.trans (st4 _ (Steps.refl _))).trans (by
    refine XS.goto X4.here hexec rfl (pc0 := 10) rfl (hb hbytes d10) (by decide) rfl ?_
    exact Steps.refl _)
  exact ⟨T4, some (.int cd), _, _, _, X4, rfl, rfl, rfl, (fun h => by cases h), ⟨rfl, q4.trans hh2⟩, fun fs hl => c5.trans (X4.ireturnOut hexec hret (by rcases hc with rfl | rfl <;> rfl) (Or.inr (Or.inr (Or.inl rfl))) (hb hbytes d14) hl)⟩
end Cdr
namespace Len
def yN : MethodName := ⟨"java/lang/String", "length", "()I"⟩
abbrev yB : ByteArray := jdk_42_method_54_code
theorem d0 : decode yB 0 = .ok (.aload_n 0, 1) := by decide +kernel
theorem d1 : decode yB 1 = .ok (.getfield 9, 3) := by decide +kernel
theorem d4 : decode yB 4 = .ok (.arraylength, 1) := by decide +kernel
theorem d5 : decode yB 5 = .ok (.aload_n 0, 1) := by decide +kernel
theorem d6 : decode yB 6 = .ok (.invokevirtual 335, 3) := by decide +kernel
theorem d9 : decode yB 9 = .ok (.ishr, 1) := by decide +kernel
theorem d10 : decode yB 10 = .ok (.ireturn, 1) := by decide +kernel
def site : List Cond := [.fieldLink "java/lang/String" 9 "java/lang/String" "value" "[B", Cdr.tab] ++ virtW "java/lang/String" 335 "java/lang/String" Cdr.yN Cdr.yN
def tab : Cond := tabOf yN yB 1 (some .int) site
def P (x t : Addr) (V : Cell) (cd : Int32) (n : Nat) (f : Nat → Int32) (z : Int32) (args : Array Value) (s : State) : Prop := args = #[.ref x] ∧ Txt x t V cd n f s ∧ StaticIs s "java/lang/String" "COMPACT_STRINGS" "Z" (.int z) ∧ ¬ z = 0
def E (n : Nat) (r : Option Value) (s u : State) : Prop := XT.PureE (some (.int (Int32.ofNat n))) r s u
/-- length() of a String of n chars, in either coding -/
theorem law (l : Launch) (x t : Addr) (V : Cell) (cd : Int32) (n : Nat) (f : Nat → Int32) (z : Int32) : Law l yN 1 0 1 13 yB 1 (some .int) site (P x t V cd n f z) (E n) [] 0 0 := by
  refine Law.of_walk (plainFor_of_name (by decide +kernel)) (by decide +kernel) (by decide +kernel) (by decide) (fun _ _ h => by rw [h.1]; rfl) (fun _ U U' hal hh h => ⟨h.1, h.2.1.mv hal hh, h.2.2.1.there hal hh, h.2.2.2⟩) (fun r U U' V V' h1 hal h2 h => XT.PureE.mv r U U' V V' h1 hal h2 h) ?_
  intro p e s m args below meth c s₁ X0 hexec hbytes hml hret hlk hnm hown hh0 W hP
  obtain ⟨rfl, hx, s1, hz⟩ := hP
  have v31 := hx.2.2.2.1.2.2.2
  have c1 : Steps p.tables e below (s₁.setTop (entryFrame m #[.ref x] 1)) (s₁.setTop (mkF m 1 #[.val (.ref x)] [.ref x])) := Steps.trans (entry rfl) (by
    show Steps p.tables e below (s₁.setTop (mkF m 0 #[.val (.ref x)] [])) _
    refine XS.aloadN X0.here hexec rfl (hb hbytes d0) rfl rfl ?_
    exact Steps.refl _)
  obtain ⟨T2, X2, q2, st2⟩ := X0.hget hexec hown (wk W (.fieldLink "java/lang/String" 9 "java/lang/String" "value" "[B")) (hx.mv X0.warmed.alike hh0).2.1 (g := (mkF m 1 #[.val (.ref x)] [.ref x])) rfl (rest := []) rfl (hb hbytes d1)
  have hh2 := q2.trans hh0
  have hx2 := hx.mv X2.warmed.alike hh2
  have c3 : Steps p.tables e below (s₁.setTop (entryFrame m #[.ref x] 1)) (T2.setTop (mkF m 6 #[.val (.ref x)] [.ref x, .int (Int32.ofNat V.slots.size)])) := (c1.trans (st2 _ (Steps.refl _))).trans (by
    refine X2.alen hexec hx2.2.2.2.1 rfl rfl (hb hbytes d4) ?_
    refine XS.aloadN X2.here hexec rfl (hb hbytes d5) rfl rfl ?_
    exact Steps.refl _)
  obtain ⟨v4, T4, X4, E4, g4⟩ := X2.callV hexec (Cdr.law l x cd z) hown (wks W (virtW "java/lang/String" 335 "java/lang/String" Cdr.yN Cdr.yN)) rfl (by decide) (wk W Cdr.tab) (W := 1) (Nat.le_of_ble_eq_true rfl) (Nat.le_of_ble_eq_true rfl) (Nat.le_refl _) (Nat.le_refl _) (hx2.1.fc X2.warmed.alike) hx2.1.is (g := (mkF m 6 #[.val (.ref x)] [.ref x, .int (Int32.ofNat V.slots.size)])) rfl (by rw [hml]; rfl) c3 (argsL := []) (rest := [.int (Int32.ofNat V.slots.size)]) rfl rfl (by show 2 * 0 + (1 + 0) ≤ _; decide) (hb hbytes d6) (⟨rfl, hx2.2.2.1, hx.2.2.2.2.1.cd, s1.there X2.warmed.alike hh2, hz⟩)
  obtain ⟨rfl, q4⟩ := E4
  have c5 : Steps p.tables e below (s₁.setTop (entryFrame m #[.ref x] 1)) (T4.setTop (mkF m 10 #[.val (.ref x)] [.int (Int32.ofNat V.slots.size >>> (cd &&& 31))])) := Steps.trans g4 (by
    refine ishr X4.here hexec rfl (hb hbytes d9) rfl ?_
    exact Steps.refl _)
  rw [hx.2.2.2.2.1.len v31] at c5
  exact ⟨T4, some (.int (Int32.ofNat n)), _, _, _, X4, rfl, rfl, rfl, (fun h => by cases h), ⟨rfl, q4.trans hh2⟩, fun fs hl => c5.trans (X4.ireturnOut hexec hret rfl (Or.inl rfl) (hb hbytes d10) hl)⟩
theorem pays {l : Launch} {R : Room} {p : Program} {e : Env} {below : List Frame} {s : State} {sargs : Array Value} {len W : Nat} (x t : Addr) (V : Cell) (cd : Int32) (n : Nat) (f : Nat → Int32) (z : Int32) (htab : tab.before sargs s = true) (hfr : 2 ≤ R.frames) (hlo : W + 25 ≤ R.locals) :
    Back l R p e below s sargs yN len W (fun A₁ a₁ => A₁.cells + 0 ≤ R.cells ∧ A₁.slots + 0 ≤ R.slots ∧ P x t V cd n f z a₁ A₁.U) (fun A₁ _ v₁ B₁ => E n v₁ A₁.U B₁.U ∧ B₁.locs = A₁.locs ++ [] ∧ B₁.cells = A₁.cells + 0 ∧ B₁.slots = A₁.slots + 0) :=
  (law l x t V cd n f z).pays htab hfr (by omega)
end Len
end StrChars
namespace StrChars.Road
open Jvm Sem ClassFile Op Lib Jvm.Stand Jvm.Free Jvm.Free.XT
open Jvm.Lib.Cold (StaticIs)
theorem consq {a : Array Value} {s : State} {c : Jvm.Cond} {L : List Jvm.Cond} (h0 : c.before a s = true) (h : ∀ w ∈ L, w.before a s = true) : ∀ w ∈ c :: L, w.before a s = true := fun w hw => (List.mem_cons.mp hw).elim (fun e => e ▸ h0) (h w)
/-- the words of String.length(), either coding -/
abbrev wordsLen : List Jvm.Cond := [.code Len.yN Len.yB 1 (some .int), .initialized ST, .fieldLink ST 9 ST "value" "[B", .fieldLink ST 38 ST "COMPACT_STRINGS" "Z", .fieldLink ST 15 ST "coder" "B", .code Cdr.yN Cdr.yB 1 (some .byte), .methodLink ST 335 Cdr.yN, .declares Cdr.yN, .selects ST Cdr.yN Cdr.yN, .instanceMethod Cdr.yN]
theorem tabLen_of {a : Array Value} {s : State} (h : ∀ w ∈ wordsLen, w.before a s = true) : Len.tab.before a s = true := by
  have hc : Cdr.tab.before a s = true := unparts (wk h (.code Cdr.yN Cdr.yB 1 (some .byte))) (wks h (.initialized Cdr.yN.cls :: Cdr.site))
  have q := consq hc h
  exact unparts (wk q (.code Len.yN Len.yB 1 (some .int))) (wks q (.initialized Len.yN.cls :: Len.site))
theorem movedLen {Z s : State} {a0 args : Array Value} (hZ : Z.Warmed39 s.vm) (hw : ∀ d ∈ wordsLen, d.before a0 Z = true) : ∀ d ∈ wordsLen, d.before args s = true := fun d hd => by
  have q := hw d hd
  have t : ∀ d ∈ wordsLen, d = .arrayClass .byte ∨ (d.onTables && d.keepsFace) = true := by decide +kernel
  rcases t d hd with rfl | t
  · exact RoadKit.mvA hZ q
  · exact RoadKit.mv hZ q t
/-- the bytes of the chars cs, low before high -/
def wideBytes : List Int32 → List Value
  | [] => []
  | c :: cs => .int (lo8 c) :: .int (hi8 c) :: wideBytes cs
theorem wide_lo (d : Value) : ∀ (cs : List Int32) (j : Nat), j < cs.length → (wideBytes cs).getD (2 * j) d = .int (lo8 (cs.getD j 0))
  | [], j, h => absurd h (Nat.not_lt_zero j)
  | c :: cs, 0, _ => rfl
  | c :: cs, j + 1, h => by
    have q := wide_lo d cs j (by simpa using h)
    rw [show 2 * (j + 1) = 2 * j + 1 + 1 from by omega]
    simpa [wideBytes] using q
theorem wide_hi (d : Value) : ∀ (cs : List Int32) (j : Nat), j < cs.length → (wideBytes cs).getD (2 * j + 1) d = .int (hi8 (cs.getD j 0))
  | [], j, h => absurd h (Nat.not_lt_zero j)
  | c :: cs, 0, _ => rfl
  | c :: cs, j + 1, h => by
    have q := wide_hi d cs j (by simpa using h)
    rw [show 2 * (j + 1) + 1 = 2 * j + 1 + 1 + 1 from by omega]
    simpa [wideBytes] using q
theorem low_at (d : Value) (cs : List Int32) (j : Nat) (h : j < cs.length) : (cs.map fun c => Value.int (lo8 c)).getD j d = .int (lo8 (cs.getD j 0)) := by
  simp [List.getD_eq_getElem?_getD, h]
/-- an array of N2 bytes vs codes the chars cs by the coder cd -/
def CodA (cs : List Int32) (cd N2 : Int32) (vs : List Value) : Prop := (cd = 0 ∧ N2 = Int32.ofNat cs.length ∧ vs = (cs.map fun c => Value.int (lo8 c)) ∧ ∀ c ∈ cs, ¬ 255 < c) ∨ (cd = 1 ∧ N2 = Int32.ofNat (2 * cs.length) ∧ vs = wideBytes cs ∧ ∃ c ∈ cs, 255 < c)
theorem CodA.cod {cs : List Int32} {cd N2 : Int32} {vs : List Value} {V : Cell} (h : CodA cs cd N2 vs) (hn : 2 * cs.length < 2 ^ 31) (hs : V.slots.size = N2.toNatClampNeg) (hv : RoadKit.Has V vs (.int 0)) : Cod cd cs.length (fun j => cs.getD j 0) V := by
  rcases h with ⟨rfl, rfl, rfl, h⟩ | ⟨rfl, rfl, rfl, c, hc, hw⟩
  · rw [n32 (by omega)] at hs
    exact Or.inl ⟨rfl, hs, fun j hj => ⟨by rw [hv j (by omega), low_at _ _ _ hj], by
      have e : cs.getD j 0 = cs[j] := by simp [List.getD_eq_getElem?_getD, hj]
      show ¬ 255 < cs.getD j 0
      rw [e]; exact h _ (List.getElem_mem _)⟩⟩
  · rw [n32 (by omega)] at hs
    obtain ⟨j, hj, rfl⟩ := List.getElem_of_mem hc
    exact Or.inr ⟨rfl, hs, fun j hj => ⟨by rw [hv _ (by omega), wide_lo _ _ _ hj], by rw [hv _ (by omega), wide_hi _ _ _ hj]⟩, j, hj, by
      have e : cs.getD j 0 = cs[j] := by simp [List.getD_eq_getElem?_getD, hj]
      show 255 < cs.getD j 0
      rw [e]; exact hw⟩
/-- an object of exactly java/lang/String, its two fields found: as the laws ask it -/
theorem strObj {Z U : State} {a0 : Array Value} {kI : Nat} (wi : (Jvm.Cond.instantiable ST kI).before a0 Z = true) (al : Z.vm.Alike U.vm) {x : Addr} {v0 c0 : Value} (E : RoadKit.Exa Z U.heap x ST) (V : RoadKit.Fld Z U.heap x ST "value" "[B" v0) (C : RoadKit.Fld Z U.heap x ST "coder" "B" c0) :
    ∃ (D : Cell) (fV fC : Field), Blank ST x D U ∧ Found ST "value" "[B" fV U ∧ Found ST "coder" "B" fC U ∧ D.slots[fV.slot]? = some v0 ∧ D.slots[fC.slot]? = some c0 ∧ RoadKit.slotOf Z ST "value" "[B" = fV.slot ∧ RoadKit.slotOf Z ST "coder" "B" = fC.slot := by
  obtain ⟨D, cfV, kV, iV, fV, hD, gV, stV, knV, obV, asV, slV⟩ := V
  obtain ⟨D', cfC, kC, iC, fC, hD', gC, stC, -, -, asC, slC⟩ := C
  cases hD.symm.trans hD'
  obtain ⟨D2, kD, e1, e2, e3, e4, e5⟩ := E
  cases hD.symm.trans e1
  obtain ⟨c2, k2, i1, i2, i3, -⟩ := Cond.instantiable_spec wi
  cases e2.symm.trans i1
  cases e3.symm.trans i2
  obtain ⟨kU, u1, u2⟩ := al.2.2 _ _ e3
  exact ⟨D, fV, fC, ⟨hD, ⟨knV, fun q hq => by rw [hq] at obV; cases obV⟩, by rw [al.findClass]; exact e2, kU, u1, by rw [u2]; exact i3, by rw [u2]; exact e5 i3⟩, ⟨SBG.found_only al ⟨cfV, kV, iV, gV⟩, stV⟩, ⟨SBG.found_only al ⟨cfC, kC, iC, gC⟩, stC⟩, slV, slC, by simp [RoadKit.slotOf, gV], by simp [RoadKit.slotOf, gC]⟩
theorem sta_is {Z U : State} (al : Z.vm.Alike U.vm) {C n d : String} {v : Value} (S : RoadKit.Sta Z U.heap C n d v) : StaticIs U C n d v := by
  obtain ⟨cfS, iS, kS, fS, st, cS, t1, t2, t3, t4, t5, t6, t7⟩ := S
  exact StaticIs.there (s := { Z with heap := U.heap }) ⟨cfS, iS, kS, fS, st, cS, t1, t2, t3, t4, t5, (fun q => by rw [q] at t6; cases t6), t7⟩ al rfl
/-- **length() OF SUCH A STRING** -/
theorem lenW {p : Program} {l : Launch} {e : Env} {R : Room} {s : State} {args : Array Value} {below : List Frame} {len W : Nat} {Z : State} {a0 : Array Value} {h : Heap} (hZ : Z.Warmed39 s.vm) (hw : ∀ d ∈ wordsLen, d.before a0 Z = true) {kI : Nat} (wi : (Jvm.Cond.instantiable ST kI).before a0 Z = true)
    {x t : Addr} {kb : ClassId} {cs : List Int32} {cd N2 z : Int32} {vs : List Value} (E : RoadKit.Exa Z h x ST) (V : RoadKit.Fld Z h x ST "value" "[B" (.ref t)) (C : RoadKit.Fld Z h x ST "coder" "B" (.int cd)) (K : RoadKit.Arv Z h t kb .byte N2 vs (.int 0)) (hc : CodA cs cd N2 vs) (hb : ∀ c ∈ cs, ¬ c < 0 ∧ ¬ (65535 : Int32) < c)
    (S : RoadKit.Sta Z h ST "COMPACT_STRINGS" "Z" (.int z)) (hz : ¬ z = 0) (l2 : cs.length ≤ 4000) (hfr : 2 ≤ R.frames) (hlo : W + 25 ≤ R.locals) :
    Back l R p e below s args (⟨"java/lang/String", "length", "()I"⟩ : MethodName) len W (fun P a => a = #[.ref x] ∧ P.U.heap = h ∧ P.cells + 0 ≤ R.cells ∧ P.slots + 0 ≤ R.slots)
      (fun P _ v B => ∃ L, (v = some (.int (Int32.ofNat cs.length)) ∧ L = [] ∧ B.U.heap = h) ∧ B.locs = P.locs ++ L ∧ B.cells = P.cells + 0 ∧ B.slots = P.slots + 0) := by
  obtain ⟨A, K1, K2, K3, K4, K5, K6⟩ := K
  have hcod := hc.cod (by omega) K3 K5
  intro m meth c P g ig mk a X hg hsize hdg hW hn hp'
  obtain ⟨rfl, rfl, r1, r2⟩ := hp'
  have al : Z.vm.Alike P.U.vm := hZ.alike.trans X.warmed.alike
  obtain ⟨D, fV, fC, hB, F1, F2, g1, g2, -, -⟩ := strObj wi al E V C
  have hx : Txt x t A cd cs.length (fun j => cs.getD j 0) P.U := ⟨⟨_, hB.2.2.1, D, hB.1, rfl, by cases q : D.vm <;> first | rfl | exact absurd q (hB.2.1.2 _)⟩, Has.of hB F1 g1, Has.of hB F2 g2, ⟨K1.1, State.isArrayOf_alike al K1.2.1, K1.2.2, by rcases hcod with ⟨-, q, -⟩ | ⟨-, q, -⟩ <;> omega⟩, hcod, fun j hj => by
    have e : cs.getD j 0 = cs[j] := by simp [List.getD_eq_getElem?_getD, hj]
    show ¬ cs.getD j 0 < 0 ∧ ¬ 65535 < cs.getD j 0
    rw [e]; exact hb _ (List.getElem_mem _)⟩
  obtain ⟨v, B, X', ⟨⟨hv, hh⟩, hl, hk, hs⟩, st⟩ := Len.pays x t A cd cs.length (fun j => cs.getD j 0) z (tabLen_of (movedLen hZ hw)) hfr hlo m meth c P g ig mk _ X hg hsize hdg hW hn ⟨r1, r2, rfl, hx, sta_is al S, hz⟩
  exact ⟨v, B, X', ⟨[], ⟨hv, rfl, hh⟩, hl, hk, hs⟩, st⟩
end StrChars.Road
namespace StrChars
open Jvm Sem ClassFile Op Lib Jvm.Stand Jvm.Free.XT Jvm.Free.ALB Jvm.Free.JM Jvm.Free
open Jvm.Lib.Cold (StaticIs)
/-- what place i of a byte[]'s cell holds -/
def yv (A : Cell) (i : Nat) : Int32 := match A.slots[i]? with | some (.int x) => x | _ => 0
theorem yv_get {a : Addr} {A : Cell} {U : State} (h : XT.Arr .byte a A U) (ht : Typed .byte A) {i : Nat} (hi : i < A.slots.size) : A.slots[i]? = some (.int (yv A i)) := by
  have e := Array.getElem?_eq_getElem hi
  have f := ht i _ e
  unfold yv; rw [e]
  generalize A.slots[i] = v at f
  cases v <;> simp [fits] at f ⊢
/-- the two arrays are equal, place for place -/
def EqC (A B : Cell) : Prop := A.slots.size = B.slots.size ∧ ∀ i, i < A.slots.size → yv A i = yv B i
/-- a boolean that says whether p -/
def Says01 (q : Prop) (r : Option Value) (s u : State) : Prop := ∃ v : Int32, r = some (.int v) ∧ u.heap = s.heap ∧ ((v = 1 ∧ q) ∨ (v = 0 ∧ ¬ q))
theorem Says01.mv {q : Prop} : ∀ r (U U' V V' : State), U'.heap = U.heap → V.vm.Alike V'.vm → V'.heap = V.heap → Says01 q r U V → Says01 q r U' V' :=
  fun r U U' V V' h1 _ h2 ⟨v, a, b, c⟩ => ⟨v, a, by rw [h1, h2]; exact b, c⟩
namespace LEq
def yN : MethodName := ⟨"java/lang/StringLatin1", "equals", "([B[B)Z"⟩
abbrev yB : ByteArray := jdk_43_method_13_code
theorem d0 : decode yB 0 = .ok (.aload_n 0, 1) := by decide +kernel
theorem d1 : decode yB 1 = .ok (.arraylength, 1) := by decide +kernel
theorem d2 : decode yB 2 = .ok (.aload_n 1, 1) := by decide +kernel
theorem d3 : decode yB 3 = .ok (.arraylength, 1) := by decide +kernel
theorem d4 : decode yB 4 = .ok (.if_icmp (.ne) 30, 3) := by decide +kernel
theorem d7 : decode yB 7 = .ok (.iconst 0, 1) := by decide +kernel
theorem d8 : decode yB 8 = .ok (.istore_n 2, 1) := by decide +kernel
theorem d9 : decode yB 9 = .ok (.iload_n 2, 1) := by decide +kernel
theorem d10 : decode yB 10 = .ok (.aload_n 0, 1) := by decide +kernel
theorem d11 : decode yB 11 = .ok (.arraylength, 1) := by decide +kernel
theorem d12 : decode yB 12 = .ok (.if_icmp (.ge) 20, 3) := by decide +kernel
theorem d15 : decode yB 15 = .ok (.aload_n 0, 1) := by decide +kernel
theorem d16 : decode yB 16 = .ok (.iload_n 2, 1) := by decide +kernel
theorem d17 : decode yB 17 = .ok (.baload, 1) := by decide +kernel
theorem d18 : decode yB 18 = .ok (.aload_n 1, 1) := by decide +kernel
theorem d19 : decode yB 19 = .ok (.iload_n 2, 1) := by decide +kernel
theorem d20 : decode yB 20 = .ok (.baload, 1) := by decide +kernel
theorem d21 : decode yB 21 = .ok (.if_icmp (.eq) 5, 3) := by decide +kernel
theorem d24 : decode yB 24 = .ok (.iconst 0, 1) := by decide +kernel
theorem d25 : decode yB 25 = .ok (.ireturn, 1) := by decide +kernel
theorem d26 : decode yB 26 = .ok (.iinc 2 1, 3) := by decide +kernel
theorem d29 : decode yB 29 = .ok (.goto (-20), 3) := by decide +kernel
theorem d32 : decode yB 32 = .ok (.iconst 1, 1) := by decide +kernel
theorem d33 : decode yB 33 = .ok (.ireturn, 1) := by decide +kernel
theorem d34 : decode yB 34 = .ok (.iconst 0, 1) := by decide +kernel
theorem d35 : decode yB 35 = .ok (.ireturn, 1) := by decide +kernel
def site : List Cond := []
def tab : Cond := tabOf yN yB 3 (some .boolean) site
def P (a : Addr) (A : Cell) (b : Addr) (B : Cell) (args : Array Value) (s : State) : Prop := args = #[.ref a, .ref b] ∧ XT.Arr .byte a A s ∧ Typed .byte A ∧ XT.Arr .byte b B s ∧ Typed .byte B
/-- whether two byte[] are equal, place for place -/
theorem law (l : Launch) (a : Addr) (A : Cell) (b : Addr) (B : Cell) : Law l yN 2 2 0 0 yB 3 (some .boolean) site (P a A b B) (Says01 (EqC A B)) [] 0 0 := by
  refine Law.of_walk (plainFor_of_name (by decide +kernel)) (by decide +kernel) (by decide +kernel) (by decide) (fun _ _ h => by rw [h.1]; rfl) (fun _ U U' hal hh h => ⟨h.1, h.2.1.mv hal hh, h.2.2.1, h.2.2.2.1.mv hal hh, h.2.2.2.2⟩) (fun r U U' V V' h1 hal h2 h => Says01.mv r U U' V V' h1 hal h2 h) ?_
  intro p e s m args below meth c s₁ X0 hexec hbytes hml hret hlk hnm hown hh0 W hP
  obtain ⟨rfl, hA, tA, hB, tB⟩ := hP
  have a31 := hA.2.2.2
  have b31 := hB.2.2.2
  have hA0 := hA.mv X0.warmed.alike hh0
  have hB0 := hB.mv X0.warmed.alike hh0
  have c1 : Steps p.tables e below (s₁.setTop (entryFrame m #[.ref a, .ref b] 3)) (s₁.setTop (mkF m 0 #[.val (.ref a), .val (.ref b), .unset] [])) := entry rfl
  have c2 : Steps p.tables e below (s₁.setTop (entryFrame m #[.ref a, .ref b] 3)) (s₁.setTop (mkF m 4 #[.val (.ref a), .val (.ref b), .unset] [.int (Int32.ofNat B.slots.size), .int (Int32.ofNat A.slots.size)])) := c1.trans (by
    refine XS.aloadN X0.here hexec rfl (hb hbytes d0) rfl rfl ?_
    refine X0.alen hexec hA0 rfl rfl (hb hbytes d1) ?_
    refine XS.aloadN X0.here hexec rfl (hb hbytes d2) rfl rfl ?_
    refine X0.alen hexec hB0 rfl rfl (hb hbytes d3) ?_
    exact Steps.refl _)
  by_cases hs : A.slots.size = B.slots.size
  · have c3 : Steps p.tables e below (s₁.setTop (entryFrame m #[.ref a, .ref b] 3)) (s₁.setTop (mkF m 9 #[.val (.ref a), .val (.ref b), .val (.int 0)] [])) := c2.trans (by
      refine XS.icmpNo X0.here hexec rfl (hb hbytes d4) rfl (ii_ne_f (by rw [hs])) ?_
      refine iconstV X0.here hexec rfl 0 (hb hbytes d7) (by decide) ?_
      refine XS.istoreN X0.here hexec rfl (hb hbytes d8) rfl rfl ?_
      exact Steps.refl _)
    have loop : ∀ (r i : Nat), i + r = A.slots.size → (∀ j, j < i → yv A j = yv B j) → Steps p.tables e below (s₁.setTop (entryFrame m #[.ref a, .ref b] 3)) (s₁.setTop (mkF m 9 #[.val (.ref a), .val (.ref b), .val (.int (Int32.ofNat i))] [])) → ∃ (pc : Nat) (Ls : Array Slot) (v : Int32), (pc = 25 ∨ pc = 33) ∧ ((v = 1 ∧ EqC A B) ∨ (v = 0 ∧ ¬ EqC A B)) ∧ Steps p.tables e below (s₁.setTop (entryFrame m #[.ref a, .ref b] 3)) (s₁.setTop (mkF m pc Ls [.int v])) := by
      intro r
      induction r with
      | zero =>
        intro i hi he cl
        exact ⟨33, _, 1, Or.inr rfl, Or.inl ⟨rfl, hs, fun j hj => he j (by omega)⟩, cl.trans (by
          refine XS.iloadN X0.here hexec rfl (hb hbytes d9) rfl ?_
          refine XS.aloadN X0.here hexec rfl (hb hbytes d10) rfl rfl ?_
          refine X0.alen hexec hA0 rfl rfl (hb hbytes d11) ?_
          refine XS.icmpYes X0.here hexec rfl (pc0 := 12) rfl (hb hbytes d12) rfl (ii_ge_t (nlt32 (by omega) (by omega))) (by decide) rfl ?_
          refine iconstV X0.here hexec rfl 1 (hb hbytes d32) (by decide) ?_
          exact Steps.refl _)⟩
      | succ r ih =>
        intro i hi he cl
        have c4 : Steps p.tables e below (s₁.setTop (entryFrame m #[.ref a, .ref b] 3)) (s₁.setTop (mkF m 21 #[.val (.ref a), .val (.ref b), .val (.int (Int32.ofNat i))] [.int (yv B i), .int (yv A i)])) := cl.trans (by
          refine XS.iloadN X0.here hexec rfl (hb hbytes d9) rfl ?_
          refine XS.aloadN X0.here hexec rfl (hb hbytes d10) rfl rfl ?_
          refine X0.alen hexec hA0 rfl rfl (hb hbytes d11) ?_
          refine XS.icmpNo X0.here hexec rfl (hb hbytes d12) rfl (ii_ge_f (lt32 (by omega) (by omega))) ?_
          refine XS.aloadN X0.here hexec rfl (hb hbytes d15) rfl rfl ?_
          refine XS.iloadN X0.here hexec rfl (hb hbytes d16) rfl ?_
          refine X0.aget hexec hA0 rfl (yv_get hA tA (i := i) (by omega)) rfl rfl (hb hbytes d17) ?_
          refine XS.aloadN X0.here hexec rfl (hb hbytes d18) rfl rfl ?_
          refine XS.iloadN X0.here hexec rfl (hb hbytes d19) rfl ?_
          refine X0.aget hexec hB0 rfl (yv_get hB tB (i := i) (by omega)) rfl rfl (hb hbytes d20) ?_
          exact Steps.refl _)
        by_cases hv : yv A i = yv B i
        · have c5 : Steps p.tables e below (s₁.setTop (entryFrame m #[.ref a, .ref b] 3)) (s₁.setTop (mkF m 9 #[.val (.ref a), .val (.ref b), .val (.int (Int32.ofNat i + 1))] [])) := c4.trans (by
            refine XS.icmpYes X0.here hexec rfl (pc0 := 21) rfl (hb hbytes d21) rfl (ii_eq_t hv) (by decide) rfl ?_
            refine iincV X0.here hexec rfl 1 (hb hbytes d26) (by decide) rfl rfl ?_
            refine XS.goto X0.here hexec rfl (pc0 := 29) rfl (hb hbytes d29) (by decide) rfl ?_
            exact Steps.refl _)
          rw [succ32] at c5
          exact ih (i + 1) (by omega) (fun j hj => by
            by_cases e : j = i
            · rw [e]; exact hv
            · exact he j (by omega)) c5
        · exact ⟨25, _, 0, Or.inl rfl, Or.inr ⟨rfl, fun q => hv (q.2 i (by omega))⟩, c4.trans (by
            refine XS.icmpNo X0.here hexec rfl (hb hbytes d21) rfl (ii_eq_f hv) ?_
            refine iconstV X0.here hexec rfl 0 (hb hbytes d24) (by decide) ?_
            exact Steps.refl _)⟩
    obtain ⟨pc, Ls, v, hpc, hv, cz⟩ := loop A.slots.size 0 (by omega) (fun j hj => absurd hj (Nat.not_lt_zero j)) c3
    have nv : narrow .boolean (.int v) = .int v := by rcases hv with ⟨rfl, -⟩ | ⟨rfl, -⟩ <;> rfl
    rcases hpc with rfl | rfl
    · exact ⟨s₁, some (.int v), _, _, _, X0, rfl, rfl, rfl, (fun h => by cases h), ⟨v, rfl, hh0, hv⟩, fun fs hl => cz.trans (X0.ireturnOut hexec hret nv (Or.inr (Or.inl rfl)) (hb hbytes d25) hl)⟩
    · exact ⟨s₁, some (.int v), _, _, _, X0, rfl, rfl, rfl, (fun h => by cases h), ⟨v, rfl, hh0, hv⟩, fun fs hl => cz.trans (X0.ireturnOut hexec hret nv (Or.inr (Or.inl rfl)) (hb hbytes d33) hl)⟩
  · have c3 : Steps p.tables e below (s₁.setTop (entryFrame m #[.ref a, .ref b] 3)) (s₁.setTop (mkF m 35 #[.val (.ref a), .val (.ref b), .unset] [.int 0])) := c2.trans (by
      refine XS.icmpYes X0.here hexec rfl (pc0 := 4) rfl (hb hbytes d4) rfl (ii_ne_t (ne32 a31 b31 hs)) (by decide) rfl ?_
      refine iconstV X0.here hexec rfl 0 (hb hbytes d34) (by decide) ?_
      exact Steps.refl _)
    exact ⟨s₁, some (.int 0), _, _, _, X0, rfl, rfl, rfl, (fun h => by cases h), ⟨0, rfl, hh0, Or.inr ⟨rfl, fun q => hs q.1⟩⟩, fun fs hl => c3.trans (X0.ireturnOut hexec hret rfl (Or.inr (Or.inl rfl)) (hb hbytes d35) hl)⟩
end LEq
theorem Cod.ty {cd : Int32} {n : Nat} {f : Nat → Int32} {V : Cell} (h : Cod cd n f V) : Typed .byte V := fun i v hv => by
  have hi : i < V.slots.size := (Array.getElem?_eq_some_iff.mp hv).1
  rcases h with ⟨-, k1, k2⟩ | ⟨-, k1, k2, -⟩
  · rw [(k2 i (by omega)).1] at hv; cases hv; exact fits_lo8 _
  · rcases Nat.mod_two_eq_zero_or_one i with e | e
    · obtain ⟨j, rfl⟩ : ∃ j, i = 2 * j := ⟨i / 2, by omega⟩
      rw [(k2 j (by omega)).1] at hv; cases hv; exact fits_lo8 _
    · obtain ⟨j, rfl⟩ : ∃ j, i = 2 * j + 1 := ⟨i / 2, by omega⟩
      rw [(k2 j (by omega)).2] at hv; cases hv; exact fits_lo8 _
/-- the same text -/
def SameT (n : Nat) (f : Nat → Int32) (k : Nat) (g : Nat → Int32) : Prop := n = k ∧ ∀ j, j < n → f j = g j
theorem lo8_inj {x y : Int32} (h0 : ¬ x < 0) (h1 : ¬ 255 < x) (k0 : ¬ y < 0) (k1 : ¬ 255 < y) (h : lo8 x = lo8 y) : x = y := by
  rw [← lo8_mask h0 h1, ← lo8_mask k0 k1, h]
/-- arrays coded by one coder are equal just where the texts are -/
theorem Cod.eqv {cd : Int32} {n k : Nat} {f g : Nat → Int32} {V V' : Cell} (h : Cod cd n f V) (h' : Cod cd k g V') (hf : ∀ j, j < n → ¬ f j < 0 ∧ ¬ 65535 < f j) (hg : ∀ j, j < k → ¬ g j < 0 ∧ ¬ 65535 < g j) : EqC V V' ↔ SameT n f k g := by
  have yvv : ∀ {W : Cell} {i : Nat} {x : Int32}, W.slots[i]? = some (.int x) → yv W i = x := fun q => by unfold yv; rw [q]
  rcases h with ⟨rfl, k1, k2⟩ | ⟨rfl, k1, k2, -⟩
  · rcases h' with ⟨-, m1, m2⟩ | ⟨e, -⟩
    · constructor
      · rintro ⟨e1, e2⟩
        refine ⟨by omega, fun j hj => ?_⟩
        have q := e2 j (by omega)
        rw [yvv (k2 j hj).1, yvv (m2 j (by omega)).1] at q
        exact lo8_inj (hf j hj).1 (k2 j hj).2 (hg j (by omega)).1 (m2 j (by omega)).2 q
      · rintro ⟨rfl, e2⟩
        refine ⟨by omega, fun j hj => ?_⟩
        rw [yvv (k2 j (by omega)).1, yvv (m2 j (by omega)).1, e2 j (by omega)]
    · exact absurd e (by decide)
  · rcases h' with ⟨e, -⟩ | ⟨-, m1, m2, -⟩
    · exact absurd e (by decide)
    · constructor
      · rintro ⟨e1, e2⟩
        refine ⟨by omega, fun j hj => ?_⟩
        have q1 := e2 (2 * j) (by omega)
        have q2 := e2 (2 * j + 1) (by omega)
        rw [yvv (k2 j hj).1, yvv (m2 j (by omega)).1] at q1
        rw [yvv (k2 j hj).2, yvv (m2 j (by omega)).2] at q2
        rw [← pair_says (hf j hj).1 (hf j hj).2, ← pair_says (hg j (by omega)).1 (hg j (by omega)).2, q1, q2]
      · rintro ⟨rfl, e2⟩
        refine ⟨by omega, fun i hi => ?_⟩
        rcases Nat.mod_two_eq_zero_or_one i with e | e
        · obtain ⟨j, rfl⟩ : ∃ j, i = 2 * j := ⟨i / 2, by omega⟩
          rw [yvv (k2 j (by omega)).1, yvv (m2 j (by omega)).1, e2 j (by omega)]
        · obtain ⟨j, rfl⟩ : ∃ j, i = 2 * j + 1 := ⟨i / 2, by omega⟩
          rw [yvv (k2 j (by omega)).2, yvv (m2 j (by omega)).2, e2 j (by omega)]
/-- two codings differ: so do the texts -/
theorem Cod.dif {cd cd' : Int32} {n k : Nat} {f g : Nat → Int32} {V V' : Cell} (h : Cod cd n f V) (h' : Cod cd' k g V') (hne : ¬ cd = cd') : ¬ SameT n f k g := by
  rintro ⟨rfl, e⟩
  rcases h with ⟨rfl, -, k2⟩ | ⟨rfl, -, -, j, hj, hw⟩
  · rcases h' with ⟨rfl, -⟩ | ⟨-, -, -, j, hj, hw⟩
    · exact hne rfl
    · exact (k2 j hj).2 (by rw [e j hj]; exact hw)
  · rcases h' with ⟨-, -, m2⟩ | ⟨rfl, -⟩
    · exact (m2 j hj).2 (by rw [← e j hj]; exact hw)
    · exact hne rfl
/-- an object of exactly C is an instance of C -/
theorem cinst {p : Program} {l : Launch} {e : Env} {R : Room} {s : State} {m : MethodId} {args : Array Value} {below : List Frame} {meth : Method} {c : Code} {T : State} {locs : List Loc} {cells slots : Nat} (X : Stand p l e R s m args below meth c T locs cells slots) (hexec : p.tables.exec = Jvm.exec) {own C : String} {index : Nat} (hown : s.vm.findClass own = some m.cls) (hlink : (Cond.classLink own index C).before args s = true) {a : Addr} (hE : Exact C a T)
    {g : JFrame} (hg : g.method = m) {rest : List Value} (hstack : g.stack = .ref a :: rest) (hdg : decode c.code g.pc = .ok (.instanceof index, 3)) :
    ∃ T', Stand p l e R s m args below meth c T' locs cells slots ∧ T'.heap = T.heap ∧ ∀ target, Steps p.tables e below (T'.setTop { g with pc := g.pc + 3, stack := .int 1 :: rest }) target → Steps p.tables e below (T.setTop g) target := by
  obtain ⟨cB, h1, D, h2, h3, h4⟩ := hE
  have h1' : s.vm.findClass C = some cB := by rw [← X.warmed.alike.findClass]; exact h1
  obtain ⟨vm', X', st⟩ := X.instanceofYes hexec hown hlink h2 h4 h1' (by rw [h3]; exact Jvm.Free.SB.assignable_self _ _) hg hstack hdg
  exact ⟨_, X', rfl, st⟩
theorem cself {p : Program} {l : Launch} {e : Env} {R : Room} {s : State} {m : MethodId} {args : Array Value} {below : List Frame} {meth : Method} {c : Code} {T : State} {locs : List Loc} {cells slots : Nat} (X : Stand p l e R s m args below meth c T locs cells slots) (hexec : p.tables.exec = Jvm.exec) {own C : String} {index : Nat} (hown : s.vm.findClass own = some m.cls) (hlink : (Cond.classLink own index C).before args s = true) {a : Addr} (hE : Exact C a T)
    {g : JFrame} (hg : g.method = m) {rest : List Value} (hstack : g.stack = .ref a :: rest) (hdg : decode c.code g.pc = .ok (.checkcast index, 3)) :
    ∃ T', Stand p l e R s m args below meth c T' locs cells slots ∧ T'.heap = T.heap ∧ ∀ target, Steps p.tables e below (T'.setTop { g with pc := g.pc + 3, stack := .ref a :: rest }) target → Steps p.tables e below (T.setTop g) target := by
  obtain ⟨cB, h1, D, h2, h3, h4⟩ := hE
  have h1' : s.vm.findClass C = some cB := by rw [← X.warmed.alike.findClass]; exact h1
  obtain ⟨vm', X', st⟩ := X.checkcastYes hexec hown hlink h2 h4 h1' (by rw [h3]; exact Jvm.Free.SB.assignable_self _ _) hg hstack hdg
  exact ⟨_, X', rfl, fun t h => st t (by rw [← hstack] at h; exact h)⟩
namespace SEq
def yN : MethodName := ⟨"java/lang/String", "equals", "(Ljava/lang/Object;)Z"⟩
abbrev yB : ByteArray := jdk_42_method_66_code
theorem d0 : decode yB 0 = .ok (.aload_n 0, 1) := by decide +kernel
theorem d1 : decode yB 1 = .ok (.aload_n 1, 1) := by decide +kernel
theorem d2 : decode yB 2 = .ok (.if_acmp (.ne) 5, 3) := by decide +kernel
theorem d5 : decode yB 5 = .ok (.iconst 1, 1) := by decide +kernel
theorem d6 : decode yB 6 = .ok (.ireturn, 1) := by decide +kernel
theorem d7 : decode yB 7 = .ok (.aload_n 1, 1) := by decide +kernel
theorem d8 : decode yB 8 = .ok (.instanceof 10, 3) := by decide +kernel
theorem d11 : decode yB 11 = .ok (.ifCond (.eq) 43, 3) := by decide +kernel
theorem d14 : decode yB 14 = .ok (.aload_n 1, 1) := by decide +kernel
theorem d15 : decode yB 15 = .ok (.checkcast 10, 3) := by decide +kernel
theorem d18 : decode yB 18 = .ok (.astore_n 2, 1) := by decide +kernel
theorem d19 : decode yB 19 = .ok (.getstatic 38, 3) := by decide +kernel
theorem d22 : decode yB 22 = .ok (.ifCond (.eq) 14, 3) := by decide +kernel
theorem d25 : decode yB 25 = .ok (.aload_n 0, 1) := by decide +kernel
theorem d26 : decode yB 26 = .ok (.getfield 15, 3) := by decide +kernel
theorem d29 : decode yB 29 = .ok (.aload_n 2, 1) := by decide +kernel
theorem d30 : decode yB 30 = .ok (.getfield 15, 3) := by decide +kernel
theorem d33 : decode yB 33 = .ok (.if_icmp (.ne) 21, 3) := by decide +kernel
theorem d36 : decode yB 36 = .ok (.aload_n 0, 1) := by decide +kernel
theorem d37 : decode yB 37 = .ok (.getfield 9, 3) := by decide +kernel
theorem d40 : decode yB 40 = .ok (.aload_n 2, 1) := by decide +kernel
theorem d41 : decode yB 41 = .ok (.getfield 9, 3) := by decide +kernel
theorem d44 : decode yB 44 = .ok (.invokestatic 541, 3) := by decide +kernel
theorem d47 : decode yB 47 = .ok (.ifCond (.eq) 7, 3) := by decide +kernel
theorem d50 : decode yB 50 = .ok (.iconst 1, 1) := by decide +kernel
theorem d51 : decode yB 51 = .ok (.goto 4, 3) := by decide +kernel
theorem d54 : decode yB 54 = .ok (.iconst 0, 1) := by decide +kernel
theorem d55 : decode yB 55 = .ok (.ireturn, 1) := by decide +kernel
def site : List Cond := [.classLink "java/lang/String" 10 "java/lang/String", .fieldLink "java/lang/String" 38 "java/lang/String" "COMPACT_STRINGS" "Z", .fieldLink "java/lang/String" 15 "java/lang/String" "coder" "B", .fieldLink "java/lang/String" 9 "java/lang/String" "value" "[B", LEq.tab] ++ staticW "java/lang/String" 541 LEq.yN
def tab : Cond := tabOf yN yB 3 (some .boolean) site
def P (x t : Addr) (V : Cell) (cd : Int32) (n : Nat) (f : Nat → Int32) (y t' : Addr) (V' : Cell) (cd' : Int32) (k : Nat) (g : Nat → Int32) (z : Int32) (args : Array Value) (s : State) : Prop := args = #[.ref x, .ref y] ∧ Txt x t V cd n f s ∧ Txt y t' V' cd' k g s ∧ StaticIs s "java/lang/String" "COMPACT_STRINGS" "Z" (.int z) ∧ ¬ z = 0
/-- equals(Object) of two Strings: whether the texts are the same -/
theorem law (l : Launch) (x t : Addr) (V : Cell) (cd : Int32) (n : Nat) (f : Nat → Int32) (y t' : Addr) (V' : Cell) (cd' : Int32) (k : Nat) (g : Nat → Int32) (z : Int32) : Law l yN 2 1 1 14 yB 3 (some .boolean) site (P x t V cd n f y t' V' cd' k g z) (Says01 (SameT n f k g)) [] 0 0 := by
  refine Law.of_walk (plainFor_of_name (by decide +kernel)) (by decide +kernel) (by decide +kernel) (by decide) (fun _ _ h => by rw [h.1]; rfl) (fun _ U U' hal hh h => ⟨h.1, h.2.1.mv hal hh, h.2.2.1.mv hal hh, h.2.2.2.1.there hal hh, h.2.2.2.2⟩) (fun r U U' V V' h1 hal h2 h => Says01.mv r U U' V V' h1 hal h2 h) ?_
  intro p e s m args below meth c s₁ X0 hexec hbytes hml hret hlk hnm hown hh0 W hP
  obtain ⟨rfl, hx, hy, s1, hz⟩ := hP
  have c1 : Steps p.tables e below (s₁.setTop (entryFrame m #[.ref x, .ref y] 3)) (s₁.setTop (mkF m 2 #[.val (.ref x), .val (.ref y), .unset] [.ref y, .ref x])) := Steps.trans (entry rfl) (by
    show Steps p.tables e below (s₁.setTop (mkF m 0 #[.val (.ref x), .val (.ref y), .unset] [])) _
    refine XS.aloadN X0.here hexec rfl (hb hbytes d0) rfl rfl ?_
    refine XS.aloadN X0.here hexec rfl (hb hbytes d1) rfl rfl ?_
    exact Steps.refl _)
  by_cases hxy : x = y
  · have c2 : Steps p.tables e below (s₁.setTop (entryFrame m #[.ref x, .ref y] 3)) (s₁.setTop (mkF m 6 #[.val (.ref x), .val (.ref y), .unset] [.int 1])) := c1.trans (by
      refine acmpNo X0.here hexec rfl (hb hbytes d2) rfl rfl rfl (by simp [acmp, hxy]) ?_
      refine iconstV X0.here hexec rfl 1 (hb hbytes d5) (by decide) ?_
      exact Steps.refl _)
    subst hxy
    have ec : cd = cd' := by
      obtain ⟨D, fd, a1, a2, a3⟩ := hx.2.2.1
      obtain ⟨D', fd', b1, b2, b3⟩ := hy.2.2.1
      cases a1.symm.trans b1
      obtain ⟨q1, q2, q3, q4⟩ := a2.1
      obtain ⟨r1, r2, r3, r4⟩ := b2.1
      cases q4.symm.trans r4
      cases a3.symm.trans b3; rfl
    have et : t = t' := by
      obtain ⟨D, fd, a1, a2, a3⟩ := hx.2.1
      obtain ⟨D', fd', b1, b2, b3⟩ := hy.2.1
      cases a1.symm.trans b1
      obtain ⟨q1, q2, q3, q4⟩ := a2.1
      obtain ⟨r1, r2, r3, r4⟩ := b2.1
      cases q4.symm.trans r4
      cases a3.symm.trans b3; rfl
    subst ec et
    have ev : V = V' := by cases hx.2.2.2.1.1.symm.trans hy.2.2.2.1.1; rfl
    subst ev
    have hs : SameT n f k g := (Cod.eqv hx.2.2.2.2.1 hy.2.2.2.2.1 hx.2.2.2.2.2 hy.2.2.2.2.2).mp ⟨rfl, fun _ _ => rfl⟩
    exact ⟨s₁, some (.int 1), _, _, _, X0, rfl, rfl, rfl, (fun h => by cases h), ⟨1, rfl, hh0, Or.inl ⟨rfl, hs⟩⟩, fun fs hl => c2.trans (X0.ireturnOut hexec hret rfl (Or.inr (Or.inl rfl)) (hb hbytes d6) hl)⟩
  · have c2 : Steps p.tables e below (s₁.setTop (entryFrame m #[.ref x, .ref y] 3)) (s₁.setTop (mkF m 8 #[.val (.ref x), .val (.ref y), .unset] [.ref y])) := c1.trans (by
      refine acmpYes X0.here hexec rfl (pc0 := 2) rfl (hb hbytes d2) rfl rfl rfl (by simp [acmp, hxy]) (by decide) rfl ?_
      refine XS.aloadN X0.here hexec rfl (hb hbytes d7) rfl rfl ?_
      exact Steps.refl _)
    obtain ⟨T3, X3, q3, st3⟩ := cinst X0 hexec hown (wk W (.classLink "java/lang/String" 10 "java/lang/String")) (hy.mv X0.warmed.alike hh0).1 (g := (mkF m 8 #[.val (.ref x), .val (.ref y), .unset] [.ref y])) rfl (rest := []) rfl (hb hbytes d8)
    have hh3 := q3.trans hh0
    have c4 : Steps p.tables e below (s₁.setTop (entryFrame m #[.ref x, .ref y] 3)) (T3.setTop (mkF m 15 #[.val (.ref x), .val (.ref y), .unset] [.ref y])) := (c2.trans (st3 _ (Steps.refl _))).trans (by
      refine XS.ifNo X3.here hexec rfl (hb hbytes d11) rfl (i0_eq_f (by decide)) ?_
      refine XS.aloadN X3.here hexec rfl (hb hbytes d14) rfl rfl ?_
      exact Steps.refl _)
    obtain ⟨T5, X5, q5, st5⟩ := cself X3 hexec hown (wk W (.classLink "java/lang/String" 10 "java/lang/String")) (hy.mv X3.warmed.alike hh3).1 (g := (mkF m 15 #[.val (.ref x), .val (.ref y), .unset] [.ref y])) rfl (rest := []) rfl (hb hbytes d15)
    have hh5 := q5.trans hh3
    have c6 : Steps p.tables e below (s₁.setTop (entryFrame m #[.ref x, .ref y] 3)) (T5.setTop (mkF m 19 #[.val (.ref x), .val (.ref y), .val (.ref y)] [])) := (c4.trans (st5 _ (Steps.refl _))).trans (by
      refine XS.astoreN X5.here hexec rfl (hb hbytes d18) rfl rfl rfl ?_
      exact Steps.refl _)
    obtain ⟨T7, X7, q7, st7⟩ := X5.sget hexec hown (wk W (.fieldLink "java/lang/String" 38 "java/lang/String" "COMPACT_STRINGS" "Z")) s1 (fun _ _ h => by rw [hh5]; exact h) (g := (mkF m 19 #[.val (.ref x), .val (.ref y), .val (.ref y)] [])) rfl (hb hbytes d19)
    have hh7 := q7.trans hh5
    have c8 : Steps p.tables e below (s₁.setTop (entryFrame m #[.ref x, .ref y] 3)) (T7.setTop (mkF m 26 #[.val (.ref x), .val (.ref y), .val (.ref y)] [.ref x])) := (c6.trans (st7 _ (Steps.refl _))).trans (by
      refine XS.ifNo X7.here hexec rfl (hb hbytes d22) rfl (i0_eq_f hz) ?_
      refine XS.aloadN X7.here hexec rfl (hb hbytes d25) rfl rfl ?_
      exact Steps.refl _)
    obtain ⟨T9, X9, q9, st9⟩ := X7.hget hexec hown (wk W (.fieldLink "java/lang/String" 15 "java/lang/String" "coder" "B")) (hx.mv X7.warmed.alike hh7).2.2.1 (g := (mkF m 26 #[.val (.ref x), .val (.ref y), .val (.ref y)] [.ref x])) rfl (rest := []) rfl (hb hbytes d26)
    have hh9 := q9.trans hh7
    have c10 : Steps p.tables e below (s₁.setTop (entryFrame m #[.ref x, .ref y] 3)) (T9.setTop (mkF m 30 #[.val (.ref x), .val (.ref y), .val (.ref y)] [.ref y, .int cd])) := (c8.trans (st9 _ (Steps.refl _))).trans (by
      refine XS.aloadN X9.here hexec rfl (hb hbytes d29) rfl rfl ?_
      exact Steps.refl _)
    obtain ⟨T11, X11, q11, st11⟩ := X9.hget hexec hown (wk W (.fieldLink "java/lang/String" 15 "java/lang/String" "coder" "B")) (hy.mv X9.warmed.alike hh9).2.2.1 (g := (mkF m 30 #[.val (.ref x), .val (.ref y), .val (.ref y)] [.ref y, .int cd])) rfl (rest := [.int cd]) rfl (hb hbytes d30)
    have hh11 := q11.trans hh9
    have c12 : Steps p.tables e below (s₁.setTop (entryFrame m #[.ref x, .ref y] 3)) (T11.setTop (mkF m 33 #[.val (.ref x), .val (.ref y), .val (.ref y)] [.int cd', .int cd])) := c10.trans (st11 _ (Steps.refl _))
    by_cases hcd : cd = cd'
    · subst hcd
      have c13 : Steps p.tables e below (s₁.setTop (entryFrame m #[.ref x, .ref y] 3)) (T11.setTop (mkF m 37 #[.val (.ref x), .val (.ref y), .val (.ref y)] [.ref x])) := c12.trans (by
        refine XS.icmpNo X11.here hexec rfl (hb hbytes d33) rfl (ii_ne_f rfl) ?_
        refine XS.aloadN X11.here hexec rfl (hb hbytes d36) rfl rfl ?_
        exact Steps.refl _)
      obtain ⟨T14, X14, q14, st14⟩ := X11.hget hexec hown (wk W (.fieldLink "java/lang/String" 9 "java/lang/String" "value" "[B")) (hx.mv X11.warmed.alike hh11).2.1 (g := (mkF m 37 #[.val (.ref x), .val (.ref y), .val (.ref y)] [.ref x])) rfl (rest := []) rfl (hb hbytes d37)
      have hh14 := q14.trans hh11
      have c15 : Steps p.tables e below (s₁.setTop (entryFrame m #[.ref x, .ref y] 3)) (T14.setTop (mkF m 41 #[.val (.ref x), .val (.ref y), .val (.ref y)] [.ref y, .ref t])) := (c13.trans (st14 _ (Steps.refl _))).trans (by
        refine XS.aloadN X14.here hexec rfl (hb hbytes d40) rfl rfl ?_
        exact Steps.refl _)
      obtain ⟨T16, X16, q16, st16⟩ := X14.hget hexec hown (wk W (.fieldLink "java/lang/String" 9 "java/lang/String" "value" "[B")) (hy.mv X14.warmed.alike hh14).2.1 (g := (mkF m 41 #[.val (.ref x), .val (.ref y), .val (.ref y)] [.ref y, .ref t])) rfl (rest := [.ref t]) rfl (hb hbytes d41)
      have hh16 := q16.trans hh14
      have c17 : Steps p.tables e below (s₁.setTop (entryFrame m #[.ref x, .ref y] 3)) (T16.setTop (mkF m 44 #[.val (.ref x), .val (.ref y), .val (.ref y)] [.ref t', .ref t])) := c15.trans (st16 _ (Steps.refl _))
      obtain ⟨v18, T18, X18, E18, g18⟩ := X16.callS hexec (LEq.law l t V t' V') hown (wks W (staticW "java/lang/String" 541 LEq.yN)) (wk W LEq.tab) (W := 0) (Nat.le_of_ble_eq_true rfl) (Nat.le_of_ble_eq_true rfl) (Nat.le_refl _) (Nat.le_refl _) (g := (mkF m 44 #[.val (.ref x), .val (.ref y), .val (.ref y)] [.ref t', .ref t])) rfl (by rw [hml]; rfl) c17 (argsL := [.ref t, .ref t']) (rest := []) rfl rfl (by show 2 * 0 + 0 ≤ _; decide) (hb hbytes d44) (⟨rfl, hx.2.2.2.1.mv X16.warmed.alike hh16, hx.2.2.2.2.1.ty, hy.2.2.2.1.mv X16.warmed.alike hh16, hy.2.2.2.2.1.ty⟩)
      obtain ⟨v, rfl, q18, hv⟩ := E18
      have iff := Cod.eqv hx.2.2.2.2.1 hy.2.2.2.2.1 hx.2.2.2.2.2 hy.2.2.2.2.2
      rcases hv with ⟨rfl, he⟩ | ⟨rfl, he⟩
      · have c19 : Steps p.tables e below (s₁.setTop (entryFrame m #[.ref x, .ref y] 3)) (T18.setTop (mkF m 55 #[.val (.ref x), .val (.ref y), .val (.ref y)] [.int 1])) := Steps.trans g18 (by
          refine XS.ifNo X18.here hexec rfl (hb hbytes d47) rfl (i0_eq_f (by decide)) ?_
          refine iconstV X18.here hexec rfl 1 (hb hbytes d50) (by decide) ?_
          refine XS.goto X18.here hexec rfl (pc0 := 51) rfl (hb hbytes d51) (by decide) rfl ?_
          exact Steps.refl _)
        exact ⟨T18, some (.int 1), _, _, _, X18, rfl, rfl, rfl, (fun h => by cases h), ⟨1, rfl, q18.trans hh16, Or.inl ⟨rfl, iff.mp he⟩⟩, fun fs hl => c19.trans (X18.ireturnOut hexec hret rfl (Or.inr (Or.inl rfl)) (hb hbytes d55) hl)⟩
      · have c19 : Steps p.tables e below (s₁.setTop (entryFrame m #[.ref x, .ref y] 3)) (T18.setTop (mkF m 55 #[.val (.ref x), .val (.ref y), .val (.ref y)] [.int 0])) := Steps.trans g18 (by
          refine XS.ifYes X18.here hexec rfl (pc0 := 47) rfl (hb hbytes d47) rfl (i0_eq_t rfl) (by decide) rfl ?_
          refine iconstV X18.here hexec rfl 0 (hb hbytes d54) (by decide) ?_
          exact Steps.refl _)
        exact ⟨T18, some (.int 0), _, _, _, X18, rfl, rfl, rfl, (fun h => by cases h), ⟨0, rfl, q18.trans hh16, Or.inr ⟨rfl, fun q => he (iff.mpr q)⟩⟩, fun fs hl => c19.trans (X18.ireturnOut hexec hret rfl (Or.inr (Or.inl rfl)) (hb hbytes d55) hl)⟩
    · have c13 : Steps p.tables e below (s₁.setTop (entryFrame m #[.ref x, .ref y] 3)) (T11.setTop (mkF m 55 #[.val (.ref x), .val (.ref y), .val (.ref y)] [.int 0])) := c12.trans (by
        refine XS.icmpYes X11.here hexec rfl (pc0 := 33) rfl (hb hbytes d33) rfl (ii_ne_t hcd) (by decide) rfl ?_
        refine iconstV X11.here hexec rfl 0 (hb hbytes d54) (by decide) ?_
        exact Steps.refl _)
      exact ⟨T11, some (.int 0), _, _, _, X11, rfl, rfl, rfl, (fun h => by cases h), ⟨0, rfl, hh11, Or.inr ⟨rfl, Cod.dif hx.2.2.2.2.1 hy.2.2.2.2.1 hcd⟩⟩, fun fs hl => c13.trans (X11.ireturnOut hexec hret rfl (Or.inr (Or.inl rfl)) (hb hbytes d55) hl)⟩
theorem pays {l : Launch} {R : Room} {p : Program} {e : Env} {below : List Frame} {s : State} {sargs : Array Value} {len W : Nat} (x t : Addr) (V : Cell) (cd : Int32) (n : Nat) (f : Nat → Int32) (y t' : Addr) (V' : Cell) (cd' : Int32) (k : Nat) (g : Nat → Int32) (z : Int32) (htab : tab.before sargs s = true) (hfr : 2 ≤ R.frames) (hlo : W + 28 ≤ R.locals) :
    Back l R p e below s sargs yN len W (fun A₁ a₁ => A₁.cells + 0 ≤ R.cells ∧ A₁.slots + 0 ≤ R.slots ∧ P x t V cd n f y t' V' cd' k g z a₁ A₁.U) (fun A₁ _ v₁ B₁ => Says01 (SameT n f k g) v₁ A₁.U B₁.U ∧ B₁.locs = A₁.locs ++ [] ∧ B₁.cells = A₁.cells + 0 ∧ B₁.slots = A₁.slots + 0) :=
  (law l x t V cd n f y t' V' cd' k g z).pays htab hfr (by omega)
end SEq
end StrChars
namespace StrChars.Road
open Jvm Sem ClassFile Op Lib Jvm.Stand Jvm.Free Jvm.Free.XT
open Jvm.Lib.Cold (StaticIs)
/-- the words of String.equals(Object) -/
abbrev wordsEq : List Jvm.Cond := [.code SEq.yN SEq.yB 3 (some .boolean), .initialized ST, .classLink ST 10 ST, .fieldLink ST 38 ST "COMPACT_STRINGS" "Z", .fieldLink ST 15 ST "coder" "B", .fieldLink ST 9 ST "value" "[B", .methodLink ST 541 LEq.yN, .static LEq.yN, .code LEq.yN LEq.yB 3 (some .boolean), .initialized "java/lang/StringLatin1"]
theorem tabEq_of {a : Array Value} {s : State} (h : ∀ w ∈ wordsEq, w.before a s = true) : SEq.tab.before a s = true := by
  have hl : LEq.tab.before a s = true := unparts (wk h (.code LEq.yN LEq.yB 3 (some .boolean))) (wks h (.initialized LEq.yN.cls :: LEq.site))
  have q := consq hl h
  exact unparts (wk q (.code SEq.yN SEq.yB 3 (some .boolean))) (wks q (.initialized SEq.yN.cls :: SEq.site))
theorem movedEq {Z s : State} {a0 args : Array Value} (hZ : Z.Warmed39 s.vm) (hw : ∀ d ∈ wordsEq, d.before a0 Z = true) : ∀ d ∈ wordsEq, d.before args s = true := fun d hd => by
  have t : ∀ d ∈ wordsEq, (d.onTables && d.keepsFace) = true := by decide +kernel
  exact RoadKit.mv hZ (hw d hd) (t d hd)
/-- the road's facts of a String, as the laws ask it -/
theorem txt_of {Z U : State} {a0 : Array Value} {kI : Nat} (wi : (Jvm.Cond.instantiable ST kI).before a0 Z = true) (al : Z.vm.Alike U.vm) {x t : Addr} {kb : ClassId} {cs : List Int32} {cd N2 : Int32} {vs : List Value} (E : RoadKit.Exa Z U.heap x ST) (V : RoadKit.Fld Z U.heap x ST "value" "[B" (.ref t)) (C : RoadKit.Fld Z U.heap x ST "coder" "B" (.int cd)) (K : RoadKit.Arv Z U.heap t kb .byte N2 vs (.int 0)) (hc : CodA cs cd N2 vs) (hb : ∀ c ∈ cs, ¬ c < 0 ∧ ¬ (65535 : Int32) < c) (l2 : cs.length ≤ 4000) :
    ∃ A, Txt x t A cd cs.length (fun j => cs.getD j 0) U := by
  obtain ⟨A, K1, K2, K3, K4, K5, K6⟩ := K
  have hcod := hc.cod (by omega) K3 K5
  obtain ⟨D, fV, fC, hB, F1, F2, g1, g2, -, -⟩ := strObj wi al E V C
  exact ⟨A, ⟨_, hB.2.2.1, D, hB.1, rfl, by cases q : D.vm <;> first | rfl | exact absurd q (hB.2.1.2 _)⟩, Has.of hB F1 g1, Has.of hB F2 g2, ⟨K1.1, State.isArrayOf_alike al K1.2.1, K1.2.2, by rcases hcod with ⟨-, q, -⟩ | ⟨-, q, -⟩ <;> omega⟩, hcod, fun j hj => by
    have e : cs.getD j 0 = cs[j] := by simp [List.getD_eq_getElem?_getD, hj]
    show ¬ cs.getD j 0 < 0 ∧ ¬ 65535 < cs.getD j 0
    rw [e]; exact hb _ (List.getElem_mem _)⟩
theorem same_list (cs ds : List Int32) : SameT cs.length (fun j => cs.getD j 0) ds.length (fun j => ds.getD j 0) ↔ cs = ds := by
  constructor
  · rintro ⟨e, q⟩
    refine List.ext_getElem e fun j h1 h2 => ?_
    have := q j h1
    simpa [List.getD_eq_getElem?_getD, h1, h2] using this
  · rintro rfl
    exact ⟨rfl, fun _ _ => rfl⟩
/-- **equals(Object) OF TWO SUCH STRINGS**: 1 just where the chars are the same -/
theorem eqW {p : Program} {l : Launch} {e : Env} {R : Room} {s : State} {args : Array Value} {below : List Frame} {len W : Nat} {Z : State} {a0 : Array Value} {h : Heap} (hZ : Z.Warmed39 s.vm) (hw : ∀ d ∈ wordsEq, d.before a0 Z = true) {kI : Nat} (wi : (Jvm.Cond.instantiable ST kI).before a0 Z = true)
    {x t : Addr} {kb : ClassId} {cs : List Int32} {cd N2 : Int32} {vs : List Value} (E : RoadKit.Exa Z h x ST) (V : RoadKit.Fld Z h x ST "value" "[B" (.ref t)) (C : RoadKit.Fld Z h x ST "coder" "B" (.int cd)) (K : RoadKit.Arv Z h t kb .byte N2 vs (.int 0)) (hc : CodA cs cd N2 vs) (hb : ∀ c ∈ cs, ¬ c < 0 ∧ ¬ (65535 : Int32) < c) (l2 : cs.length ≤ 4000)
    {y t' : Addr} {kb' : ClassId} {ds : List Int32} {cd' N2' : Int32} {vs' : List Value} (E' : RoadKit.Exa Z h y ST) (V' : RoadKit.Fld Z h y ST "value" "[B" (.ref t')) (C' : RoadKit.Fld Z h y ST "coder" "B" (.int cd')) (K' : RoadKit.Arv Z h t' kb' .byte N2' vs' (.int 0)) (hc' : CodA ds cd' N2' vs') (hb' : ∀ c ∈ ds, ¬ c < 0 ∧ ¬ (65535 : Int32) < c) (l2' : ds.length ≤ 4000)
    {z : Int32} (S : RoadKit.Sta Z h ST "COMPACT_STRINGS" "Z" (.int z)) (hz : ¬ z = 0) (hfr : 2 ≤ R.frames) (hlo : W + 28 ≤ R.locals) :
    Back l R p e below s args (⟨"java/lang/String", "equals", "(Ljava/lang/Object;)Z"⟩ : MethodName) len W (fun P a => a = #[.ref x, .ref y] ∧ P.U.heap = h ∧ P.cells + 0 ≤ R.cells ∧ P.slots + 0 ≤ R.slots)
      (fun P _ v B => ∃ L, (((v = some (.int 1) ∧ cs = ds) ∨ (v = some (.int 0) ∧ ¬ cs = ds)) ∧ L = [] ∧ B.U.heap = h) ∧ B.locs = P.locs ++ L ∧ B.cells = P.cells + 0 ∧ B.slots = P.slots + 0) := by
  intro m meth c P g ig mk a X hg hsize hdg hW hn hp'
  obtain ⟨rfl, rfl, r1, r2⟩ := hp'
  have al : Z.vm.Alike P.U.vm := hZ.alike.trans X.warmed.alike
  obtain ⟨A, hx⟩ := txt_of wi al E V C K hc hb l2
  obtain ⟨A', hy⟩ := txt_of wi al E' V' C' K' hc' hb' l2'
  obtain ⟨v, B, X', ⟨⟨w, hv, hh, hq⟩, hl, hk, hs⟩, st⟩ := SEq.pays x t A cd cs.length (fun j => cs.getD j 0) y t' A' cd' ds.length (fun j => ds.getD j 0) z (tabEq_of (movedEq hZ hw)) hfr hlo m meth c P g ig mk _ X hg hsize hdg hW hn ⟨r1, r2, rfl, hx, hy, sta_is al S, hz⟩
  refine ⟨v, B, X', ⟨[], ⟨?_, rfl, hh⟩, hl, hk, hs⟩, st⟩
  rcases hq with ⟨rfl, q⟩ | ⟨rfl, q⟩
  · exact Or.inl ⟨hv, (same_list cs ds).mp q⟩
  · exact Or.inr ⟨hv, fun e => q ((same_list cs ds).mpr e)⟩
end StrChars.Road
end Jvm.Pilot.@@N@@
namespace Jvm.Pilot.@@N@@
open Jvm Jvm.ClassFile Sem Op Lib Jvm.Free Jvm.Stand Jvm.LawKit Jvm.RoadKit Bundle Jvm.Free.Exc Jvm.Pilot.@@N@@.Jvm.D
theorem tw {a0 : Array Value} {Z : State} (hw : ∀ d ∈ tables_1, d.before a0 Z = true) (k : Nat) {d : Jvm.Cond} (h : tables_1[k]? = some d) : d.before a0 Z = true := hw d (List.mem_of_getElem? h)
abbrev Dk (c : ByteArray) (n : Nat) (i : Instr) (k : Nat) : Prop := decode c n = .ok (i, k)
theorem own_k {P : Prop} (h : P := by decide +kernel) : P := h
theorem own_b {P : Prop} (h : P := by first | decide | (dsimp only [Pt.cells, Pt.slots]; omega) | (dsimp only; omega) | omega) : P := h
def own_Go (p : Program) (e : Env) (below : List Frame) (A : State) (G : Outcome → State → Prop) : Prop := ∃ s₂ o, Steps p.tables e below A s₂ ∧ s₂.status = .running ∧ Ended s₂ below o ∧ G o s₂
theorem own_go {p : Program} {e : Env} {below : List Frame} {A B : State} {G : Outcome → State → Prop} (st : ∀ t, Steps p.tables e below B t → Steps p.tables e below A t) (k : own_Go p e below B G) : own_Go p e below A G := by
  obtain ⟨t, o, h1, h2⟩ := k
  exact ⟨t, o, st t h1, h2⟩
theorem og {p : Program} {e : Env} {below : List Frame} {A B : State} {G : Outcome → State → Prop} (st : ∀ t, Steps p.tables e below B t → Steps p.tables e below A t) (k : own_Go p e below B G) : own_Go p e below A G := own_go st k
theorem own_gos {p : Program} {e : Env} {below : List Frame} {A B : State} {G : Outcome → State → Prop} (st : Steps p.tables e below A B) (k : own_Go p e below B G) : own_Go p e below A G := by
  obtain ⟨t, o, h1, h2⟩ := k
  exact ⟨t, o, st.trans h1, h2⟩
theorem own_fin {p : Program} {l : Launch} {e : Env} {R : Room} {s : State} {m : MethodId} {args : Array Value} {below : List Frame} {meth : Method} {c : Code} {T : State} {locs : List Loc} {cells slots : Nat} (X : Stand p l e R s m args below meth c T locs cells slots) {v : Option Value} (hv : meth.sig.returnType = none → v = none) (hl : meth.locks = false) {A : State}
    (ret : ∀ fs : List Frame, (∀ (f : JFrame) (acts : List Action), f.method = m → f.locked = none → f.entered = [] → (doReturn e (T.setTop f) acts v).1 = T.setFrames fs) → Steps p.tables e below A (T.setFrames fs)) {QQ : Option Value → Heap → List Loc → Prop} (hQ : QQ v T.heap locs) {C S : Nat} (hc : cells ≤ C) (hs : slots ≤ S) :
    own_Go p e below A (fun o U' => ∃ v L, o = .returned v ∧ QQ v U'.heap L ∧ FrameEnd s o U' L C S) := by
  obtain ⟨fs, hr, hrun, hended, hW, hsame⟩ := X.leave hv hl
  exact ⟨_, _, ret fs hr, hrun, hended, v, locs, rfl, hQ, ⟨_, rfl⟩, hW, hsame.mono hc hs⟩
theorem own_finW {p : Program} {l : Launch} {e : Env} {R : Room} {s : State} {vm1 : Vm} {m : MethodId} {args : Array Value} {below : List Frame} {meth : Method} {c : Code} {T : State} {locs : List Loc} {cells slots : Nat} (X : Stand p l e R (s.setVm vm1) m args below meth c T locs cells slots) {h0 h : Heap} (hh : s.heap = h0) {Z : State} {a0 : Array Value} (hZ : Z.Warmed39 (s.setVm vm1).vm) {n : Nat} (hS : s.Since vm1 n) (hn : n ≤ T.heap.size) {v : Option Value} (hv : meth.sig.returnType = none → v = none) (hl : meth.locks = false) {A : State}
    (ret : ∀ fs : List Frame, (∀ (f : JFrame) (acts : List Action), f.method = m → f.locked = none → f.entered = [] → (doReturn e (T.setTop f) acts v).1 = T.setFrames fs) → Steps p.tables e below A (T.setFrames fs)) {QQ : Option Value → Heap → List Loc → Prop} (hQ : QQ v T.heap locs) {EL : List (String × Nat)} (hEL : EW Z a0 EL) (eT : T.heap = h) (C : CHr Z EL s.vm h0 vm1 h) {CC SS : Nat} (hc : cells ≤ CC) (hs : slots ≤ SS) :
    own_Go p e below A (fun o U' => ∃ v L, o = .returned v ∧ QQ v U'.heap L ∧ CHr Z EL s.vm s.heap U'.vm U'.heap ∧ ReturnedEndW s o U' L CC SS) := by
  obtain ⟨fs, hr, hrun, hended, hE⟩ := X.leaveW hS hn hv hl
  have hC := C.trans (CHv.at X hZ hEL C.1)
  subst hh eT
  exact ⟨_, _, ret fs hr, hrun, hended, v, locs, rfl, hQ, hC, hE.1, hE.2.1, hE.2.2.1, hE.2.2.2.mono hc hs⟩
def own_EL : List (String × Nat) := [("com/example/cohortwise/cohortwise/cli/Arguments", 142), ("java/lang/String", 7)]
theorem own_wSt {Z : State} {a0 : Array Value} (hw : ∀ d ∈ tables_1, d.before a0 Z = true) : ∀ a ∈ Bundle.stringAtoms, a.before a0 Z = true := fun d hd => hw d ((by decide +kernel : ∀ d ∈ Bundle.stringAtoms, d ∈ tables_1) d hd)
theorem own_hELt {Z : State} {a0 : Array Value} (hw : ∀ d ∈ tables_1, d.before a0 Z = true) : EW Z a0 own_EL := (EW.cons (hw _ (List.mem_of_getElem? (i := 59) rfl)) (by decide) (EW.cons (hw _ (List.mem_of_getElem? (i := 15) rfl)) (by decide) EW.nil))
theorem own_and255 (x : Int32) : ¬ nar .char ((x &&& (255 : Int32)).toUInt32.toUInt16.toUInt32.toInt32) < 0 ∧ ¬ (255 : Int32) < nar .char ((x &&& (255 : Int32)).toUInt32.toUInt16.toUInt32.toInt32) := by
  have t : ∀ k : Fin 256, ¬ nar .char ((Int32.ofNat k.val).toUInt32.toUInt16.toUInt32.toInt32) < 0 ∧ ¬ (255 : Int32) < nar .char ((Int32.ofNat k.val).toUInt32.toUInt16.toUInt32.toInt32) := by decide +kernel
  have h : (x &&& 255).toBitVec.toNat < 256 := by
    simp only [Int32.toBitVec_and, BitVec.toNat_and]
    exact Nat.lt_succ_of_le Nat.and_le_right
  have e : (x &&& 255) = Int32.ofNat (x &&& 255).toBitVec.toNat := by
    apply Int32.toBitVec_inj.mp
    show _ = BitVec.ofNat 32 _
    rw [BitVec.ofNat_toNat]; simp
  rw [e]
  exact t ⟨_, h⟩
theorem own_up (cs : List Int32) (h : ∀ c ∈ cs, ¬ c < 0 ∧ ¬ (255 : Int32) < c) : ∀ c ∈ cs, ¬ c < 0 ∧ ¬ (65535 : Int32) < c := fun c hc => ⟨(h c hc).1, fun q => (h c hc).2 (by rw [Int32.lt_iff_toInt_lt] at q ⊢; have e1 : (65535 : Int32).toInt = 65535 := rfl; have e2 : (255 : Int32).toInt = 255 := rfl; omega)⟩
theorem own_safeNull {Z : State} {EL : List (String × Nat)} {vm : Vm} {h : Heap} {x : Addr} (hal : Z.vm.Alike vm) (E : Exa Z h x "java/lang/String") (F : Fld Z h x "java/lang/String" "value" "[B" .null) : Safe Z EL vm h x := fun B => by
  obtain ⟨cell, k, e1, e2, e3, -, -⟩ := E
  obtain ⟨cell', cf, kf, i, f, f1, f2, -, -, -, -, f7⟩ := F
  cases e1.symm.trans f1
  obtain ⟨p, -, u, a, -, q, -, G, rfl | rfl⟩ := B
  · cases (show h[q.sa]? = some q.sC from G.ha).symm.trans e1
    obtain ⟨cS, ⟨⟨s1, s2, s3, ⟨cv, kv, iv, s4, s4'⟩, -, s6, s7, s8, -⟩, -⟩, -⟩ := G
    obtain ⟨k', hf'⟩ := ff_back (U := Wst Z vm h) hal s4
    cases f2.symm.trans hf'
    rw [f7] at s8
    cases s8
  · cases (show h[q.sd]? = some q.SA from G.hd).symm.trans e1
    obtain ⟨cS, -, -, hB, -⟩ := G
    have hB : vm.findClass "[B" = some q.SA.cls := hB
    rw [hal.findClass] at hB
    obtain ⟨k1, q1, q2⟩ := Vm.findClass_spec hB
    obtain ⟨k2, q3, q4⟩ := Vm.findClass_spec e2
    cases q1.symm.trans q3
    exact absurd (q2.symm.trans q4) (by decide)
theorem own_gl {p : Program} {l : Launch} {e : Env} {R : Room} {s : State} {m : MethodId} {args : Array Value} {below : List Frame} {meth : Method} {c : Code} {T : State} {locs : List Loc} {cells slots n0 : Nat} (X : Stand p l e R s m args below meth c T locs cells slots) (N : Fr n0 locs) : ∃ L, Stand p l e R s m args below meth c T L cells slots ∧ Fr n0 L := ⟨_, X, N⟩
theorem own_catR {v : Value} (h : v.isRef = true) : v.category = 1 := by cases v <;> first | rfl | cases h
def QPure (r : Option Value) (h0 : Heap) (n0 : Nat) (v : Option Value) (h : Heap) (L : List Loc) : Prop := v = r ∧ Fr n0 L ∧ h = h0
theorem own_selP {Z s : State} {a0 args : Array Value} {y : MethodName} {n : Nat} (hZ : Z.Warmed39 s.vm) (wi : (Cond.instantiable y.cls n).before a0 Z = true) (wp : (Cond.privateMethod y).before a0 Z = true) (wm : (Cond.instanceMethod y).before a0 Z = true) (hy : y.cls ≠ "java/lang/invoke/MethodHandle" ∧ y.cls ≠ "java/lang/invoke/VarHandle") : (Cond.selects y.cls y y).before args s = true := by
  have wi' : (Cond.instantiable y.cls n).before args s = true := mvT hZ wi
  have wm' : (Cond.instanceMethod y).before args s = true := mvT hZ wm
  obtain ⟨c, k, h1, h2, h3, h4⟩ := Cond.instantiable_spec wi'
  refine Jvm.Stand.selects_self_of_private h1 h2 ?_ (Cond.privateMethod_at (mvP hZ wp (args := args))) wm' hy
  have h5 := h4.1
  cases hi : k.isInterface <;> simp_all
theorem own_ti {i : Nat} (h : i < 2147483648) : (Int32.ofNat i).toInt = (i : Int) := Int32.toInt_ofNat_of_lt (by omega)
theorem own_tn {i : Nat} (h : i < 2147483648) : (Int32.ofNat i).toNatClampNeg = i := by
  show (Int32.ofNat i).toInt.toNat = i
  rw [own_ti h]; rfl
theorem own_nn0 {i : Nat} (h : i < 2147483648) : ¬ Int32.ofNat i < (0 : Int32) := by
  rw [Int32.lt_iff_toInt_lt, own_ti h]
  show ¬ (i : Int) < 0
  omega
theorem own_lti {i j : Nat} (hi : i < 2147483648) (hj : j < 2147483648) : Int32.ofNat i < Int32.ofNat j ↔ i < j := by
  rw [Int32.lt_iff_toInt_lt, own_ti hi, own_ti hj]; omega
theorem own_inc (i : Nat) : Int32.ofNat i + (1 : Int32) = Int32.ofNat (i + 1) := (Int32.ofNat_add i 1).symm
theorem own_inb {i j : Nat} (hi : i < j) (hj : j < 2147483648) : ¬ Int32.ofNat i < (0 : Int32) ∧ Int32.ofNat i < Int32.ofNat j := ⟨own_nn0 (by omega), (own_lti (by omega) hj).mpr hi⟩
theorem own_shl1 {n : Nat} (h : n ≤ 4000) : Int32.ofNat n <<< ((1 : Int32) &&& 31) = Int32.ofNat (2 * n) := by
  apply Int32.toBitVec_inj.mp
  show (BitVec.ofNat 32 n) <<< ((((1 : Int32) &&& 31).toBitVec).smod 32#32) = BitVec.ofNat 32 (2 * n)
  have e : (((1 : Int32) &&& 31).toBitVec).smod 32#32 = 1#32 := by decide
  rw [e]
  apply BitVec.eq_of_toNat_eq
  rw [BitVec.shiftLeft_eq', BitVec.toNat_shiftLeft, BitVec.toNat_ofNat, BitVec.toNat_ofNat, Nat.shiftLeft_eq]
  show n % 4294967296 * 2 % 4294967296 = 2 * n % 4294967296
  omega
theorem own_nb (x : Int32) : nar .byte (x.toInt8.toInt32) = x.toInt8.toInt32 := by simp [nar]
theorem own_nc {c : Int32} (h0 : ¬ c < 0) (h1 : ¬ (65535 : Int32) < c) : nar .char c = c := by
  have h := StrChars.narrow_ch h0 h1
  exact Value.int.inj h
def own_lat (cs : List Int32) : List Value := cs.map fun c => Value.int (StrChars.lo8 c)
def own_part (cs : List Int32) (i : Nat) : List Value := own_lat (cs.take i) ++ List.replicate (cs.length - i) (Value.int (0 : Int32))
def own_wpart (cs : List Int32) (i : Nat) : List Value := StrChars.Road.wideBytes (cs.take i) ++ List.replicate (2 * (cs.length - i)) (Value.int (0 : Int32))
theorem own_gd {cs : List Int32} {i n : Nat} {d : Value} (hn : cs.length = n) (hi : i < n) (h : n < 2147483648) : (cs.map Value.int).getD (Int32.ofNat i).toNatClampNeg d = Value.int (cs.getD i 0) := by
  rw [own_tn (by omega)]
  simp [List.getD_eq_getElem?_getD, hn, hi]
theorem own_set1 {cs : List Int32} {i : Nat} (hi : i < cs.length) : (own_part cs i).set i (Value.int (StrChars.lo8 (cs.getD i 0))) = own_part cs (i + 1) := by
  apply List.ext_getElem?
  intro j
  simp only [own_part, own_lat, List.getElem?_set, List.getElem?_append, List.length_append, List.length_map, List.length_take, List.length_replicate, List.getElem?_map, List.getElem?_take, List.getElem?_replicate]
  have e : cs.getD i 0 = cs[i] := by simp [List.getD_eq_getElem?_getD, hi]
  by_cases q : i = j
  · subst q
    have h1 : i < min i cs.length + (cs.length - i) := by omega
    have h2 : i < min (i + 1) cs.length := by omega
    rw [if_pos rfl, if_pos h1, if_pos h2, if_pos (by omega), e]
    simp [hi]
  · rw [if_neg q]
    by_cases a : j < i
    · have h1 : j < min i cs.length := by omega
      have h2 : j < min (i + 1) cs.length := by omega
      rw [if_pos h1, if_pos h2, if_pos a, if_pos (by omega)]
    · have h1 : ¬ j < min i cs.length := by omega
      have h2 : ¬ j < min (i + 1) cs.length := by omega
      rw [if_neg h1, if_neg h2]
      by_cases b : j < cs.length
      · rw [if_pos (by omega), if_pos (by omega)]
      · rw [if_neg (by omega), if_neg (by omega)]
theorem own_part0 (cs : List Int32) : own_part cs 0 = List.replicate cs.length (Value.int (0 : Int32)) := by simp [own_part, own_lat]
theorem own_partn (cs : List Int32) : own_part cs cs.length = own_lat cs := by simp [own_part]
theorem own_partl {cs : List Int32} {i : Nat} (hi : i ≤ cs.length) : (own_part cs i).length = cs.length := by simp [own_part, own_lat]; omega
theorem own_wl : ∀ cs : List Int32, (StrChars.Road.wideBytes cs).length = 2 * cs.length
  | [] => rfl
  | _ :: cs => by simp [StrChars.Road.wideBytes, own_wl cs]; omega
theorem own_wa : ∀ (as bs : List Int32), StrChars.Road.wideBytes (as ++ bs) = StrChars.Road.wideBytes as ++ StrChars.Road.wideBytes bs
  | [], _ => rfl
  | a :: as, bs => by simp [StrChars.Road.wideBytes, own_wa as bs]
theorem own_set2 {cs : List Int32} {i : Nat} (hi : i < cs.length) : ((own_wpart cs i).set (2 * i) (Value.int (StrChars.lo8 (cs.getD i 0)))).set (2 * i + 1) (Value.int (StrChars.hi8 (cs.getD i 0))) = own_wpart cs (i + 1) := by
  have e : cs.take (i + 1) = cs.take i ++ [cs[i]] := by rw [List.take_succ_eq_append_getElem hi]
  have e2 : cs.getD i 0 = cs[i] := by simp [List.getD_eq_getElem?_getD, hi]
  have e3 : List.replicate (2 * (cs.length - i)) (Value.int (0 : Int32)) = Value.int 0 :: Value.int 0 :: List.replicate (2 * (cs.length - (i + 1))) (Value.int (0 : Int32)) := by
    rw [show 2 * (cs.length - i) = 2 * (cs.length - (i + 1)) + 1 + 1 by omega]; rfl
  have l : (StrChars.Road.wideBytes (cs.take i)).length = 2 * i := by rw [own_wl, List.length_take]; omega
  unfold own_wpart
  rw [e, e2, own_wa, e3, List.set_append_right _ _ (by omega), l, Nat.sub_self, List.set_cons_zero, List.set_append_right _ _ (by omega), l, show 2 * i + 1 - 2 * i = 0 + 1 by omega, List.set_cons_succ, List.set_cons_zero, List.append_assoc]
  rfl
theorem own_wpart0 (cs : List Int32) : own_wpart cs 0 = List.replicate (2 * cs.length) (Value.int (0 : Int32)) := by simp [own_wpart, StrChars.Road.wideBytes]
theorem own_wpartn (cs : List Int32) : own_wpart cs cs.length = StrChars.Road.wideBytes cs := by simp [own_wpart]
theorem own_wpartl {cs : List Int32} {i : Nat} (hi : i ≤ cs.length) : (own_wpart cs i).length = 2 * cs.length := by simp [own_wpart, own_wl]; omega
theorem own_rpl {n : Nat} : (List.replicate n (Value.int (0 : Int32))).length = n := List.length_replicate
def own_Ok (cs : List Int32) : Prop := (∀ c ∈ cs, ¬ c < 0 ∧ ¬ (65535 : Int32) < c) ∧ cs.length ≤ 4000
theorem own_Ok.at {cs : List Int32} (h : own_Ok cs) {i : Nat} (hi : i < cs.length) : ¬ cs.getD i 0 < 0 ∧ ¬ (65535 : Int32) < cs.getD i 0 := by
  have e : cs.getD i 0 = cs[i] := by simp [List.getD_eq_getElem?_getD, hi]
  rw [e]; exact h.1 _ (List.getElem_mem _)
theorem own_all {cs : List Int32} (h : ∀ j, j < cs.length → ¬ (255 : Int32) < cs.getD j 0) : ∀ c ∈ cs, ¬ (255 : Int32) < c := fun c hc => by
  obtain ⟨j, hj, rfl⟩ := List.getElem_of_mem hc
  have := h j hj
  rwa [show cs.getD j 0 = cs[j] by simp [List.getD_eq_getElem?_getD, hj]] at this
def own_cfa (n N2 : Int32) : Int32 := (((n - N2).toUInt32 >>> ((31 : Int32) &&& 31).toUInt32).toInt32).toInt8.toInt32
theorem own_cfa1 {k : Nat} (h1 : 0 < k) (h2 : k ≤ 4000) : own_cfa (Int32.ofNat k) (Int32.ofNat (2 * k)) = 1 := by
  have q : ((Int32.ofNat k - Int32.ofNat (2 * k)).toUInt32 >>> ((31 : Int32) &&& 31).toUInt32).toInt32 = 1 := by
    apply Int32.toBitVec_inj.mp
    show (BitVec.ofNat 32 k - BitVec.ofNat 32 (2 * k)) >>> ((((31 : Int32) &&& 31).toUInt32.mod 32).toBitVec) = 1#32
    have e : (((31 : Int32) &&& 31).toUInt32.mod 32).toBitVec = 31#32 := by decide
    rw [e]
    apply BitVec.eq_of_toNat_eq
    rw [BitVec.ushiftRight_eq', BitVec.toNat_ushiftRight, BitVec.toNat_sub, BitVec.toNat_ofNat, BitVec.toNat_ofNat, Nat.shiftRight_eq_div_pow]
    show (4294967296 - 2 * k % 4294967296 + k % 4294967296) % 4294967296 / 2147483648 = 1
    omega
  unfold own_cfa; rw [q]; decide
theorem own_cod {cs : List Int32} {cd N2 : Int32} {vs : List Value} (h : StrChars.Road.CodA cs cd N2 vs) (h1 : 0 < cs.length) (h2 : cs.length ≤ 4000) : own_cfa (Int32.ofNat cs.length) N2 = cd := by
  rcases h with ⟨rfl, rfl, -⟩ | ⟨rfl, rfl, -⟩
  · unfold own_cfa; rw [Int32.sub_self]; decide
  · exact own_cfa1 h1 h2
theorem own_cd01 {cs : List Int32} {cd N2 : Int32} {vs : List Value} (h : StrChars.Road.CodA cs cd N2 vs) : cd = 0 ∨ cd = 1 := h.imp (fun q => q.1) fun q => q.1
def QC5 (Z : State) (b : Addr) (kb : ClassId) (cs : List Int32) (h0 : Heap) (n0 : Nat) (v : Option Value) (h : Heap) (L : List Loc) : Prop := ∃ r : Nat, v = some (.int (Int32.ofNat r)) ∧ Fr n0 L ∧ Keep h0 h [b] ∧ ((r = cs.length ∧ (∀ c ∈ cs, ¬ (255 : Int32) < c) ∧ Arv Z h b kb .byte (Int32.ofNat cs.length) (own_lat cs) (.int (0 : Int32))) ∨ (r < cs.length ∧ (255 : Int32) < cs.getD r 0))
def QPut (Z : State) (b : Addr) (kb : ClassId) (N : Int32) (vs : List Value) (h0 : Heap) (n0 : Nat) (v : Option Value) (h : Heap) (L : List Loc) : Prop := v = none ∧ Fr n0 L ∧ Keep h0 h [b] ∧ Arv Z h b kb .byte N vs (.int (0 : Int32))
def QNew (Z : State) (N : Int32) (vs : List Value) (h0 : Heap) (n0 : Nat) (v : Option Value) (h : Heap) (L : List Loc) : Prop := ∃ (t : Addr) (k : ClassId), v = some (.ref t) ∧ Fr n0 L ∧ Keep h0 h [] ∧ h0.size ≤ t ∧ Arv Z h t k .byte N vs (.int (0 : Int32))
def QCmp (Z : State) (cs : List Int32) (h0 : Heap) (n0 : Nat) (v : Option Value) (h : Heap) (L : List Loc) : Prop := ∃ (t : Addr) (k : ClassId) (cd N2 : Int32) (vs : List Value), v = some (.ref t) ∧ Fr n0 L ∧ Keep h0 h [] ∧ h0.size ≤ t ∧ Arv Z h t k .byte N2 vs (.int (0 : Int32)) ∧ StrChars.Road.CodA cs cd N2 vs
def QSt (Z : State) (x : Addr) (cs : List Int32) (h0 : Heap) (n0 : Nat) (v : Option Value) (h : Heap) (L : List Loc) : Prop := ∃ (t : Addr) (k : ClassId) (cd N2 : Int32) (vs : List Value), v = none ∧ Fr n0 L ∧ Keep h0 h [x] ∧ Fld Z h x "java/lang/String" "value" "[B" (.ref t) ∧ Fld Z h x "java/lang/String" "coder" "B" (.int cd) ∧ Arv Z h t k .byte N2 vs (.int (0 : Int32)) ∧ StrChars.Road.CodA cs cd N2 vs
theorem own_i2c (x : Int32) : ¬ x.toUInt32.toUInt16.toUInt32.toInt32 < 0 ∧ ¬ (65535 : Int32) < x.toUInt32.toUInt16.toUInt32.toInt32 := by
  obtain ⟨u, hu⟩ : ∃ u, u = x.toUInt32.toUInt16 := ⟨_, rfl⟩
  rw [← hu]
  have h : u.toUInt32.toInt32.toInt = (u.toNat : Int) := by
    have h1 : u.toUInt32.toInt32 = Int32.ofNat u.toNat := by
      apply Int32.toBitVec_inj.mp
      apply BitVec.eq_of_toNat_eq
      have := u.toNat_lt
      show u.toUInt32.toNat = (BitVec.ofNat 32 u.toNat).toNat
      rw [UInt16.toNat_toUInt32, BitVec.toNat_ofNat]; omega
    rw [h1]; exact own_ti (by have := u.toNat_lt; omega)
  have hl := u.toNat_lt
  rw [Int32.lt_iff_toInt_lt, Int32.lt_iff_toInt_lt, h]
  have e0 : (0 : Int32).toInt = 0 := rfl
  have e1 : (65535 : Int32).toInt = 65535 := rfl
  rw [e0, e1]; omega
theorem own_none : ∀ c ∈ ([] : List Int32), ¬ c < 0 ∧ ¬ (255 : Int32) < c := fun c hc => nomatch hc
theorem own_i3 (x : Int32) : (x &&& (3 : Int32)) = 0 ∨ (x &&& (3 : Int32)) = 1 ∨ (x &&& (3 : Int32)) = 2 ∨ (x &&& (3 : Int32)) = 3 := by
  have t : ∀ k : Fin 4, (Int32.ofNat k.val) = 0 ∨ (Int32.ofNat k.val) = 1 ∨ (Int32.ofNat k.val) = 2 ∨ (Int32.ofNat k.val) = 3 := by decide +kernel
  have h : (x &&& 3).toBitVec.toNat < 4 := by
    simp only [Int32.toBitVec_and, BitVec.toNat_and]
    exact Nat.lt_succ_of_le Nat.and_le_right
  have e : (x &&& 3) = Int32.ofNat (x &&& 3).toBitVec.toNat := by
    apply Int32.toBitVec_inj.mp
    show _ = BitVec.ofNat 32 _
    rw [BitVec.ofNat_toNat]; simp
  rw [e]
  exact t ⟨_, h⟩
theorem own_selQ {Z s : State} {a0 args : Array Value} {y : MethodName} {C : String} (hZ : Z.Warmed39 s.vm) (wsel : (Cond.selects C y y).before a0 Z = true) (wp : (Cond.privateMethod y).before a0 Z = true) (wm : (Cond.instanceMethod y).before a0 Z = true) (hy : y.cls ≠ "java/lang/invoke/MethodHandle" ∧ y.cls ≠ "java/lang/invoke/VarHandle") : (Cond.selects y.cls y y).before args s = true := by
  have ws' : (Cond.selects C y y).before args s = true := mvT hZ wsel
  have wm' : (Cond.instanceMethod y).before args s = true := mvT hZ wm
  obtain ⟨c, r, m2, -, -, q3, -, mk, hk, hi⟩ := Cond.selects_spec ws'
  exact Jvm.Stand.selects_self_of_private (findClass_of_methodNamed q3) hk hi (Cond.privateMethod_at (mvP hZ wp (args := args))) wm' hy
theorem own_same {Z : State} {a0 : Array Value} {y u : MethodName} {C : String} (w3 : (Cond.instanceMethod y).before a0 Z = true) (ws : (Cond.selects C u u).before a0 Z = true) (hc : u.cls = y.cls) (hmh : y.cls ≠ "java/lang/invoke/MethodHandle" ∧ y.cls ≠ "java/lang/invoke/VarHandle") : (Cond.sameMethod y.cls y.cls y.name y.desc).before a0 Z = true := by
  obtain ⟨m, meth, hn, hm, -, -⟩ := Cond.instanceMethod_spec w3
  have hf := State.methodFound?_of_named hn hmh
  obtain ⟨c, r, m2, -, -, q3, -, mk, hk, hi⟩ := Cond.selects_spec ws
  have e1 := findClass_of_methodNamed hn
  have e2 := findClass_of_methodNamed q3
  rw [hc] at e2
  have e3 : m.cls = m2.cls := Option.some.inj (e1.symm.trans e2)
  have hn' : Z.methodNamed? ⟨y.cls, y.name, y.desc⟩ = some m := hn
  simp only [Cond.before, Cond.holds, Cond.value, e1, hf, hn', e3, hk]
  simp [hi]
theorem own_nf {s : State} {args : Array Value} {y u : MethodName} {C : String} (ws : (Cond.selects C u u).before args s = true) (hc : u.cls = y.cls) : NotFace s y := fun r0 h0 => by
  obtain ⟨c, r, m2, -, -, q3, -, mk, hk, hi⟩ := Cond.selects_spec ws
  have e1 := findClass_of_methodNamed h0
  have e2 := findClass_of_methodNamed q3
  rw [hc] at e2
  have e3 : r0.cls = m2.cls := Option.some.inj (e1.symm.trans e2)
  exact ⟨mk, e3 ▸ hk, hi⟩
def own_z (n : Nat) : List Value := List.replicate n (.int (0 : Int32))
def own_sb0 (cs : List Int32) : List Value := own_lat cs ++ own_z (16 - cs.length)
def own_sb1 (cs : List Int32) : List Value := StrChars.Road.wideBytes cs ++ own_z (32 - 2 * cs.length)
def own_sbN (cd : Int32) : Int32 := if cd = 0 then 16 else 32
def own_sbv (cd : Int32) (cs : List Int32) : List Value := if cd = 0 then own_sb0 cs else own_sb1 cs
def own_cdi (cd : Int32) (cs : List Int32) : Prop := (cd = 0 ∧ ∀ c ∈ cs, ¬ (255 : Int32) < c) ∨ (cd = 1 ∧ ∃ c ∈ cs, (255 : Int32) < c)
theorem own_zl (n : Nat) : (own_z n).length = n := List.length_replicate
theorem own_zs (n : Nat) : own_z (n + 1) = .int (0 : Int32) :: own_z n := rfl
theorem own_latl (cs : List Int32) : (own_lat cs).length = cs.length := List.length_map _
theorem own_lata (as bs : List Int32) : own_lat (as ++ bs) = own_lat as ++ own_lat bs := List.map_append
theorem own_sb0l {cs : List Int32} (h : cs.length ≤ 16) : (own_sb0 cs).length = 16 := by unfold own_sb0; rw [List.length_append, own_latl, own_zl]; omega
theorem own_sb1l {cs : List Int32} (h : cs.length ≤ 16) : (own_sb1 cs).length = 32 := by unfold own_sb1; rw [List.length_append, own_wl, own_zl]; omega
theorem own_ap0 {cs : List Int32} {c : Int32} (h : cs.length < 16) : (own_sb0 cs).set cs.length (.int (StrChars.lo8 c)) = own_sb0 (cs ++ [c]) := by
  unfold own_sb0
  have e : 16 - cs.length = (16 - (cs ++ [c]).length) + 1 := by rw [List.length_append]; simp; omega
  rw [List.set_append_right _ _ (by rw [own_latl]; exact Nat.le_refl _), own_latl, Nat.sub_self, e, own_zs, List.set_cons_zero, own_lata, List.append_assoc]
  rfl
theorem own_wext {xs : List Int32} {c : Int32} {k : Nat} : ((StrChars.Road.wideBytes xs ++ own_z (k + 2)).set (2 * xs.length) (.int (StrChars.lo8 c))).set (2 * xs.length + 1) (.int (StrChars.hi8 c)) = StrChars.Road.wideBytes (xs ++ [c]) ++ own_z k := by
  have l := own_wl xs
  rw [own_zs, own_zs, List.set_append_right _ _ (by omega), l, Nat.sub_self, List.set_cons_zero, List.set_append_right _ _ (by omega), l, show 2 * xs.length + 1 - 2 * xs.length = 0 + 1 by omega, List.set_cons_succ, List.set_cons_zero, own_wa, List.append_assoc]
  rfl
theorem own_ap1 {cs : List Int32} {c : Int32} (h : cs.length < 16) : ((own_sb1 cs).set (2 * cs.length) (.int (StrChars.lo8 c))).set (2 * cs.length + 1) (.int (StrChars.hi8 c)) = own_sb1 (cs ++ [c]) := by
  unfold own_sb1
  have e : 32 - 2 * cs.length = (32 - 2 * (cs ++ [c]).length) + 2 := by rw [List.length_append]; simp; omega
  rw [e]; exact own_wext
theorem own_cdi0 {cs : List Int32} {c : Int32} (h : ∀ c ∈ cs, ¬ (255 : Int32) < c) (q : ¬ (255 : Int32) < c) : own_cdi 0 (cs ++ [c]) := Or.inl ⟨rfl, fun d hd => by
  rcases List.mem_append.mp hd with z | z
  · exact h d z
  · rw [List.mem_singleton.mp z]; exact q⟩
theorem own_cdi1 {cs : List Int32} {c : Int32} (q : (255 : Int32) < c) : own_cdi 1 (cs ++ [c]) := Or.inr ⟨rfl, c, List.mem_append.mpr (Or.inr (List.mem_singleton.mpr rfl)), q⟩
theorem own_cdi2 {cs ds : List Int32} (h : ∃ c ∈ cs, (255 : Int32) < c) : own_cdi 1 (cs ++ ds) := by
  obtain ⟨c, hc, q⟩ := h
  exact Or.inr ⟨rfl, c, List.mem_append.mpr (Or.inl hc), q⟩
theorem own_cdi3 {cs ds : List Int32} (h : ∀ c ∈ cs, ¬ (255 : Int32) < c) (q : ∀ c ∈ ds, ¬ (255 : Int32) < c) : own_cdi 0 (cs ++ ds) := Or.inl ⟨rfl, fun d hd => (List.mem_append.mp hd).elim (h d) (q d)⟩
theorem own_len1 (cs : List Int32) (c : Int32) : Int32.ofNat cs.length + (1 : Int32) = Int32.ofNat (cs ++ [c]).length := by rw [List.length_append]; exact own_inc _
theorem own_ofadd (a b : Nat) : Int32.ofNat a + Int32.ofNat b = Int32.ofNat (a + b) := (Int32.ofNat_add a b).symm
theorem own_lenA (cs ds : List Int32) : Int32.ofNat cs.length + Int32.ofNat ds.length = Int32.ofNat (cs ++ ds).length := by rw [List.length_append]; exact own_ofadd _ _
theorem own_sub16 {m : Nat} (h : m ≤ 16) : ¬ (0 : Int32) < Int32.ofNat m - (16 : Int32) := by
  have t : ∀ k : Fin 17, ¬ (0 : Int32) < Int32.ofNat k.val - (16 : Int32) := by decide
  exact t ⟨m, by omega⟩
theorem own_sb0g {cs : List Int32} {i : Nat} (h : i < cs.length) : (own_sb0 cs).getD i (.int (0 : Int32)) = .int (StrChars.lo8 (cs.getD i 0)) := by
  unfold own_sb0
  rw [List.getD_eq_getElem?_getD, List.getElem?_append_left (by rw [own_latl]; exact h)]
  simp [own_lat, List.getD_eq_getElem?_getD, h]
theorem own_take0 {cs : List Int32} (h : cs.length ≤ 16) : (List.range cs.length).map (fun i => (own_sb0 cs).getD (0 + i) (.int (0 : Int32))) = own_lat cs := by
  apply List.ext_getElem
  · rw [List.length_map, List.length_range, own_latl]
  · intro i h1 h2
    rw [List.getElem_map, List.getElem_range, Nat.zero_add]
    have hi : i < cs.length := by rw [own_latl] at h2; exact h2
    rw [own_sb0g hi]; simp [own_lat, List.getD_eq_getElem?_getD, hi]
theorem own_take1 {cs : List Int32} (h : cs.length ≤ 16) : (List.range (2 * cs.length)).map (fun i => (own_sb1 cs).getD (0 + i) (.int (0 : Int32))) = StrChars.Road.wideBytes cs := by
  apply List.ext_getElem
  · rw [List.length_map, List.length_range, own_wl]
  · intro i h1 h2
    rw [List.getElem_map, List.getElem_range, Nat.zero_add]
    unfold own_sb1
    rw [List.getD_eq_getElem?_getD, List.getElem?_append_left h2, List.getElem?_eq_getElem h2]; rfl
def QInf (Z : State) (d : Addr) (kd : ClassId) (N : Int32) (vs : List Value) (h0 : Heap) (n0 : Nat) (r : Option Value) (h : Heap) (L : List Loc) : Prop := r = none ∧ Fr n0 L ∧ Keep h0 h [d] ∧ Arv Z h d kd .byte N vs (.int (0 : Int32))
def QStrN (Z : State) (cs : List Int32) (h0 : Heap) (n0 : Nat) (v : Option Value) (h : Heap) (L : List Loc) : Prop := ∃ (x t : Addr) (k : ClassId) (cd N2 : Int32) (vs : List Value), v = some (.ref x) ∧ Fr n0 L ∧ Keep h0 h [] ∧ h0.size ≤ x ∧ Exa Z h x "java/lang/String" ∧ Fld Z h x "java/lang/String" "value" "[B" (.ref t) ∧ Fld Z h x "java/lang/String" "coder" "B" (.int cd) ∧ Arv Z h t k .byte N2 vs (.int (0 : Int32)) ∧ StrChars.Road.CodA cs cd N2 vs
def own_ce (c : Int32) : Int32 := if (255 : Int32) < c then 0 else 1
theorem own_ce1 {c : Int32} (h : ¬ own_ce c = 0) : ¬ (255 : Int32) < c := fun q => h (by unfold own_ce; rw [if_pos q])
theorem own_ce0 {c : Int32} (h : own_ce c = 0) : (255 : Int32) < c := by
  by_cases q : (255 : Int32) < c
  · exact q
  · unfold own_ce at h; rw [if_neg q] at h; exact absurd h (by decide)
theorem own_nneg {x : Int32} (h : x.toBitVec.toNat < 2147483648) : ¬ x < 0 := by
  rw [Int32.lt_iff_toInt_lt]
  show ¬ x.toBitVec.toInt < 0
  rw [BitVec.toInt_eq_toNat_of_lt (by omega)]; omega
theorem own_ofN {i : Nat} (h : i < 2147483648) : (Int32.ofNat i).toBitVec.toNat < 2147483648 := by
  show (BitVec.ofNat 32 i).toNat < _
  rw [BitVec.toNat_ofNat]; omega
theorem own_or3 {a b d : Nat} (ha : a < 2147483648) (hb : b < 2147483648) (hd : d < 2147483648) : ¬ (Int32.ofNat a ||| Int32.ofNat b) ||| Int32.ofNat d < 0 := by
  apply own_nneg
  rw [Int32.toBitVec_or, Int32.toBitVec_or, BitVec.toNat_or, BitVec.toNat_or]
  exact Nat.or_lt_two_pow (n := 31) (Nat.or_lt_two_pow (n := 31) (own_ofN ha) (own_ofN hb)) (own_ofN hd)
theorem own_ofsub {n i : Nat} (h : i ≤ n) : Int32.ofNat n - Int32.ofNat i = Int32.ofNat (n - i) := by
  have e : Int32.ofNat n = Int32.ofNat (n - i) + Int32.ofNat i := by rw [own_ofadd, Nat.sub_add_cancel h]
  rw [e, Int32.add_sub_cancel]
theorem own_room3 {N a b : Nat} (h : a + b ≤ N) (hN : N < 2147483648) : ¬ (Int32.ofNat N - Int32.ofNat a) < Int32.ofNat b := by
  rw [own_ofsub (by omega), own_lti (by omega) (by omega)]; omega
def own_wx (M : Nat) (ds cs : List Int32) (i : Nat) : List Value := StrChars.Road.wideBytes (ds ++ cs.take i) ++ own_z (M - 2 * (ds.length + i))
theorem own_wx0 (M : Nat) (ds cs : List Int32) : own_wx M ds cs 0 = StrChars.Road.wideBytes ds ++ own_z (M - 2 * ds.length) := by simp [own_wx]
theorem own_wxn (M : Nat) (ds cs : List Int32) : own_wx M ds cs cs.length = StrChars.Road.wideBytes (ds ++ cs) ++ own_z (M - 2 * (ds ++ cs).length) := by simp [own_wx]
theorem own_wxl {M : Nat} {ds cs : List Int32} {i : Nat} (hi : i ≤ cs.length) (h : 2 * (ds.length + cs.length) ≤ M) : (own_wx M ds cs i).length = M := by
  unfold own_wx; rw [List.length_append, own_wl, own_zl, List.length_append, List.length_take]; omega
theorem own_wxs {M : Nat} {ds cs : List Int32} {i : Nat} (hi : i < cs.length) (h : 2 * (ds.length + cs.length) ≤ M) : ((own_wx M ds cs i).set (2 * (ds.length + i)) (.int (StrChars.lo8 (cs.getD i 0)))).set (2 * (ds.length + i) + 1) (.int (StrChars.hi8 (cs.getD i 0))) = own_wx M ds cs (i + 1) := by
  have e : cs.take (i + 1) = cs.take i ++ [cs.getD i 0] := by rw [List.take_succ_eq_append_getElem hi]; simp [List.getD_eq_getElem?_getD, hi]
  have l : (ds ++ cs.take i).length = ds.length + i := by rw [List.length_append, List.length_take]; omega
  unfold own_wx
  rw [e, ← List.append_assoc, show M - 2 * (ds.length + i) = (M - 2 * (ds.length + (i + 1))) + 2 by omega]
  have q := own_wext (xs := ds ++ cs.take i) (c := cs.getD i 0) (k := M - 2 * (ds.length + (i + 1)))
  rw [l] at q; exact q
theorem own_wx0' {M : Nat} {cs : List Int32} : own_wx M [] cs 0 = own_z M := by simp [own_wx, StrChars.Road.wideBytes]
theorem own_shl0 (x : Int32) : x <<< ((0 : Int32) &&& 31) = x := by
  apply Int32.toBitVec_inj.mp
  show x.toBitVec <<< ((((0 : Int32) &&& 31).toBitVec).smod 32#32) = x.toBitVec
  have e : (((0 : Int32) &&& 31).toBitVec).smod 32#32 = 0#32 := by decide
  rw [e]
  apply BitVec.eq_of_toNat_eq
  rw [BitVec.shiftLeft_eq', BitVec.toNat_shiftLeft, Nat.shiftLeft_eq]
  have := x.toBitVec.isLt
  show x.toBitVec.toNat * 1 % _ = _
  rw [Nat.mul_one, Nat.mod_eq_of_lt this]
theorem own_latr (ts : List Int32) : own_lat ts = (List.range ts.length).map fun i => (own_lat ts).getD (0 + i) (.int (0 : Int32)) := by
  apply List.ext_getElem
  · rw [List.length_map, List.length_range, own_latl]
  · intro i h1 h2
    rw [List.getElem_map, List.getElem_range, Nat.zero_add, List.getD_eq_getElem?_getD, List.getElem?_eq_getElem h1]; rfl
theorem own_ap0A {cs ts : List Int32} (h : cs.length + ts.length ≤ 16) : List.take cs.length (own_sb0 cs) ++ own_lat ts ++ List.drop (cs.length + ts.length) (own_sb0 cs) = own_sb0 (cs ++ ts) := by
  unfold own_sb0
  rw [List.take_append_of_le_length (by rw [own_latl]; exact Nat.le_refl _), List.take_of_length_le (by rw [own_latl]; exact Nat.le_refl _), List.drop_append, own_latl, List.drop_of_length_le (by rw [own_latl]; omega), List.nil_append, own_lata, List.length_append]
  congr 1
  unfold own_z
  rw [List.drop_replicate]
  congr 1; omega
theorem own_cpR {us : List Value} {n : Nat} (h : us.length = n) : List.take 0 (List.replicate n (Value.int (0 : Int32))) ++ us ++ List.drop (0 + n) (List.replicate n (Value.int (0 : Int32))) = us := by
  rw [List.take_zero, List.nil_append, Nat.zero_add, List.drop_of_length_le (by rw [List.length_replicate]; exact Nat.le_refl _), List.append_nil]
theorem own_ne16 {n : Nat} (h : n < 16) : ¬ Int32.ofNat n = (16 : Int32) := fun q => by
  have e := congrArg Int32.toInt q
  rw [own_ti (by omega)] at e
  have e2 : (16 : Int32).toInt = 16 := rfl
  omega
theorem own_ne32 {n : Nat} (h : n < 32) : ¬ Int32.ofNat n = (32 : Int32) := fun q => by
  have e := congrArg Int32.toInt q
  rw [own_ti (by omega)] at e
  have e2 : (32 : Int32).toInt = 32 := rfl
  omega
theorem own_codS {cd : Int32} {cs : List Int32} (h : own_cdi cd cs) : StrChars.Road.CodA cs cd (Int32.ofNat (if cd = 0 then cs.length else 2 * cs.length)) (if cd = 0 then own_lat cs else StrChars.Road.wideBytes cs) := by
  rcases h with ⟨rfl, ha⟩ | ⟨rfl, c, hc, q⟩
  · exact Or.inl ⟨rfl, rfl, rfl, ha⟩
  · exact Or.inr ⟨rfl, rfl, rfl, c, hc, q⟩
def own_sM (M : Nat) (cs : List Int32) : List Value := own_lat cs ++ own_z (M - cs.length)
def own_wM (M : Nat) (cs : List Int32) : List Value := StrChars.Road.wideBytes cs ++ own_z (2 * M - 2 * cs.length)
def own_zN (cd : Int32) (M : Nat) : Int32 := if cd = 0 then Int32.ofNat M else Int32.ofNat (2 * M)
def own_zV (cd : Int32) (M : Nat) (cs : List Int32) : List Value := if cd = 0 then own_sM M cs else own_wM M cs
theorem own_sMl {M : Nat} {cs : List Int32} (h : cs.length ≤ M) : (own_sM M cs).length = M := by unfold own_sM; rw [List.length_append, own_latl, own_zl]; omega
theorem own_wMl {M : Nat} {cs : List Int32} (h : cs.length ≤ M) : (own_wM M cs).length = 2 * M := by unfold own_wM; rw [List.length_append, own_wl, own_zl]; omega
theorem own_self {vs : List Value} {n : Nat} (h : vs.length = n) : vs = (List.range n).map fun i => vs.getD (0 + i) (.int (0 : Int32)) := by
  subst h
  apply List.ext_getElem
  · rw [List.length_map, List.length_range]
  · intro i h1 h2
    rw [List.getElem_map, List.getElem_range, Nat.zero_add, List.getD_eq_getElem?_getD, List.getElem?_eq_getElem h1]; rfl
theorem own_cpG {cs : List Int32} {M M' : Nat} (h : cs.length ≤ M) (h2 : M ≤ M') : List.take 0 (List.replicate M' (Value.int (0 : Int32))) ++ own_sM M cs ++ List.drop (0 + M) (List.replicate M' (Value.int (0 : Int32))) = own_sM M' cs := by
  unfold own_sM own_z
  rw [List.take_zero, List.nil_append, Nat.zero_add, List.drop_replicate, List.append_assoc, List.replicate_append_replicate, show M - cs.length + (M' - M) = M' - cs.length by omega]
theorem own_sMg {M : Nat} {cs : List Int32} {i : Nat} (h : i < cs.length) : (own_sM M cs).getD i (.int (0 : Int32)) = .int (StrChars.lo8 (cs.getD i 0)) := by
  unfold own_sM
  rw [List.getD_eq_getElem?_getD, List.getElem?_append_left (by rw [own_latl]; exact h)]
  simp [own_lat, List.getD_eq_getElem?_getD, h]
theorem own_takeM {M : Nat} {cs : List Int32} : own_lat cs = (List.range cs.length).map (fun i => (own_sM M cs).getD (0 + i) (.int (0 : Int32))) := by
  apply List.ext_getElem
  · rw [List.length_map, List.length_range, own_latl]
  · intro i h1 h2
    rw [List.getElem_map, List.getElem_range, Nat.zero_add]
    have hi : i < cs.length := by rw [own_latl] at h1; exact h1
    rw [own_sMg hi]; simp [own_lat, List.getD_eq_getElem?_getD, hi]
theorem own_takeW {M : Nat} {cs : List Int32} : StrChars.Road.wideBytes cs = (List.range (2 * cs.length)).map (fun i => (own_wM M cs).getD (0 + i) (.int (0 : Int32))) := by
  apply List.ext_getElem
  · rw [List.length_map, List.length_range, own_wl]
  · intro i h1 h2
    rw [List.getElem_map, List.getElem_range, Nat.zero_add]
    unfold own_wM
    rw [List.getD_eq_getElem?_getD, List.getElem?_append_left h1, List.getElem?_eq_getElem h1]; rfl
theorem own_widr (ts : List Int32) : StrChars.Road.wideBytes ts = (List.range (2 * ts.length)).map fun i => (StrChars.Road.wideBytes ts).getD (0 + i) (.int (0 : Int32)) := own_self (own_wl ts)
theorem own_apM {M : Nat} {cs ts : List Int32} (h : cs.length + ts.length ≤ M) : List.take cs.length (own_sM M cs) ++ own_lat ts ++ List.drop (cs.length + ts.length) (own_sM M cs) = own_sM M (cs ++ ts) := by
  unfold own_sM
  rw [List.take_append_of_le_length (by rw [own_latl]; exact Nat.le_refl _), List.take_of_length_le (by rw [own_latl]; exact Nat.le_refl _), List.drop_append, own_latl, List.drop_of_length_le (by rw [own_latl]; omega), List.nil_append, own_lata, List.length_append]
  congr 1
  unfold own_z
  rw [List.drop_replicate]
  congr 1; omega
theorem own_apW {M : Nat} {cs ts : List Int32} (h : cs.length + ts.length ≤ M) : List.take (2 * cs.length) (own_wM M cs) ++ StrChars.Road.wideBytes ts ++ List.drop (2 * cs.length + 2 * ts.length) (own_wM M cs) = own_wM M (cs ++ ts) := by
  unfold own_wM
  rw [List.take_append_of_le_length (by rw [own_wl]; exact Nat.le_refl _), List.take_of_length_le (by rw [own_wl]; exact Nat.le_refl _), List.drop_append, own_wl, List.drop_of_length_le (by rw [own_wl]; omega), List.nil_append, own_wa, List.length_append]
  congr 1
  unfold own_z
  rw [List.drop_replicate]
  congr 1; omega
theorem own_g16 {n : Nat} (h : 16 < n) (h2 : n ≤ 34) : (0 : Int32) < Int32.ofNat n - (16 : Int32) := by
  have t : ∀ k : Fin 35, 16 < k.val → (0 : Int32) < Int32.ofNat k.val - (16 : Int32) := by decide
  exact t ⟨n, by omega⟩ h
theorem own_m16 {n : Nat} (h : 16 < n) (h2 : n ≤ 34) : (18 : Int32) = if Int32.ofNat n - (16 : Int32) < (18 : Int32) then (18 : Int32) else Int32.ofNat n - (16 : Int32) := by
  have t : ∀ k : Fin 35, 16 < k.val → (18 : Int32) = if Int32.ofNat k.val - (16 : Int32) < (18 : Int32) then (18 : Int32) else Int32.ofNat k.val - (16 : Int32) := by decide
  exact t ⟨n, by omega⟩ h
theorem own_eqN {a b : Nat} (h : Int32.ofNat a = Int32.ofNat b) (ha : a < 2147483648) (hb : b < 2147483648) : a = b := by
  have e := congrArg Int32.toInt h
  rw [own_ti ha, own_ti hb] at e; omega
theorem own_cdW {cs ts : List Int32} (h : ∃ c ∈ ts, (255 : Int32) < c) : own_cdi 1 (cs ++ ts) := by
  obtain ⟨c, hc, q⟩ := h
  exact Or.inr ⟨rfl, c, List.mem_append.mpr (Or.inr hc), q⟩
def QNewE (Z : State) (N : Int32) (vs : List Value) (h0 : Heap) (n0 : Nat) (v : Option Value) (h : Heap) (L : List Loc) : Prop := ∃ (t : Addr) (k : ClassId), v = some (.ref t) ∧ Fr n0 L ∧ Keep h0 h [] ∧ h0.size ≤ t ∧ Arv Z h t k .byte N vs (.int (0 : Int32)) ∧ Exa Z h t "[B"
def QE0 (Z : State) (a1 : Addr) (h0 : Heap) (n0 : Nat) (v : Option Value) (h : Heap) (L : List Loc) : Prop := ∃ (t : Addr) (k : ClassId), v = none ∧ Fr n0 L ∧ Keep h0 h [a1] ∧ Fld Z h a1 "java/lang/String" "value" "[B" (.ref t) ∧ Fld Z h a1 "java/lang/String" "coder" "B" (.int (0 : Int32)) ∧ Arv Z h t k .byte (0 : Int32) [] (.int (0 : Int32))
abbrev k42_149 := jdk_42_method_149_code
theorem d42_149_0 : Dk k42_149 0 (.aload_n 0) 1 := own_k
theorem d42_149_1 : Dk k42_149 1 (.invokespecial 1) 3 := own_k
theorem d42_149_4 : Dk k42_149 4 (.iload_n 3) 1 := own_k
theorem d42_149_5 : Dk k42_149 5 (.ifCond .ne 22) 3 := own_k
theorem d42_149_8 : Dk k42_149 8 (.aload_n 0) 1 := own_k
theorem d42_149_9 : Dk k42_149 9 (.ldc 7) 2 := own_k
theorem d42_149_11 : Dk k42_149 11 (.getfield 9) 3 := own_k
theorem d42_149_14 : Dk k42_149 14 (.putfield 9) 3 := own_k
theorem d42_149_17 : Dk k42_149 17 (.aload_n 0) 1 := own_k
theorem d42_149_18 : Dk k42_149 18 (.ldc 7) 2 := own_k
theorem d42_149_20 : Dk k42_149 20 (.getfield 15) 3 := own_k
theorem d42_149_23 : Dk k42_149 23 (.putfield 15) 3 := own_k
theorem d42_149_26 : Dk k42_149 26 .return_ 1 := own_k
theorem pn_0 : plainName "java/lang/String" = true := by first | (simp [plainName, overriddenIn]; done) | decide +kernel
theorem ef_rm_i4e (m : MethodId) (x0 : Addr) (x1 : Addr) (x2 : Int32) (x3 : Int32) : entryFrame m #[(.ref x0), (.ref x1), (.int x2), (.int x3), .null] 6 = mkF m 0 #[.val (.ref x0), .val (.ref x1), .val (.int x2), .val (.int x3), .val .null, .unset] [] := by
   first | (simp [entryFrame, mkF, argsToLocals, Value.category]; done) | rfl
set_option maxRecDepth 65536 in
set_option maxHeartbeats 40000000 in
theorem rm_i4e (l : Launch) (Z : State) (a0 : Array Value) (hw : ∀ d ∈ tables_1, d.before a0 Z = true) (ws : List Jvm.Cond) (a1 a2 : Addr) (h0 : Heap) (n0 : Nat) (O0 : Old Z n0 h0) (E_a : Exa Z h0 a1 "java/lang/String") (F_v : Fld Z h0 a1 "java/lang/String" "value" "[B" .null) (F_c : Fld Z h0 a1 "java/lang/String" "coder" "B" (.int (0 : Int32))) (g_a : n0 ≤ a1) :
    MetFree l (⟨"java/lang/String", "<init>", "([CIILjava/lang/Void;)V"⟩ : MethodName) (head1 (Jvm.Cond.code (⟨"java/lang/String", "<init>", "([CIILjava/lang/Void;)V"⟩ : MethodName) jdk_42_method_149_code 6 none :: ws) ⟨1, 4, 8, 12⟩) (fun aA U => aA = #[(.ref a1), (.ref a2), (.int (0 : Int32)), (.int (0 : Int32)), .null] ∧ Z.Warmed39 U.vm ∧ U.heap = h0 ∧ CHv Z own_EL U.vm h0) (fun _ _ _ _ _ => True) (fun _ U oO U' => ∃ rV rL, oO = .returned rV ∧ QE0 Z a1 h0 n0 rV U'.heap rL ∧ CHr Z own_EL U.vm U.heap U'.vm U'.heap ∧ ReturnedEndW U oO U' rL 4 8) := by
  refine MetFree.of_bodySF (plainFor_of_name pn_0) hisR ?_
  intro p e s m args below meth cC s₁ Bd hml0 hP hK
  obtain ⟨rfl, hZ, hh, hC0⟩ := hP
  have hx := Bd.exec
  have hby := Bd.bytes
  have hml : cC.maxLocals = 6 := hml0
  have hown : s.vm.findClass "java/lang/String" = some m.cls := findClass_of_methodNamed Bd.named
  have hnm := (name_of_methodNamed Bd.named Bd.method).1
  have hrt := Bd.returns
  have hlk : meth.locks = false := Bd.notSynchronized
  have X0 : Stand p l e ⟨1, 4, 8, 12⟩ (s.setVm s.vm) m #[(.ref a1), (.ref a2), (.int (0 : Int32)), (.int (0 : Int32)), .null] below meth cC s₁ [] 0 0 := Stand.of_body Bd
  have e0 : s₁.heap = h0 := by rw [← hh, Bd.state]; rfl
  have N0 := Fr.nil n0
  have Z0 : n0 ≤ h0.size := O0.1 ▸ O0.2.1
  have hS0 : s.Since s.vm 0 := (State.WarmedH.refl s).since 0
  have C0 : CHr Z own_EL s.vm h0 s.vm h0 := CHr.refl hC0
  have own_wS := own_wSt hw
  have own_hEL := own_hELt hw
  show own_Go p e below (s₁.setTop (entryFrame m #[(.ref a1), (.ref a2), (.int (0 : Int32)), (.int (0 : Int32)), .null] 6)) (fun oO U' => ∃ rV rL, oO = .returned rV ∧ QE0 Z a1 h0 n0 rV U'.heap rL ∧ CHr Z own_EL s.vm s.heap U'.vm U'.heap ∧ ReturnedEndW s oO U' rL 4 8)
  refine own_go (fun _ k => castTop (ef_rm_i4e m a1 a2 _ _) k) ?_
  refine og (fun _ k => XS.aloadN X0.here hx rfl (hb hby d42_149_0) rfl rfl k) ?_
  obtain ⟨T1, X1, e1, st1⟩ := initO X0 hx hZ hown (tw hw 12 rfl) (tw hw 13 rfl) (tw hw 14 rfl) e0 (g := (mkF m 1 #[.val (.ref a1), .val (.ref a2), .val (.int (0 : Int32)), .val (.int (0 : Int32)), .val .null, .unset] [(.ref a1)])) rfl (by rw [hml]; rfl) rfl (hb hby d42_149_1) (by decide) (W := 0) (by show 2 * 0 + _ ≤ _; exact Nat.le_of_eq rfl) (by decide)
  refine own_go st1 ?_
  refine og (fun _ k => XS.iloadN X1.here hx rfl (hb hby d42_149_4) rfl k) ?_
  refine og (fun _ k => XS.ifNo X1.here hx rfl (hb hby d42_149_5) rfl ((if0 _ _).trans (teq (by decide : (0 : Int32) = (0 : Int32))).2) k) ?_
  try dsimp only [mkF]
  refine og (fun _ k => XS.aloadN X1.here hx rfl (hb hby d42_149_8) rfl rfl k) ?_
  obtain ⟨aL2, T2, h2, k12, b2, kb2, X2, e2, E2, hS2, hk2, hZ2, hown2, Ea2, Fc2, Fv2, Va2, la2, lb2, A2, Li2, sf2, st2⟩ := ldcCH X1 hx hZ hown (tw hw 15 rfl) own_wS e1 hS0 (Nat.zero_le _) own_hEL (by decide) C0.1 (vs := []) (z := (0 : Int32)) ⟨by decide, by decide⟩ (by decide) (by decide) (g := (mkF m 9 #[.val (.ref a1), .val (.ref a2), .val (.int (0 : Int32)), .val (.int (0 : Int32)), .val .null, .unset] [(.ref a1)])) rfl (hb hby d42_149_9) (n := 0) (by decide) (by decide) (by decide) (by decide)
  refine own_go st2 ?_
  have C3 := C0.trans A2
  have sf4 : Safe Z own_EL T2.vm h2 a1 := own_safeNull hZ2.alike (E_a.ext E2) (F_v.ext E2)
  obtain ⟨T5, X5, e5, st5⟩ := getF X2 hx hZ2 hown2 (host := "") (Or.inl (tw hw 21 rfl)) Via.refl e2 Fv2 (g := (mkF m 11 #[.val (.ref a1), .val (.ref a2), .val (.int (0 : Int32)), .val (.int (0 : Int32)), .val .null, .unset] [(.ref aL2), (.ref a1)])) rfl rfl (hb hby d42_149_11)
  refine own_go st5 ?_
  obtain ⟨T6, h6, X6, e6, W6, st6⟩ := putF X5 hx hZ2 hown2 (host := "") (Or.inl (tw hw 21 rfl)) Via.refl e5 (F_v.ext E2) (E_a.ext E2) (Or.inr ⟨(tw hw 17 rfl), rfl, hnm⟩) (tw hw 2 rfl) (ty := (.array .byte)) (by decide) rfl rfl (g := (mkF m 14 #[.val (.ref a1), .val (.ref a2), .val (.int (0 : Int32)), .val (.int (0 : Int32)), .val .null, .unset] [(.ref b2), (.ref a1)])) rfl rfl (hb hby d42_149_14)
  refine own_go st6 ?_
  have N6 := Fr.snoc X6 N0 g_a
  have C7 := C3.trans (CHr.wr W6 sf4 C3.1)
  have Fw6 := (F_v.ext E2).same W6
  refine og (fun _ k => XS.aloadN X6.here hx rfl (hb hby d42_149_17) rfl rfl k) ?_
  try dsimp only [mkF]
  obtain ⟨aL8, T8, h8, k18, b8, kb8, X8, e8, E8, hS8, hk8, hZ8, hown8, Ea8, Fc8, Fv8, Va8, la8, lb8, A8, Li8, sf8, st8⟩ := ldcCH X6 hx hZ2 hown2 (tw hw 15 rfl) own_wS e6 hS2 (Nat.le_trans hk2 (Keep.of_wr W6).1) own_hEL (by decide) C7.1 (vs := []) (z := (0 : Int32)) ⟨by decide, by decide⟩ (by decide) (by decide) (g := (mkF m 18 #[.val (.ref a1), .val (.ref a2), .val (.int (0 : Int32)), .val (.int (0 : Int32)), .val .null, .unset] [(.ref a1)])) rfl (hb hby d42_149_18) (n := 0) (by decide) (by decide) (by decide) (by decide)
  refine own_go st8 ?_
  have C9 := C7.trans A8
  have f10 := (A8.safe (Nat.lt_of_lt_of_le E_a.lt (Nat.le_trans E2.1 (Keep.of_wr W6).1)) (Safe.wr W6 sf4 C3.1 sf4))
  obtain ⟨T11, X11, e11, st11⟩ := getF X8 hx hZ8 hown8 (host := "") (Or.inl (tw hw 22 rfl)) Via.refl e8 Fc8 (g := (mkF m 20 #[.val (.ref a1), .val (.ref a2), .val (.int (0 : Int32)), .val (.int (0 : Int32)), .val .null, .unset] [(.ref aL8), (.ref a1)])) rfl rfl (hb hby d42_149_20)
  refine own_go st11 ?_
  have f12 := (((F_c.ext E2).other W6 (Or.inr (slot_ne (Or.inr (tw hw 18 rfl)) (Or.inr (tw hw 17 rfl)) (by decide) (t := .byte) (t' := (.array .byte)) (by decide) (by decide)))).ext E8)
  have f13 := (((E_a.ext E2).wr W6).ext E8)
  obtain ⟨T14, h14, X14, e14, W14, st14⟩ := putFN X11 hx hZ8 hown8 (tw hw 22 rfl) Via.refl e11 f12 f13 (Or.inr ⟨(tw hw 18 rfl), rfl, hnm⟩) (tw hw 2 rfl) (ty := .byte) (v' := (.int (0 : Int32))) (by decide) rfl rfl (g := (mkF m 23 #[.val (.ref a1), .val (.ref a2), .val (.int (0 : Int32)), .val (.int (0 : Int32)), .val .null, .unset] [(.int (0 : Int32)), (.ref a1)])) rfl rfl (hb hby d42_149_23)
  refine own_go st14 ?_
  have N14 := Fr.snoc X14 N6 g_a
  have C15 := C9.trans (CHr.wr W14 f10 C9.1)
  have Fw14 := f12.same W14
  have f16 := (((((Keep.refl h0 [a1]).ext E2).wr W6 (Or.inl (List.mem_of_getElem? (i := 0) rfl))).ext E8).wr W14 (Or.inl (List.mem_of_getElem? (i := 0) rfl)))
  have f17 := ((Fw6.ext E8).other W14 (Or.inr (slot_ne (Or.inr (tw hw 17 rfl)) (Or.inr (tw hw 18 rfl)) (by decide) (t := (.array .byte)) (t' := .byte) (by decide) (by decide))))
  have f18 := (((Va2.other W6 (Ne.symm (sf2 _ sf4).2)).ext E8).other W14 (Ne.symm (sf2 _ sf4).2))
  refine own_finW (v := none) X14 hh hZ8 hS8 (by rw [e14]; exact (Nat.le_trans hk8 (Keep.of_wr W14).1)) (fun _ => rfl) hlk (fun fs hr => X14.returnOut hx hrt (hb hby d42_149_26) hr) (QQ := QE0 Z a1 h0 n0) ?_ own_hEL e14 (C15) (by decide) (by decide)
  rw [e14]
  exact ⟨b2, kb2, rfl, N14, f16, f17, Fw14, f18⟩

abbrev k42_3 := jdk_42_method_3_code
theorem d42_3_0 : Dk k42_3 0 (.aload_n 0) 1 := own_k
theorem d42_3_1 : Dk k42_3 1 (.aload_n 1) 1 := own_k
theorem d42_3_2 : Dk k42_3 2 (.iconst 0) 1 := own_k
theorem d42_3_3 : Dk k42_3 3 (.aload_n 1) 1 := own_k
theorem d42_3_4 : Dk k42_3 4 .arraylength 1 := own_k
theorem d42_3_5 : Dk k42_3 5 .aconst_null 1 := own_k
theorem d42_3_6 : Dk k42_3 6 (.invokespecial 27) 3 := own_k
theorem pd_0 : parseMethodDescriptor "([CIILjava/lang/Void;)V" = some ⟨[(.array .char), .int, .int, (.object "java/lang/Void")], none⟩ := by decide +kernel
theorem d42_3_9 : Dk k42_3 9 .return_ 1 := own_k
theorem ef_rm_i1e (m : MethodId) (x0 : Addr) (x1 : Addr) : entryFrame m #[(.ref x0), (.ref x1)] 2 = mkF m 0 #[.val (.ref x0), .val (.ref x1)] [] := by
   first | (simp [entryFrame, mkF, argsToLocals, Value.category]; done) | rfl
set_option maxRecDepth 65536 in
set_option maxHeartbeats 40000000 in
theorem rm_i1e (l : Launch) (Z : State) (a0 : Array Value) (hw : ∀ d ∈ tables_1, d.before a0 Z = true) (ws : List Jvm.Cond) (a1 a2 : Addr) (k2 : ClassId) (h0 : Heap) (n0 : Nat) (O0 : Old Z n0 h0) (E_a : Exa Z h0 a1 "java/lang/String") (F_v : Fld Z h0 a1 "java/lang/String" "value" "[B" .null) (F_c : Fld Z h0 a1 "java/lang/String" "coder" "B" (.int (0 : Int32))) (g_a : n0 ≤ a1) (V_a2 : Arv Z h0 a2 k2 .char (0 : Int32) [] (.int (0 : Int32))) :
    MetFree l (⟨"java/lang/String", "<init>", "([C)V"⟩ : MethodName) (head1 (Jvm.Cond.code (⟨"java/lang/String", "<init>", "([C)V"⟩ : MethodName) jdk_42_method_3_code 2 none :: ws) ⟨2, 4, 8, 29⟩) (fun aA U => aA = #[(.ref a1), (.ref a2)] ∧ Z.Warmed39 U.vm ∧ U.heap = h0 ∧ CHv Z own_EL U.vm h0) (fun _ _ _ _ _ => True) (fun _ U oO U' => ∃ rV rL, oO = .returned rV ∧ QE0 Z a1 h0 n0 rV U'.heap rL ∧ CHr Z own_EL U.vm U.heap U'.vm U'.heap ∧ ReturnedEndW U oO U' rL 4 8) := by
  refine MetFree.of_bodySF (plainFor_of_name pn_0) hisR ?_
  intro p e s m args below meth cC s₁ Bd hml0 hP hK
  obtain ⟨rfl, hZ, hh, hC0⟩ := hP
  have hx := Bd.exec
  have hby := Bd.bytes
  have hml : cC.maxLocals = 2 := hml0
  have hown : s.vm.findClass "java/lang/String" = some m.cls := findClass_of_methodNamed Bd.named
  have hnm := (name_of_methodNamed Bd.named Bd.method).1
  have hrt := Bd.returns
  have hlk : meth.locks = false := Bd.notSynchronized
  have X0 : Stand p l e ⟨2, 4, 8, 29⟩ (s.setVm s.vm) m #[(.ref a1), (.ref a2)] below meth cC s₁ [] 0 0 := Stand.of_body Bd
  have e0 : s₁.heap = h0 := by rw [← hh, Bd.state]; rfl
  have N0 := Fr.nil n0
  have Z0 : n0 ≤ h0.size := O0.1 ▸ O0.2.1
  have hS0 : s.Since s.vm 0 := (State.WarmedH.refl s).since 0
  have C0 : CHr Z own_EL s.vm h0 s.vm h0 := CHr.refl hC0
  have own_wS := own_wSt hw
  have own_hEL := own_hELt hw
  show own_Go p e below (s₁.setTop (entryFrame m #[(.ref a1), (.ref a2)] 2)) (fun oO U' => ∃ rV rL, oO = .returned rV ∧ QE0 Z a1 h0 n0 rV U'.heap rL ∧ CHr Z own_EL s.vm s.heap U'.vm U'.heap ∧ ReturnedEndW s oO U' rL 4 8)
  refine own_go (fun _ k => castTop (ef_rm_i1e m a1 a2) k) ?_
  refine og (fun _ k => XS.aloadN X0.here hx rfl (hb hby d42_3_0) rfl rfl k) ?_
  refine og (fun _ k => XS.aloadN X0.here hx rfl (hb hby d42_3_1) rfl rfl k) ?_
  refine og (fun _ k => XS.iconst X0.here hx rfl (hb hby d42_3_2) k) ?_
  refine og (fun _ k => XS.aloadN X0.here hx rfl (hb hby d42_3_3) rfl rfl k) ?_
  try dsimp only [mkF]
  obtain ⟨c19, A19, q19, S19, M19, Hs19, Gs19⟩ := id V_a2
  refine og (fun _ k => X0.arraylength hx (by rw [e0]; exact A19.1) (State.isArrayOf_alike hZ.alike A19.2.1) (g := (mkF m 4 #[.val (.ref a1), .val (.ref a2)] [(.ref a2), (.int (0 : Int32)), (.ref a2), (.ref a1)])) rfl rfl (hb hby d42_3_4) _ k) ?_
  rw [len_of S19 M19]
  refine og (fun _ k => XS.aconstNull X0.here hx rfl (hb hby d42_3_5) k) ?_
  obtain ⟨v20, _, ⟨T20, L20, k20, n20⟩, -, X20, hS20, hg20, ⟨Lc20, hQ20, l20, y20, z20, A20⟩, st20⟩ := X0.specialBackS hx (y := (⟨"java/lang/String", "<init>", "([CIILjava/lang/Void;)V"⟩ : MethodName)) rfl hown (mvT hZ (tw hw 8 rfl)) (mvT hZ (tw hw 9 rfl)) (mvT hZ (tw hw 11 rfl)) (by decide) (backOfSH (W := 0) (rm_i4e l Z a0 hw [] a1 a2 h0 n0 O0 E_a F_v F_c g_a) hZ (tw hw 11 rfl) (tw hw 3 rfl) (by decide) (by decide) own_hEL C0.1) (g := (mkF m 6 #[.val (.ref a1), .val (.ref a2)] [.null, (.int (0 : Int32)), (.int (0 : Int32)), (.ref a2), (.ref a1)])) rfl (by rw [hml]; rfl) (Steps.refl _) (a := a1) (argsL := [(.ref a2), (.int (0 : Int32)), (.int (0 : Int32)), .null]) (rest := []) (lenOf pd_0 rfl) rfl (by show 2 * 0 + _ ≤ _; exact Nat.le_of_eq rfl) (hb hby d42_3_6) (fun _ _ => ⟨rfl, e0, (by decide : 0 + 4 ≤ _), (by decide : 0 + 8 ≤ _)⟩)
  dsimp only [Pt.U, Pt.locs, Pt.cells, Pt.slots] at X20 l20 y20 z20 st20 hQ20 hS20 hg20 A20
  subst l20 y20 z20
  refine own_gos st20 ?_
  obtain ⟨X20, hS20, hZ20, hown20⟩ := rebS hS0 (k0 := _) (n1 := s₁.heap.size) (by rw [e0]; exact (Nat.zero_le _)) X20 hS20 hg20 hZ hown
  obtain ⟨t20, kt20, rfl, Nq20, K20, Fv20, Fc20, Vt20⟩ := hQ20
  have C21 := C0.trans A20
  have N20 := Fr.app N0 Nq20
  have f22 := ((Keep.refl h0 [a1]).trans K20 (allS (Or.inl (List.mem_of_getElem? (i := 0) rfl)) all0))
  refine own_finW (v := none) X20 hh hZ20 hS20 (by rw [(rfl : T20.heap = T20.heap)]; exact (Nat.le_refl _)) (fun _ => rfl) hlk (fun fs hr => X20.returnOut hx hrt (hb hby d42_3_9) hr) (QQ := QE0 Z a1 h0 n0) ?_ own_hEL (rfl : T20.heap = T20.heap) (C21) (by decide) (by decide)
  exact ⟨t20, kt20, rfl, N20, f22, Fv20, Fc20, Vt20⟩

abbrev k52_21 := jdk_52_method_21_code
theorem d52_21_0 : Dk k52_21 0 (.iconst 0) 1 := own_k
theorem d52_21_1 : Dk k52_21 1 (.istore 5) 2 := own_k
theorem d52_21_3 : Dk k52_21 3 (.iload 5) 2 := own_k
theorem d52_21_5 : Dk k52_21 5 (.iload 4) 2 := own_k
theorem d52_21_7 : Dk k52_21 7 (.if_icmp .ge 37) 3 := own_k
theorem d52_21_44 : Dk k52_21 44 (.iload 4) 2 := own_k
theorem d52_21_46 : Dk k52_21 46 .ireturn 1 := own_k
theorem d52_21_10 : Dk k52_21 10 (.aload_n 0) 1 := own_k
theorem d52_21_11 : Dk k52_21 11 (.iload_n 1) 1 := own_k
theorem d52_21_12 : Dk k52_21 12 .caload 1 := own_k
theorem d52_21_13 : Dk k52_21 13 (.istore 6) 2 := own_k
theorem d52_21_15 : Dk k52_21 15 (.iload 6) 2 := own_k
theorem d52_21_17 : Dk k52_21 17 (.sipush 255) 3 := own_k
theorem d52_21_20 : Dk k52_21 20 (.if_icmp .le 6) 3 := own_k
theorem d52_21_23 : Dk k52_21 23 (.iload 5) 2 := own_k
theorem d52_21_25 : Dk k52_21 25 .ireturn 1 := own_k
theorem d52_21_26 : Dk k52_21 26 (.aload_n 2) 1 := own_k
theorem d52_21_27 : Dk k52_21 27 (.iload_n 3) 1 := own_k
theorem d52_21_28 : Dk k52_21 28 (.iload 6) 2 := own_k
theorem d52_21_30 : Dk k52_21 30 .i2b 1 := own_k
theorem d52_21_31 : Dk k52_21 31 .bastore 1 := own_k
theorem d52_21_32 : Dk k52_21 32 (.iinc 1 1) 3 := own_k
theorem d52_21_35 : Dk k52_21 35 (.iinc 3 1) 3 := own_k
theorem d52_21_38 : Dk k52_21 38 (.iinc 5 1) 3 := own_k
theorem d52_21_41 : Dk k52_21 41 (.goto (-38)) 3 := own_k
theorem pn_1 : plainName "java/lang/StringUTF16" = true := by first | (simp [plainName, overriddenIn]; done) | decide +kernel
theorem ef_rm_cmp5 (m : MethodId) (x0 : Addr) (x1 : Int32) (x2 : Addr) (x3 : Int32) (x4 : Int32) : entryFrame m #[(.ref x0), (.int x1), (.ref x2), (.int x3), (.int x4)] 7 = mkF m 0 #[.val (.ref x0), .val (.int x1), .val (.ref x2), .val (.int x3), .val (.int x4), .unset, .unset] [] := by
   first | (simp [entryFrame, mkF, argsToLocals, Value.category]; done) | rfl
set_option maxRecDepth 65536 in
set_option maxHeartbeats 40000000 in
theorem rm_cmp5 (l : Launch) (Z : State) (a0 : Array Value) (hw : ∀ d ∈ tables_1, d.before a0 Z = true) (ws : List Jvm.Cond) (a : Addr) (ka : ClassId) (da : Value) (cs : List Int32) (b : Addr) (kb : ClassId) (h0 : Heap) (n0 : Nat) (O0 : Old Z n0 h0) (hok : own_Ok cs) (V_a : Arv Z h0 a ka .char (Int32.ofNat cs.length) (cs.map Value.int) da) (V_b : Arv Z h0 b kb .byte (Int32.ofNat cs.length) (List.replicate cs.length (.int (0 : Int32))) (.int (0 : Int32))) (g_b : n0 ≤ b) (hab : a ≠ b) :
    MetFree l (⟨"java/lang/StringUTF16", "compress", "([CI[BII)I"⟩ : MethodName) (head1 (Jvm.Cond.code (⟨"java/lang/StringUTF16", "compress", "([CI[BII)I"⟩ : MethodName) jdk_52_method_21_code 7 (some .int) :: ws) ⟨0, 0, 0, 0⟩) (fun aA U => aA = #[(.ref a), (.int (0 : Int32)), (.ref b), (.int (0 : Int32)), (.int (Int32.ofNat cs.length))] ∧ Z.Warmed39 U.vm ∧ U.heap = h0) (fun _ _ _ _ _ => True) (fun _ U oO U' => ∃ rV rL, oO = .returned rV ∧ QC5 Z b kb cs h0 n0 rV U'.heap rL ∧ FrameEnd U oO U' rL 0 0) := by
  refine MetFree.of_bodySF (plainFor_of_name pn_1) hisR ?_
  intro p e s m args below meth cC s₁ Bd hml0 hP hK
  obtain ⟨rfl, hZ, hh⟩ := hP
  have hx := Bd.exec
  have hby := Bd.bytes
  have hml : cC.maxLocals = 7 := hml0
  have hown : s.vm.findClass "java/lang/StringUTF16" = some m.cls := findClass_of_methodNamed Bd.named
  have hnm := (name_of_methodNamed Bd.named Bd.method).1
  have hrt := Bd.returns
  have hlk : meth.locks = false := Bd.notSynchronized
  have X0 : Stand p l e ⟨0, 0, 0, 0⟩ s m #[(.ref a), (.int (0 : Int32)), (.ref b), (.int (0 : Int32)), (.int (Int32.ofNat cs.length))] below meth cC s₁ [] 0 0 := Stand.of_body Bd
  have e0 : s₁.heap = h0 := by rw [← hh, Bd.state]; rfl
  have N0 := Fr.nil n0
  have Z0 : n0 ≤ h0.size := O0.1 ▸ O0.2.1
  show own_Go p e below (s₁.setTop (entryFrame m #[(.ref a), (.int (0 : Int32)), (.ref b), (.int (0 : Int32)), (.int (Int32.ofNat cs.length))] 7)) (fun oO U' => ∃ rV rL, oO = .returned rV ∧ QC5 Z b kb cs h0 n0 rV U'.heap rL ∧ FrameEnd s oO U' rL 0 0)
  refine own_go (fun _ k => castTop (ef_rm_cmp5 m a _ b _ _) k) ?_
  have hlen : cs.length ≤ 4000 := hok.2
  refine og (fun _ k => XS.iconst X0.here hx rfl (hb hby d52_21_0) k) ?_
  refine og (fun _ k => XS.istore X0.here hx rfl (hb hby d52_21_1) rfl (l' := #[.val (.ref a), .val (.int (0 : Int32)), .val (.ref b), .val (.int (0 : Int32)), .val (.int (Int32.ofNat cs.length)), .val (.int (0 : Int32)), .unset]) rfl k) ?_
  have loop : ∀ (kT iloop : Nat) (sl : Slot) (T : State) (locs : List Loc) (h : Heap), iloop + kT = cs.length → Stand p l e ⟨0, 0, 0, 0⟩ s m #[(.ref a), (.int (0 : Int32)), (.ref b), (.int (0 : Int32)), (.int (Int32.ofNat cs.length))] below meth cC T locs 0 0 → T.heap = h → Fr n0 locs → Old Z n0 h → Keep h0 h [b] → Arv Z h a ka .char (Int32.ofNat cs.length) (cs.map Value.int) da → Arv Z h b kb .byte (Int32.ofNat cs.length) (own_part cs iloop) (.int (0 : Int32)) → (∀ j, j < iloop → ¬ (255 : Int32) < cs.getD j 0) → ((sl = .unset ∨ ∃ w, sl = .val w ∧ w.category = 1)) → own_Go p e below (T.setTop (mkF m 3 #[.val (.ref a), .val (.int (Int32.ofNat iloop)), .val (.ref b), .val (.int (Int32.ofNat iloop)), .val (.int (Int32.ofNat cs.length)), .val (.int (Int32.ofNat iloop)), sl] [])) (fun oO U' => ∃ rV rL, oO = .returned rV ∧ QC5 Z b kb cs h0 n0 rV U'.heap rL ∧ FrameEnd s oO U' rL 0 0) := by
    intro kT
    induction kT with
    | zero =>
      intro iloop sl T23 L23 h23 hik X23 e23 N23 O23 K23 J0_23 J1_23 hall hsl
      have Z0_23 : n0 ≤ h23.size := O23.1 ▸ O23.2.1
      have hin : iloop = cs.length := by omega
      have hlt : ¬ ((Int32.ofNat iloop) < (Int32.ofNat cs.length)) := by rw [own_lti (by omega) (by omega)]; omega
      refine og (fun _ k => XS.iload X23.here hx rfl (hb hby d52_21_3) rfl k) ?_
      try dsimp only [mkF]
      refine og (fun _ k => XS.iload X23.here hx rfl (hb hby d52_21_5) rfl k) ?_
      refine og (fun _ k => XS.icmpYes X23.here hx rfl (pc0 := 7) (pc' := 44) rfl (hb hby d52_21_7) rfl (flt hlt).2.1 (by decide) (by decide) k) ?_
      refine og (fun _ k => XS.iload X23.here hx rfl (hb hby d52_21_44) rfl k) ?_
      refine own_fin (v := (some (.int (Int32.ofNat cs.length)))) X23 (fun h => by rw [hrt] at h; cases h) hlk (fun fs hr => retI X23 hx hrt (hb hby d52_21_46) hr) (QQ := QC5 Z b kb cs h0 n0) ?_ (by decide) (by decide)
      rw [e23]
      exact ⟨cs.length, rfl, N23, K23, Or.inl ⟨rfl, own_all (fun j hj => hall j (by omega)), by have q := J1_23; rw [hin, own_partn] at q; exact q⟩⟩
    | succ kT ih =>
      intro iloop sl T24 L24 h24 hik X24 e24 N24 O24 K24 J0_24 J1_24 hall hsl
      have Z0_24 : n0 ≤ h24.size := O24.1 ▸ O24.2.1
      have hi : iloop < cs.length := by omega
      have hlt : (Int32.ofNat iloop) < (Int32.ofNat cs.length) := (own_lti (by omega) (by omega)).mpr hi
      refine og (fun _ k => XS.iload X24.here hx rfl (hb hby d52_21_3) rfl k) ?_
      try dsimp only [mkF]
      refine og (fun _ k => XS.iload X24.here hx rfl (hb hby d52_21_5) rfl k) ?_
      refine og (fun _ k => XS.icmpNo X24.here hx rfl (hb hby d52_21_7) rfl (tlt hlt).2.1 k) ?_
      refine og (fun _ k => XS.aloadN X24.here hx rfl (hb hby d52_21_10) rfl rfl k) ?_
      refine og (fun _ k => XS.iloadN X24.here hx rfl (hb hby d52_21_11) rfl k) ?_
      obtain ⟨c25, A25, q25, S25, M25, Hs25, Gs25⟩ := id J0_24
      have hi25 := inb_of (j := (Int32.ofNat iloop)) S25 (own_inb hi (by omega))
      refine og (fun _ k => X24.caload hx (j := (Int32.ofNat iloop)) (v := (.int (cs.getD iloop 0))) (by rw [e24]; exact A25.1) (State.isArrayOf_alike hZ.alike A25.2.1) A25.2.2 hi25 (Has.at Hs25 hi25 (own_gd rfl hi (by omega))) (g := (mkF m 12 #[.val (.ref a), .val (.int (Int32.ofNat iloop)), .val (.ref b), .val (.int (Int32.ofNat iloop)), .val (.int (Int32.ofNat cs.length)), .val (.int (Int32.ofNat iloop)), sl] [(.int (Int32.ofNat iloop)), (.ref a)])) rfl rfl (hb hby d52_21_12) _ k) ?_
      try dsimp only [mkF]
      refine og (fun _ k => XS.istoreS X24.here hx rfl (hb hby d52_21_13) rfl rfl hsl k) ?_
      refine og (fun _ k => XS.iload X24.here hx rfl (hb hby d52_21_15) rfl k) ?_
      refine og (fun _ k => XS.sipush X24.here hx rfl (hb hby d52_21_17) k) ?_
      by_cases hc26 : (255 : Int32) < (cs.getD iloop 0)
      · skip
        refine og (fun _ k => XS.icmpNo X24.here hx rfl (hb hby d52_21_20) rfl (tlt hc26).2.2.2 k) ?_
        refine og (fun _ k => XS.iload X24.here hx rfl (hb hby d52_21_23) rfl k) ?_
        try dsimp only [mkF]
        refine own_fin (v := (some (.int (Int32.ofNat iloop)))) X24 (fun h => by rw [hrt] at h; cases h) hlk (fun fs hr => retI X24 hx hrt (hb hby d52_21_25) hr) (QQ := QC5 Z b kb cs h0 n0) ?_ (by decide) (by decide)
        rw [e24]
        exact ⟨iloop, rfl, N24, K24, Or.inr ⟨hi, hc26⟩⟩
      · skip
        refine og (fun _ k => XS.icmpYes X24.here hx rfl (pc0 := 20) (pc' := 26) rfl (hb hby d52_21_20) rfl (flt hc26).2.2.2 (by decide) (by decide) k) ?_
        refine og (fun _ k => XS.aloadN X24.here hx rfl (hb hby d52_21_26) rfl rfl k) ?_
        try dsimp only [mkF]
        refine og (fun _ k => XS.iloadN X24.here hx rfl (hb hby d52_21_27) rfl k) ?_
        refine og (fun _ k => XS.iload X24.here hx rfl (hb hby d52_21_28) rfl k) ?_
        refine og (fun _ k => XS.i2b X24.here hx rfl (hb hby d52_21_30) rfl k) ?_
        obtain ⟨c27, A27, q27, S27, M27, Hs27, Gs27⟩ := id J1_24
        obtain ⟨T28, h28, X28, e28, W28, st28⟩ := stB X24 hx hZ e24 A27 (j := (Int32.ofNat iloop)) (inb_of S27 (own_inb hi (by omega))) (g := (mkF m 31 #[.val (.ref a), .val (.int (Int32.ofNat iloop)), .val (.ref b), .val (.int (Int32.ofNat iloop)), .val (.int (Int32.ofNat cs.length)), .val (.int (Int32.ofNat iloop)), .val (.int (cs.getD iloop 0))] [(.int ((cs.getD iloop 0).toInt8.toInt32)), (.int (Int32.ofNat iloop)), (.ref b)])) rfl rfl (hb hby d52_21_31)
        refine own_go st28 ?_
        have N28 := Fr.snoc X28 N24 g_b
        have V28 : Arv Z h28 b kb .byte (Int32.ofNat cs.length) (own_part cs (iloop + 1)) (.int (0 : Int32)) := Eq.mp (congrArg (fun LL => Arv Z h28 b kb .byte (Int32.ofNat cs.length) LL (.int (0 : Int32))) (show ((own_part cs iloop) : List Value).set iloop (.int (nar .byte ((cs.getD iloop 0).toInt8.toInt32))) = (own_part cs (iloop + 1)) from (by rw [own_nb]; exact own_set1 hi))) (Arv.set A27 q27 S27 M27 Hs27 Gs27 (fits_nar_byte _) W28 iloop (own_tn (by omega)) (by rw [own_partl (by omega)]; exact hi))
        refine og (fun _ k => XS.iinc X28.here hx rfl (hb hby d52_21_32) rfl (l' := #[.val (.ref a), .val (.int ((Int32.ofNat iloop) + (1 : Int32))), .val (.ref b), .val (.int (Int32.ofNat iloop)), .val (.int (Int32.ofNat cs.length)), .val (.int (Int32.ofNat iloop)), .val (.int (cs.getD iloop 0))]) rfl k) ?_
        try dsimp only [mkF]
        refine og (fun _ k => XS.iinc X28.here hx rfl (hb hby d52_21_35) rfl (l' := #[.val (.ref a), .val (.int ((Int32.ofNat iloop) + (1 : Int32))), .val (.ref b), .val (.int ((Int32.ofNat iloop) + (1 : Int32))), .val (.int (Int32.ofNat cs.length)), .val (.int (Int32.ofNat iloop)), .val (.int (cs.getD iloop 0))]) rfl k) ?_
        refine og (fun _ k => XS.iinc X28.here hx rfl (hb hby d52_21_38) rfl (l' := #[.val (.ref a), .val (.int ((Int32.ofNat iloop) + (1 : Int32))), .val (.ref b), .val (.int ((Int32.ofNat iloop) + (1 : Int32))), .val (.int (Int32.ofNat cs.length)), .val (.int ((Int32.ofNat iloop) + (1 : Int32))), .val (.int (cs.getD iloop 0))]) rfl k) ?_
        refine og (fun _ k => XS.goto X28.here hx rfl (pc0 := 41) (pc' := 3) rfl (hb hby d52_21_41) (by decide) (by decide) k) ?_
        show own_Go p e below (T28.setTop (mkF m 3 #[.val (.ref a), .val (.int ((Int32.ofNat iloop) + (1 : Int32))), .val (.ref b), .val (.int ((Int32.ofNat iloop) + (1 : Int32))), .val (.int (Int32.ofNat cs.length)), .val (.int ((Int32.ofNat iloop) + (1 : Int32))), .val (.int (cs.getD iloop 0))] [])) _
        rw [own_inc]
        have f29 := (K24.wr W28 (Or.inl (List.mem_of_getElem? (i := 0) rfl)))
        exact ih (iloop + 1) (.val (.int (cs.getD iloop 0))) T28 _ h28 (by omega) X28 e28 N28 (O24.wr W28 g_b) f29 (J0_24.other W28 hab) V28 (fun j hj => (Nat.lt_succ_iff_lt_or_eq.mp hj).elim (fun q => hall j q) (fun q => q ▸ hc26)) (Or.inr ⟨_, rfl, rfl⟩)
  exact loop (cs.length) 0 .unset s₁ _ h0 (by omega) X0 e0 N0 O0 (Keep.refl h0 [b]) V_a (own_part0 cs ▸ V_b) (fun j hj => absurd hj (Nat.not_lt_zero _)) (Or.inl rfl)

abbrev k52_4 := jdk_52_method_4_code
theorem d52_4_0 : Dk k52_4 0 (.getstatic 44) 3 := own_k
theorem d52_4_3 : Dk k52_4 3 (.ifCond .ne 25) 3 := own_k
theorem d52_4_28 : Dk k52_4 28 (.iload_n 1) 1 := own_k
theorem d52_4_29 : Dk k52_4 29 (.iconst 1) 1 := own_k
theorem d52_4_30 : Dk k52_4 30 .ishl 1 := own_k
theorem d52_4_31 : Dk k52_4 31 (.istore_n 1) 1 := own_k
theorem d52_4_32 : Dk k52_4 32 (.aload_n 0) 1 := own_k
theorem d52_4_33 : Dk k52_4 33 (.iload_n 1) 1 := own_k
theorem d52_4_34 : Dk k52_4 34 (.iinc 1 1) 3 := own_k
theorem d52_4_37 : Dk k52_4 37 (.iload_n 2) 1 := own_k
theorem d52_4_38 : Dk k52_4 38 (.getstatic 59) 3 := own_k
theorem d52_4_41 : Dk k52_4 41 .ishr 1 := own_k
theorem d52_4_42 : Dk k52_4 42 .i2b 1 := own_k
theorem d52_4_43 : Dk k52_4 43 .bastore 1 := own_k
theorem d52_4_44 : Dk k52_4 44 (.aload_n 0) 1 := own_k
theorem d52_4_45 : Dk k52_4 45 (.iload_n 1) 1 := own_k
theorem d52_4_46 : Dk k52_4 46 (.iload_n 2) 1 := own_k
theorem d52_4_47 : Dk k52_4 47 (.getstatic 63) 3 := own_k
theorem d52_4_50 : Dk k52_4 50 .ishr 1 := own_k
theorem d52_4_51 : Dk k52_4 51 .i2b 1 := own_k
theorem d52_4_52 : Dk k52_4 52 .bastore 1 := own_k
theorem d52_4_53 : Dk k52_4 53 .return_ 1 := own_k
theorem ef_rm_put (m : MethodId) (x0 : Addr) (x1 : Int32) (x2 : Int32) : entryFrame m #[(.ref x0), (.int x1), (.int x2)] 3 = mkF m 0 #[.val (.ref x0), .val (.int x1), .val (.int x2)] [] := by
   first | (simp [entryFrame, mkF, argsToLocals, Value.category]; done) | rfl
set_option maxRecDepth 65536 in
set_option maxHeartbeats 40000000 in
theorem rm_put (l : Launch) (Z : State) (a0 : Array Value) (hw : ∀ d ∈ tables_1, d.before a0 Z = true) (ws : List Jvm.Cond) (b : Addr) (kb : ClassId) (N : Nat) (vs : List Value) (i : Nat) (c : Int32) (h0 : Heap) (n0 : Nat) (O0 : Old Z n0 h0) (OA : Sta Z Z.heap "java/lang/StringUTF16" "$assertionsDisabled" "Z" (.int (1 : Int32))) (OH : Sta Z Z.heap "java/lang/StringUTF16" "HI_BYTE_SHIFT" "I" (.int (0 : Int32))) (OL : Sta Z Z.heap "java/lang/StringUTF16" "LO_BYTE_SHIFT" "I" (.int (8 : Int32))) (V_b : Arv Z h0 b kb .byte (Int32.ofNat N) vs (.int (0 : Int32))) (g_b : n0 ≤ b) (hv : vs.length = N) (hi : 2 * i + 1 < N) (hN : N ≤ 8000) :
    MetFree l (⟨"java/lang/StringUTF16", "putChar", "([BII)V"⟩ : MethodName) (head1 (Jvm.Cond.code (⟨"java/lang/StringUTF16", "putChar", "([BII)V"⟩ : MethodName) jdk_52_method_4_code 3 none :: ws) ⟨0, 0, 0, 0⟩) (fun aA U => aA = #[(.ref b), (.int (Int32.ofNat i)), (.int c)] ∧ Z.Warmed39 U.vm ∧ U.heap = h0) (fun _ _ _ _ _ => True) (fun _ U oO U' => ∃ rV rL, oO = .returned rV ∧ QPut Z b kb (Int32.ofNat N) ((vs.set (2 * i) (.int (StrChars.lo8 c))).set (2 * i + 1) (.int (StrChars.hi8 c))) h0 n0 rV U'.heap rL ∧ FrameEnd U oO U' rL 0 0) := by
  refine MetFree.of_bodySF (plainFor_of_name pn_1) hisR ?_
  intro p e s m args below meth cC s₁ Bd hml0 hP hK
  obtain ⟨rfl, hZ, hh⟩ := hP
  have hx := Bd.exec
  have hby := Bd.bytes
  have hml : cC.maxLocals = 3 := hml0
  have hown : s.vm.findClass "java/lang/StringUTF16" = some m.cls := findClass_of_methodNamed Bd.named
  have hnm := (name_of_methodNamed Bd.named Bd.method).1
  have hrt := Bd.returns
  have hlk : meth.locks = false := Bd.notSynchronized
  have X0 : Stand p l e ⟨0, 0, 0, 0⟩ s m #[(.ref b), (.int (Int32.ofNat i)), (.int c)] below meth cC s₁ [] 0 0 := Stand.of_body Bd
  have e0 : s₁.heap = h0 := by rw [← hh, Bd.state]; rfl
  have N0 := Fr.nil n0
  have Z0 : n0 ≤ h0.size := O0.1 ▸ O0.2.1
  show own_Go p e below (s₁.setTop (entryFrame m #[(.ref b), (.int (Int32.ofNat i)), (.int c)] 3)) (fun oO U' => ∃ rV rL, oO = .returned rV ∧ QPut Z b kb (Int32.ofNat N) ((vs.set (2 * i) (.int (StrChars.lo8 c))).set (2 * i + 1) (.int (StrChars.hi8 c))) h0 n0 rV U'.heap rL ∧ FrameEnd s oO U' rL 0 0)
  refine own_go (fun _ k => castTop (ef_rm_put m b _ c) k) ?_
  obtain ⟨T30, X30, e30, st30⟩ := getS2 X0 hx hZ hown (host := "") (Or.inl (tw hw 255 rfl)) Via.refl e0 (OA.ext O0.2) (g := (mkF m 0 #[.val (.ref b), .val (.int (Int32.ofNat i)), .val (.int c)] [])) rfl (hb hby d52_4_0)
  refine own_go st30 ?_
  refine og (fun _ k => XS.ifYes X30.here hx rfl (pc0 := 3) (pc' := 28) rfl (hb hby d52_4_3) rfl ((if0 _ _).trans (feq (by decide : ¬ ((1 : Int32) = (0 : Int32)))).2) (by decide) (by decide) k) ?_
  refine og (fun _ k => XS.iloadN X30.here hx rfl (hb hby d52_4_28) rfl k) ?_
  refine og (fun _ k => XS.iconst X30.here hx rfl (hb hby d52_4_29) k) ?_
  try dsimp only [mkF]
  refine og (fun _ k => XS.ishl X30.here hx rfl (hb hby d52_4_30) rfl k) ?_
  show own_Go p e below (T30.setTop (mkF m 31 #[.val (.ref b), .val (.int (Int32.ofNat i)), .val (.int c)] [(.int ((Int32.ofNat i) <<< ((1 : Int32) &&& 31)))])) _
  rw [own_shl1 (by omega : i ≤ 4000)]
  refine og (fun _ k => XS.istoreN X30.here hx rfl (hb hby d52_4_31) rfl (l' := #[.val (.ref b), .val (.int (Int32.ofNat (2 * i))), .val (.int c)]) rfl k) ?_
  refine og (fun _ k => XS.aloadN X30.here hx rfl (hb hby d52_4_32) rfl rfl k) ?_
  refine og (fun _ k => XS.iloadN X30.here hx rfl (hb hby d52_4_33) rfl k) ?_
  try dsimp only [mkF]
  refine og (fun _ k => XS.iinc X30.here hx rfl (hb hby d52_4_34) rfl (l' := #[.val (.ref b), .val (.int ((Int32.ofNat (2 * i)) + (1 : Int32))), .val (.int c)]) rfl k) ?_
  show own_Go p e below (T30.setTop (mkF m 37 #[.val (.ref b), .val (.int ((Int32.ofNat (2 * i)) + (1 : Int32))), .val (.int c)] [(.int (Int32.ofNat (2 * i))), (.ref b)])) _
  rw [own_inc]
  refine og (fun _ k => XS.iloadN X30.here hx rfl (hb hby d52_4_37) rfl k) ?_
  obtain ⟨T31, X31, e31, st31⟩ := getS2 X30 hx hZ hown (host := "") (Or.inl (tw hw 256 rfl)) Via.refl e30 (OH.ext O0.2) (g := (mkF m 38 #[.val (.ref b), .val (.int (Int32.ofNat (2 * i + 1))), .val (.int c)] [(.int c), (.int (Int32.ofNat (2 * i))), (.ref b)])) rfl (hb hby d52_4_38)
  refine own_go st31 ?_
  refine og (fun _ k => XS.ishr X31.here hx rfl (hb hby d52_4_41) rfl k) ?_
  try dsimp only [mkF]
  refine og (fun _ k => XS.i2b X31.here hx rfl (hb hby d52_4_42) rfl k) ?_
  obtain ⟨c32, A32, q32, S32, M32, Hs32, Gs32⟩ := id V_b
  obtain ⟨T33, h33, X33, e33, W33, st33⟩ := stB X31 hx hZ e31 A32 (j := (Int32.ofNat (2 * i))) (inb_of S32 (own_inb (by omega) (by omega))) (g := (mkF m 43 #[.val (.ref b), .val (.int (Int32.ofNat (2 * i + 1))), .val (.int c)] [(.int ((c >>> ((0 : Int32) &&& 31)).toInt8.toInt32)), (.int (Int32.ofNat (2 * i))), (.ref b)])) rfl rfl (hb hby d52_4_43)
  refine own_go st33 ?_
  have N33 := Fr.snoc X33 N0 g_b
  have V33 : Arv Z h33 b kb .byte (Int32.ofNat N) (vs.set (2 * i) (.int (StrChars.lo8 c))) (.int (0 : Int32)) := Eq.mp (congrArg (fun LL => Arv Z h33 b kb .byte (Int32.ofNat N) LL (.int (0 : Int32))) (show (vs : List Value).set (2 * i) (.int (nar .byte ((c >>> ((0 : Int32) &&& 31)).toInt8.toInt32))) = (vs.set (2 * i) (.int (StrChars.lo8 c))) from (by rw [own_nb, StrChars.shr0]; rfl))) (Arv.set A32 q32 S32 M32 Hs32 Gs32 (fits_nar_byte _) W33 (2 * i) (own_tn (by omega)) (by omega))
  refine og (fun _ k => XS.aloadN X33.here hx rfl (hb hby d52_4_44) rfl rfl k) ?_
  refine og (fun _ k => XS.iloadN X33.here hx rfl (hb hby d52_4_45) rfl k) ?_
  refine og (fun _ k => XS.iloadN X33.here hx rfl (hb hby d52_4_46) rfl k) ?_
  try dsimp only [mkF]
  obtain ⟨T34, X34, e34, st34⟩ := getS2 X33 hx hZ hown (host := "") (Or.inl (tw hw 257 rfl)) Via.refl e33 (OL.ext (O0.wr W33 g_b).2) (g := (mkF m 47 #[.val (.ref b), .val (.int (Int32.ofNat (2 * i + 1))), .val (.int c)] [(.int c), (.int (Int32.ofNat (2 * i + 1))), (.ref b)])) rfl (hb hby d52_4_47)
  refine own_go st34 ?_
  refine og (fun _ k => XS.ishr X34.here hx rfl (hb hby d52_4_50) rfl k) ?_
  refine og (fun _ k => XS.i2b X34.here hx rfl (hb hby d52_4_51) rfl k) ?_
  obtain ⟨c35, A35, q35, S35, M35, Hs35, Gs35⟩ := id V33
  obtain ⟨T36, h36, X36, e36, W36, st36⟩ := stB X34 hx hZ e34 A35 (j := (Int32.ofNat (2 * i + 1))) (inb_of S35 (own_inb (by omega) (by omega))) (g := (mkF m 52 #[.val (.ref b), .val (.int (Int32.ofNat (2 * i + 1))), .val (.int c)] [(.int ((c >>> ((8 : Int32) &&& 31)).toInt8.toInt32)), (.int (Int32.ofNat (2 * i + 1))), (.ref b)])) rfl rfl (hb hby d52_4_52)
  refine own_go st36 ?_
  have N36 := Fr.snoc X36 N33 g_b
  have V36 : Arv Z h36 b kb .byte (Int32.ofNat N) ((vs.set (2 * i) (.int (StrChars.lo8 c))).set (2 * i + 1) (.int (StrChars.hi8 c))) (.int (0 : Int32)) := Eq.mp (congrArg (fun LL => Arv Z h36 b kb .byte (Int32.ofNat N) LL (.int (0 : Int32))) (show ((vs.set (2 * i) (.int (StrChars.lo8 c))) : List Value).set (2 * i + 1) (.int (nar .byte ((c >>> ((8 : Int32) &&& 31)).toInt8.toInt32))) = ((vs.set (2 * i) (.int (StrChars.lo8 c))).set (2 * i + 1) (.int (StrChars.hi8 c))) from (by rw [own_nb]; rfl))) (Arv.set A35 q35 S35 M35 Hs35 Gs35 (fits_nar_byte _) W36 (2 * i + 1) (own_tn (by omega)) (by rw [List.length_set]; omega))
  have f37 := (((Keep.refl h0 [b]).wr W33 (Or.inl (List.mem_of_getElem? (i := 0) rfl))).wr W36 (Or.inl (List.mem_of_getElem? (i := 0) rfl)))
  refine own_fin (v := none) X36 (fun _ => rfl) hlk (fun fs hr => X36.returnOut hx hrt (hb hby d52_4_53) hr) (QQ := QPut Z b kb (Int32.ofNat N) ((vs.set (2 * i) (.int (StrChars.lo8 c))).set (2 * i + 1) (.int (StrChars.hi8 c))) h0 n0) ?_ (by decide) (by decide)
  rw [e36]
  exact ⟨rfl, N36, f37, V36⟩

abbrev k52_5 := jdk_52_method_5_code
theorem d52_5_0 : Dk k52_5 0 (.getstatic 44) 3 := own_k
theorem d52_5_3 : Dk k52_5 3 (.ifCond .ne 25) 3 := own_k
theorem d52_5_28 : Dk k52_5 28 (.iload_n 1) 1 := own_k
theorem d52_5_29 : Dk k52_5 29 (.iconst 1) 1 := own_k
theorem d52_5_30 : Dk k52_5 30 .ishl 1 := own_k
theorem d52_5_31 : Dk k52_5 31 (.istore_n 1) 1 := own_k
theorem d52_5_32 : Dk k52_5 32 (.aload_n 0) 1 := own_k
theorem d52_5_33 : Dk k52_5 33 (.iload_n 1) 1 := own_k
theorem d52_5_34 : Dk k52_5 34 (.iinc 1 1) 3 := own_k
theorem d52_5_37 : Dk k52_5 37 .baload 1 := own_k
theorem d52_5_38 : Dk k52_5 38 (.sipush 255) 3 := own_k
theorem d52_5_41 : Dk k52_5 41 .iand 1 := own_k
theorem d52_5_42 : Dk k52_5 42 (.getstatic 59) 3 := own_k
theorem d52_5_45 : Dk k52_5 45 .ishl 1 := own_k
theorem d52_5_46 : Dk k52_5 46 (.aload_n 0) 1 := own_k
theorem d52_5_47 : Dk k52_5 47 (.iload_n 1) 1 := own_k
theorem d52_5_48 : Dk k52_5 48 .baload 1 := own_k
theorem d52_5_49 : Dk k52_5 49 (.sipush 255) 3 := own_k
theorem d52_5_52 : Dk k52_5 52 .iand 1 := own_k
theorem d52_5_53 : Dk k52_5 53 (.getstatic 63) 3 := own_k
theorem d52_5_56 : Dk k52_5 56 .ishl 1 := own_k
theorem d52_5_57 : Dk k52_5 57 .ior 1 := own_k
theorem d52_5_58 : Dk k52_5 58 .i2c 1 := own_k
theorem d52_5_59 : Dk k52_5 59 .ireturn 1 := own_k
theorem ef_rm_get (m : MethodId) (x0 : Addr) (x1 : Int32) : entryFrame m #[(.ref x0), (.int x1)] 2 = mkF m 0 #[.val (.ref x0), .val (.int x1)] [] := by
   first | (simp [entryFrame, mkF, argsToLocals, Value.category]; done) | rfl
set_option maxRecDepth 65536 in
set_option maxHeartbeats 40000000 in
theorem rm_get (l : Launch) (Z : State) (a0 : Array Value) (hw : ∀ d ∈ tables_1, d.before a0 Z = true) (ws : List Jvm.Cond) (b : Addr) (kb : ClassId) (N : Nat) (vs : List Value) (i : Nat) (c : Int32) (h0 : Heap) (n0 : Nat) (O0 : Old Z n0 h0) (OA : Sta Z Z.heap "java/lang/StringUTF16" "$assertionsDisabled" "Z" (.int (1 : Int32))) (OH : Sta Z Z.heap "java/lang/StringUTF16" "HI_BYTE_SHIFT" "I" (.int (0 : Int32))) (OL : Sta Z Z.heap "java/lang/StringUTF16" "LO_BYTE_SHIFT" "I" (.int (8 : Int32))) (V_b : Arv Z h0 b kb .byte (Int32.ofNat N) vs (.int (0 : Int32))) (h1 : vs.getD (2 * i) (.int (0 : Int32)) = .int (StrChars.lo8 c)) (h2 : vs.getD (2 * i + 1) (.int (0 : Int32)) = .int (StrChars.hi8 c)) (hi : 2 * i + 1 < N) (hN : N ≤ 8000) (hc : ¬ c < 0 ∧ ¬ (65535 : Int32) < c) :
    MetFree l (⟨"java/lang/StringUTF16", "getChar", "([BI)C"⟩ : MethodName) (head1 (Jvm.Cond.code (⟨"java/lang/StringUTF16", "getChar", "([BI)C"⟩ : MethodName) jdk_52_method_5_code 2 (some .char) :: ws) ⟨0, 0, 0, 0⟩) (fun aA U => aA = #[(.ref b), (.int (Int32.ofNat i))] ∧ Z.Warmed39 U.vm ∧ U.heap = h0) (fun _ _ _ _ _ => True) (fun _ U oO U' => ∃ rV rL, oO = .returned rV ∧ QPure (some (.int c)) h0 n0 rV U'.heap rL ∧ FrameEnd U oO U' rL 0 0) := by
  refine MetFree.of_bodySF (plainFor_of_name pn_1) hisR ?_
  intro p e s m args below meth cC s₁ Bd hml0 hP hK
  obtain ⟨rfl, hZ, hh⟩ := hP
  have hx := Bd.exec
  have hby := Bd.bytes
  have hml : cC.maxLocals = 2 := hml0
  have hown : s.vm.findClass "java/lang/StringUTF16" = some m.cls := findClass_of_methodNamed Bd.named
  have hnm := (name_of_methodNamed Bd.named Bd.method).1
  have hrt := Bd.returns
  have hlk : meth.locks = false := Bd.notSynchronized
  have X0 : Stand p l e ⟨0, 0, 0, 0⟩ s m #[(.ref b), (.int (Int32.ofNat i))] below meth cC s₁ [] 0 0 := Stand.of_body Bd
  have e0 : s₁.heap = h0 := by rw [← hh, Bd.state]; rfl
  have N0 := Fr.nil n0
  have Z0 : n0 ≤ h0.size := O0.1 ▸ O0.2.1
  show own_Go p e below (s₁.setTop (entryFrame m #[(.ref b), (.int (Int32.ofNat i))] 2)) (fun oO U' => ∃ rV rL, oO = .returned rV ∧ QPure (some (.int c)) h0 n0 rV U'.heap rL ∧ FrameEnd s oO U' rL 0 0)
  refine own_go (fun _ k => castTop (ef_rm_get m b _) k) ?_
  obtain ⟨T38, X38, e38, st38⟩ := getS2 X0 hx hZ hown (host := "") (Or.inl (tw hw 255 rfl)) Via.refl e0 (OA.ext O0.2) (g := (mkF m 0 #[.val (.ref b), .val (.int (Int32.ofNat i))] [])) rfl (hb hby d52_5_0)
  refine own_go st38 ?_
  refine og (fun _ k => XS.ifYes X38.here hx rfl (pc0 := 3) (pc' := 28) rfl (hb hby d52_5_3) rfl ((if0 _ _).trans (feq (by decide : ¬ ((1 : Int32) = (0 : Int32)))).2) (by decide) (by decide) k) ?_
  refine og (fun _ k => XS.iloadN X38.here hx rfl (hb hby d52_5_28) rfl k) ?_
  refine og (fun _ k => XS.iconst X38.here hx rfl (hb hby d52_5_29) k) ?_
  try dsimp only [mkF]
  refine og (fun _ k => XS.ishl X38.here hx rfl (hb hby d52_5_30) rfl k) ?_
  show own_Go p e below (T38.setTop (mkF m 31 #[.val (.ref b), .val (.int (Int32.ofNat i))] [(.int ((Int32.ofNat i) <<< ((1 : Int32) &&& 31)))])) _
  rw [own_shl1 (by omega : i ≤ 4000)]
  refine og (fun _ k => XS.istoreN X38.here hx rfl (hb hby d52_5_31) rfl (l' := #[.val (.ref b), .val (.int (Int32.ofNat (2 * i)))]) rfl k) ?_
  refine og (fun _ k => XS.aloadN X38.here hx rfl (hb hby d52_5_32) rfl rfl k) ?_
  refine og (fun _ k => XS.iloadN X38.here hx rfl (hb hby d52_5_33) rfl k) ?_
  try dsimp only [mkF]
  refine og (fun _ k => XS.iinc X38.here hx rfl (hb hby d52_5_34) rfl (l' := #[.val (.ref b), .val (.int ((Int32.ofNat (2 * i)) + (1 : Int32)))]) rfl k) ?_
  show own_Go p e below (T38.setTop (mkF m 37 #[.val (.ref b), .val (.int ((Int32.ofNat (2 * i)) + (1 : Int32)))] [(.int (Int32.ofNat (2 * i))), (.ref b)])) _
  rw [own_inc]
  obtain ⟨c39, A39, q39, S39, M39, Hs39, Gs39⟩ := id V_b
  have hi39 := inb_of (j := (Int32.ofNat (2 * i))) S39 (own_inb (by omega) (by omega))
  refine og (fun _ k => X38.baloadBytes hx (j := (Int32.ofNat (2 * i))) (v := (.int (StrChars.lo8 c))) (by rw [e38]; exact A39.1) (State.isArrayOf_alike hZ.alike A39.2.1) A39.2.2 hi39 (Has.at Hs39 hi39 (by rw [own_tn (by omega)]; exact h1)) (g := (mkF m 37 #[.val (.ref b), .val (.int (Int32.ofNat (2 * i + 1)))] [(.int (Int32.ofNat (2 * i))), (.ref b)])) rfl rfl (hb hby d52_5_37) _ k) ?_
  refine og (fun _ k => XS.sipush X38.here hx rfl (hb hby d52_5_38) k) ?_
  refine og (fun _ k => XS.iand X38.here hx rfl (hb hby d52_5_41) rfl k) ?_
  try dsimp only [mkF]
  obtain ⟨T40, X40, e40, st40⟩ := getS2 X38 hx hZ hown (host := "") (Or.inl (tw hw 256 rfl)) Via.refl e38 (OH.ext O0.2) (g := (mkF m 42 #[.val (.ref b), .val (.int (Int32.ofNat (2 * i + 1)))] [(.int ((StrChars.lo8 c) &&& (255 : Int32)))])) rfl (hb hby d52_5_42)
  refine own_go st40 ?_
  refine og (fun _ k => XS.ishl X40.here hx rfl (hb hby d52_5_45) rfl k) ?_
  refine og (fun _ k => XS.aloadN X40.here hx rfl (hb hby d52_5_46) rfl rfl k) ?_
  refine og (fun _ k => XS.iloadN X40.here hx rfl (hb hby d52_5_47) rfl k) ?_
  obtain ⟨c41, A41, q41, S41, M41, Hs41, Gs41⟩ := id V_b
  have hi41 := inb_of (j := (Int32.ofNat (2 * i + 1))) S41 (own_inb (by omega) (by omega))
  refine og (fun _ k => X40.baloadBytes hx (j := (Int32.ofNat (2 * i + 1))) (v := (.int (StrChars.hi8 c))) (by rw [e40]; exact A41.1) (State.isArrayOf_alike hZ.alike A41.2.1) A41.2.2 hi41 (Has.at Hs41 hi41 (by rw [own_tn (by omega)]; exact h2)) (g := (mkF m 48 #[.val (.ref b), .val (.int (Int32.ofNat (2 * i + 1)))] [(.int (Int32.ofNat (2 * i + 1))), (.ref b), (.int (((StrChars.lo8 c) &&& (255 : Int32)) <<< ((0 : Int32) &&& 31)))])) rfl rfl (hb hby d52_5_48) _ k) ?_
  try dsimp only [mkF]
  refine og (fun _ k => XS.sipush X40.here hx rfl (hb hby d52_5_49) k) ?_
  refine og (fun _ k => XS.iand X40.here hx rfl (hb hby d52_5_52) rfl k) ?_
  obtain ⟨T42, X42, e42, st42⟩ := getS2 X40 hx hZ hown (host := "") (Or.inl (tw hw 257 rfl)) Via.refl e40 (OL.ext O0.2) (g := (mkF m 53 #[.val (.ref b), .val (.int (Int32.ofNat (2 * i + 1)))] [(.int ((StrChars.hi8 c) &&& (255 : Int32))), (.int (((StrChars.lo8 c) &&& (255 : Int32)) <<< ((0 : Int32) &&& 31)))])) rfl (hb hby d52_5_53)
  refine own_go st42 ?_
  refine og (fun _ k => XS.ishl X42.here hx rfl (hb hby d52_5_56) rfl k) ?_
  refine og (fun _ k => XS.ior X42.here hx rfl (hb hby d52_5_57) rfl k) ?_
  try dsimp only [mkF]
  refine og (fun _ k => XS.i2c X42.here hx rfl (hb hby d52_5_58) rfl k) ?_
  refine own_fin (v := (some (.int (nar .char (((((StrChars.lo8 c) &&& (255 : Int32)) <<< ((0 : Int32) &&& 31)) ||| (((StrChars.hi8 c) &&& (255 : Int32)) <<< ((8 : Int32) &&& 31))).toUInt32.toUInt16.toUInt32.toInt32))))) X42 (fun h => by rw [hrt] at h; cases h) hlk (fun fs hr => retN X42 hx (t := .char) hrt (by simp) (hb hby d52_5_59) hr) (QQ := QPure (some (.int c)) h0 n0) ?_ (by decide) (by decide)
  rw [e42]
  exact ⟨congrArg (fun z => some (Value.int z)) ((congrArg (nar .char) (StrChars.pair_says hc.1 hc.2)).trans (own_nc hc.1 hc.2)), N0, rfl⟩

abbrev k52_3 := jdk_52_method_3_code
theorem d52_3_0 : Dk k52_3 0 (.iload_n 0) 1 := own_k
theorem d52_3_1 : Dk k52_3 1 (.ifCond .ge 11) 3 := own_k
theorem d52_3_12 : Dk k52_3 12 (.iload_n 0) 1 := own_k
theorem d52_3_13 : Dk k52_3 13 (.ldc 20) 2 := own_k
theorem d52_3_15 : Dk k52_3 15 (.if_icmp .lt 40) 3 := own_k
theorem d52_3_55 : Dk k52_3 55 (.iload_n 0) 1 := own_k
theorem d52_3_56 : Dk k52_3 56 (.iconst 1) 1 := own_k
theorem d52_3_57 : Dk k52_3 57 .ishl 1 := own_k
theorem d52_3_58 : Dk k52_3 58 .ireturn 1 := own_k
theorem ef_rm_nbl (m : MethodId) (x0 : Int32) : entryFrame m #[(.int x0)] 1 = mkF m 0 #[.val (.int x0)] [] := by
   first | (simp [entryFrame, mkF, argsToLocals, Value.category]; done) | rfl
set_option maxRecDepth 65536 in
set_option maxHeartbeats 40000000 in
theorem rm_nbl (l : Launch) (Z : State) (a0 : Array Value) (hw : ∀ d ∈ tables_1, d.before a0 Z = true) (ws : List Jvm.Cond) (n : Nat) (h0 : Heap) (n0 : Nat) (O0 : Old Z n0 h0) (hn : n ≤ 4000) :
    MetFree l (⟨"java/lang/StringUTF16", "newBytesLength", "(I)I"⟩ : MethodName) (head1 (Jvm.Cond.code (⟨"java/lang/StringUTF16", "newBytesLength", "(I)I"⟩ : MethodName) jdk_52_method_3_code 1 (some .int) :: ws) ⟨0, 0, 0, 0⟩) (fun aA U => aA = #[(.int (Int32.ofNat n))] ∧ Z.Warmed39 U.vm ∧ U.heap = h0) (fun _ _ _ _ _ => True) (fun _ U oO U' => ∃ rV rL, oO = .returned rV ∧ QPure (some (.int (Int32.ofNat (2 * n)))) h0 n0 rV U'.heap rL ∧ FrameEnd U oO U' rL 0 0) := by
  refine MetFree.of_bodySF (plainFor_of_name pn_1) hisR ?_
  intro p e s m args below meth cC s₁ Bd hml0 hP hK
  obtain ⟨rfl, hZ, hh⟩ := hP
  have hx := Bd.exec
  have hby := Bd.bytes
  have hml : cC.maxLocals = 1 := hml0
  have hown : s.vm.findClass "java/lang/StringUTF16" = some m.cls := findClass_of_methodNamed Bd.named
  have hnm := (name_of_methodNamed Bd.named Bd.method).1
  have hrt := Bd.returns
  have hlk : meth.locks = false := Bd.notSynchronized
  have X0 : Stand p l e ⟨0, 0, 0, 0⟩ s m #[(.int (Int32.ofNat n))] below meth cC s₁ [] 0 0 := Stand.of_body Bd
  have e0 : s₁.heap = h0 := by rw [← hh, Bd.state]; rfl
  have N0 := Fr.nil n0
  have Z0 : n0 ≤ h0.size := O0.1 ▸ O0.2.1
  show own_Go p e below (s₁.setTop (entryFrame m #[(.int (Int32.ofNat n))] 1)) (fun oO U' => ∃ rV rL, oO = .returned rV ∧ QPure (some (.int (Int32.ofNat (2 * n)))) h0 n0 rV U'.heap rL ∧ FrameEnd s oO U' rL 0 0)
  refine own_go (fun _ k => castTop (ef_rm_nbl m _) k) ?_
  refine og (fun _ k => XS.iloadN X0.here hx rfl (hb hby d52_3_0) rfl k) ?_
  refine og (fun _ k => XS.ifYes X0.here hx rfl (pc0 := 1) (pc' := 12) rfl (hb hby d52_3_1) rfl ((if0 _ _).trans (flt (own_nn0 (by omega))).2.1) (by decide) (by decide) k) ?_
  refine og (fun _ k => XS.iloadN X0.here hx rfl (hb hby d52_3_12) rfl k) ?_
  refine og (fun _ k => X0.ldcInt hx hown (mvT hZ (tw hw 251 rfl)) (g := (mkF m 13 #[.val (.int (Int32.ofNat n))] [(.int (Int32.ofNat n))])) rfl (hb hby d52_3_13) _ k) ?_
  try dsimp only [mkF]
  refine og (fun _ k => XS.icmpYes X0.here hx rfl (pc0 := 15) (pc' := 55) rfl (hb hby d52_3_15) rfl (tlt ((own_lti (j := 1073741823) (by omega) (by decide)).mpr (by omega))).1 (by decide) (by decide) k) ?_
  refine og (fun _ k => XS.iloadN X0.here hx rfl (hb hby d52_3_55) rfl k) ?_
  refine og (fun _ k => XS.iconst X0.here hx rfl (hb hby d52_3_56) k) ?_
  refine og (fun _ k => XS.ishl X0.here hx rfl (hb hby d52_3_57) rfl k) ?_
  refine own_fin (v := (some (.int ((Int32.ofNat n) <<< ((1 : Int32) &&& 31))))) X0 (fun h => by rw [hrt] at h; cases h) hlk (fun fs hr => retI X0 hx hrt (hb hby d52_3_58) hr) (QQ := QPure (some (.int (Int32.ofNat (2 * n)))) h0 n0) ?_ (by decide) (by decide)
  rw [e0]
  exact ⟨congrArg (fun z => some (Value.int z)) (own_shl1 hn), N0, rfl⟩

abbrev k52_2 := jdk_52_method_2_code
theorem d52_2_0 : Dk k52_2 0 (.iload_n 0) 1 := own_k
theorem d52_2_1 : Dk k52_2 1 (.invokestatic 11) 3 := own_k
theorem pd_1 : parseMethodDescriptor "(I)I" = some ⟨[.int], some .int⟩ := by decide +kernel
theorem d52_2_4 : Dk k52_2 4 (.newarray .byte) 2 := own_k
theorem d52_2_6 : Dk k52_2 6 .areturn 1 := own_k
theorem ef_rm_nbf (m : MethodId) (x0 : Int32) : entryFrame m #[(.int x0)] 1 = mkF m 0 #[.val (.int x0)] [] := by
   first | (simp [entryFrame, mkF, argsToLocals, Value.category]; done) | rfl
set_option maxRecDepth 65536 in
set_option maxHeartbeats 40000000 in
theorem rm_nbf (l : Launch) (Z : State) (a0 : Array Value) (hw : ∀ d ∈ tables_1, d.before a0 Z = true) (ws : List Jvm.Cond) (n : Nat) (h0 : Heap) (n0 : Nat) (O0 : Old Z n0 h0) (hn : n ≤ 34) :
    MetFree l (⟨"java/lang/StringUTF16", "newBytesFor", "(I)[B"⟩ : MethodName) (head1 (Jvm.Cond.code (⟨"java/lang/StringUTF16", "newBytesFor", "(I)[B"⟩ : MethodName) jdk_52_method_2_code 1 (some (.array .byte)) :: ws) ⟨1, 1, 68, 12⟩) (fun aA U => aA = #[(.int (Int32.ofNat n))] ∧ Z.Warmed39 U.vm ∧ U.heap = h0) (fun _ _ _ _ _ => True) (fun _ U oO U' => ∃ rV rL, oO = .returned rV ∧ QNew Z (Int32.ofNat (2 * n)) (List.replicate (2 * n) (.int (0 : Int32))) h0 n0 rV U'.heap rL ∧ FrameEnd U oO U' rL 1 68) := by
  refine MetFree.of_bodySF (plainFor_of_name pn_1) hisR ?_
  intro p e s m args below meth cC s₁ Bd hml0 hP hK
  obtain ⟨rfl, hZ, hh⟩ := hP
  have hx := Bd.exec
  have hby := Bd.bytes
  have hml : cC.maxLocals = 1 := hml0
  have hown : s.vm.findClass "java/lang/StringUTF16" = some m.cls := findClass_of_methodNamed Bd.named
  have hnm := (name_of_methodNamed Bd.named Bd.method).1
  have hrt := Bd.returns
  have hlk : meth.locks = false := Bd.notSynchronized
  have X0 : Stand p l e ⟨1, 1, 68, 12⟩ s m #[(.int (Int32.ofNat n))] below meth cC s₁ [] 0 0 := Stand.of_body Bd
  have e0 : s₁.heap = h0 := by rw [← hh, Bd.state]; rfl
  have N0 := Fr.nil n0
  have Z0 : n0 ≤ h0.size := O0.1 ▸ O0.2.1
  show own_Go p e below (s₁.setTop (entryFrame m #[(.int (Int32.ofNat n))] 1)) (fun oO U' => ∃ rV rL, oO = .returned rV ∧ QNew Z (Int32.ofNat (2 * n)) (List.replicate (2 * n) (.int (0 : Int32))) h0 n0 rV U'.heap rL ∧ FrameEnd s oO U' rL 1 68)
  refine own_go (fun _ k => castTop (ef_rm_nbf m _) k) ?_
  refine og (fun _ k => XS.iloadN X0.here hx rfl (hb hby d52_2_0) rfl k) ?_
  obtain ⟨v43, _, ⟨T43, L43, k43, n43⟩, -, X43, ⟨Lc43, hQ43, l43, y43, z43⟩, st43⟩ := Jvm.LawKit.callS X0 hx (y := (⟨"java/lang/StringUTF16", "newBytesLength", "(I)I"⟩ : MethodName)) hown (mvT hZ (tw hw 248 rfl)) (mvT hZ (tw hw 249 rfl)) (mvT hZ (tw hw 26 rfl)) (mvT hZ (tw hw 250 rfl)) (by decide) (backOf (W := 0) (rm_nbl l Z a0 hw [] n h0 n0 O0 (by omega)) hZ (tw hw 250 rfl) (tw hw 26 rfl) (by decide) (by decide)) (g := (mkF m 1 #[.val (.int (Int32.ofNat n))] [(.int (Int32.ofNat n))])) rfl (by rw [hml]; rfl) (argsL := [(.int (Int32.ofNat n))]) (rest := []) (lenOf pd_1 rfl) rfl (by show 2 * 0 + _ ≤ _; exact Nat.le_of_eq rfl) (hb hby d52_2_1) (fun _ _ => ⟨rfl, e0, (by decide : 0 + 0 ≤ _), (by decide : 0 + 0 ≤ _)⟩)
  dsimp only [Pt.U, Pt.locs, Pt.cells, Pt.slots] at X43 l43 y43 z43 st43 hQ43
  subst l43 y43 z43
  refine own_go st43 ?_
  obtain ⟨rfl, Nq43, e43⟩ := hQ43
  have N43 := Fr.app N0 Nq43
  obtain ⟨T44, h44, k44, X44, e44, E44, A44, st44⟩ := newP X43 hx hZ (tw hw 16 rfl) e43 (g := (mkF m 4 #[.val (.int (Int32.ofNat n))] [(.int (Int32.ofNat (2 * n)))])) rfl (hb hby d52_2_4) rfl (own_nn0 (by omega)) (cap := 68) (by rw [own_tn (by omega)]; omega) (by decide) (by decide) (by decide)
  obtain ⟨b44, g44⟩ : ∃ z, z = h0.size := ⟨_, rfl⟩
  rw [← g44] at A44 st44
  refine own_go st44 ?_
  have V44 : Arv Z h44 b44 k44 .byte (Int32.ofNat (2 * n)) (List.replicate ((Int32.ofNat (2 * n))).toNatClampNeg (.int (0 : Int32))) (.int (0 : Int32)) := (Arv.new A44 (own_nn0 (by omega))).pad (pad_rep [] (.int (0 : Int32)) _)
  have f45 := ((Keep.refl h0 []).ext E44)
  refine own_fin (v := (some (.ref b44))) X44 (fun h => by rw [hrt] at h; cases h) hlk (fun fs hr => retR X44 hx hrt (by rfl) rfl rfl (hb hby d52_2_6) hr) (QQ := QNew Z (Int32.ofNat (2 * n)) (List.replicate (2 * n) (.int (0 : Int32))) h0 n0) ?_ (by decide) (by decide)
  rw [e44]
  exact ⟨b44, _, rfl, N43, f45, (Nat.le_of_eq g44.symm), by have q := V44; rw [own_tn (by omega)] at q; exact q⟩

abbrev k52_14 := jdk_52_method_14_code
theorem d52_14_0 : Dk k52_14 0 (.iload_n 2) 1 := own_k
theorem d52_14_1 : Dk k52_14 1 (.invokestatic 107) 3 := own_k
theorem pd_2 : parseMethodDescriptor "(I)[B" = some ⟨[.int], some (.array .byte)⟩ := by decide +kernel
theorem d52_14_4 : Dk k52_14 4 (.astore_n 3) 1 := own_k
theorem d52_14_5 : Dk k52_14 5 (.iconst 0) 1 := own_k
theorem d52_14_6 : Dk k52_14 6 (.istore 4) 2 := own_k
theorem d52_14_8 : Dk k52_14 8 (.iload 4) 2 := own_k
theorem d52_14_10 : Dk k52_14 10 (.iload_n 2) 1 := own_k
theorem d52_14_11 : Dk k52_14 11 (.if_icmp .ge 21) 3 := own_k
theorem d52_14_32 : Dk k52_14 32 (.aload_n 3) 1 := own_k
theorem d52_14_33 : Dk k52_14 33 .areturn 1 := own_k
theorem d52_14_14 : Dk k52_14 14 (.aload_n 3) 1 := own_k
theorem d52_14_15 : Dk k52_14 15 (.iload 4) 2 := own_k
theorem d52_14_17 : Dk k52_14 17 (.aload_n 0) 1 := own_k
theorem d52_14_18 : Dk k52_14 18 (.iload_n 1) 1 := own_k
theorem d52_14_19 : Dk k52_14 19 .caload 1 := own_k
theorem d52_14_20 : Dk k52_14 20 (.invokestatic 111) 3 := own_k
theorem pd_3 : parseMethodDescriptor "([BII)V" = some ⟨[(.array .byte), .int, .int], none⟩ := by decide +kernel
theorem d52_14_23 : Dk k52_14 23 (.iinc 1 1) 3 := own_k
theorem d52_14_26 : Dk k52_14 26 (.iinc 4 1) 3 := own_k
theorem d52_14_29 : Dk k52_14 29 (.goto (-21)) 3 := own_k
theorem ef_rm_tob (m : MethodId) (x0 : Addr) (x1 : Int32) (x2 : Int32) : entryFrame m #[(.ref x0), (.int x1), (.int x2)] 5 = mkF m 0 #[.val (.ref x0), .val (.int x1), .val (.int x2), .unset, .unset] [] := by
   first | (simp [entryFrame, mkF, argsToLocals, Value.category]; done) | rfl
set_option maxRecDepth 65536 in
set_option maxHeartbeats 40000000 in
theorem rm_tob (l : Launch) (Z : State) (a0 : Array Value) (hw : ∀ d ∈ tables_1, d.before a0 Z = true) (ws : List Jvm.Cond) (a : Addr) (ka : ClassId) (da : Value) (cs : List Int32) (h0 : Heap) (n0 : Nat) (O0 : Old Z n0 h0) (OA : Sta Z Z.heap "java/lang/StringUTF16" "$assertionsDisabled" "Z" (.int (1 : Int32))) (OH : Sta Z Z.heap "java/lang/StringUTF16" "HI_BYTE_SHIFT" "I" (.int (0 : Int32))) (OL : Sta Z Z.heap "java/lang/StringUTF16" "LO_BYTE_SHIFT" "I" (.int (8 : Int32))) (hok : own_Ok cs) (V_a : Arv Z h0 a ka .char (Int32.ofNat cs.length) (cs.map Value.int) da) (hcap : cs.length ≤ 18) :
    MetFree l (⟨"java/lang/StringUTF16", "toBytes", "([CII)[B"⟩ : MethodName) (head1 (Jvm.Cond.code (⟨"java/lang/StringUTF16", "toBytes", "([CII)[B"⟩ : MethodName) jdk_52_method_14_code 5 (some (.array .byte)) :: ws) ⟨2, 1, 68, 24⟩) (fun aA U => aA = #[(.ref a), (.int (0 : Int32)), (.int (Int32.ofNat cs.length))] ∧ Z.Warmed39 U.vm ∧ U.heap = h0) (fun _ _ _ _ _ => True) (fun _ U oO U' => ∃ rV rL, oO = .returned rV ∧ QNew Z (Int32.ofNat (2 * cs.length)) (StrChars.Road.wideBytes cs) h0 n0 rV U'.heap rL ∧ FrameEnd U oO U' rL 1 68) := by
  refine MetFree.of_bodySF (plainFor_of_name pn_1) hisR ?_
  intro p e s m args below meth cC s₁ Bd hml0 hP hK
  obtain ⟨rfl, hZ, hh⟩ := hP
  have hx := Bd.exec
  have hby := Bd.bytes
  have hml : cC.maxLocals = 5 := hml0
  have hown : s.vm.findClass "java/lang/StringUTF16" = some m.cls := findClass_of_methodNamed Bd.named
  have hnm := (name_of_methodNamed Bd.named Bd.method).1
  have hrt := Bd.returns
  have hlk : meth.locks = false := Bd.notSynchronized
  have X0 : Stand p l e ⟨2, 1, 68, 24⟩ s m #[(.ref a), (.int (0 : Int32)), (.int (Int32.ofNat cs.length))] below meth cC s₁ [] 0 0 := Stand.of_body Bd
  have e0 : s₁.heap = h0 := by rw [← hh, Bd.state]; rfl
  have N0 := Fr.nil n0
  have Z0 : n0 ≤ h0.size := O0.1 ▸ O0.2.1
  show own_Go p e below (s₁.setTop (entryFrame m #[(.ref a), (.int (0 : Int32)), (.int (Int32.ofNat cs.length))] 5)) (fun oO U' => ∃ rV rL, oO = .returned rV ∧ QNew Z (Int32.ofNat (2 * cs.length)) (StrChars.Road.wideBytes cs) h0 n0 rV U'.heap rL ∧ FrameEnd s oO U' rL 1 68)
  refine own_go (fun _ k => castTop (ef_rm_tob m a _ _) k) ?_
  have hlen : cs.length ≤ 4000 := hok.2
  refine og (fun _ k => XS.iloadN X0.here hx rfl (hb hby d52_14_0) rfl k) ?_
  obtain ⟨v46, _, ⟨T46, L46, k46, n46⟩, -, X46, ⟨Lc46, hQ46, l46, y46, z46⟩, st46⟩ := Jvm.LawKit.callS X0 hx (y := (⟨"java/lang/StringUTF16", "newBytesFor", "(I)[B"⟩ : MethodName)) hown (mvT hZ (tw hw 245 rfl)) (mvT hZ (tw hw 246 rfl)) (mvT hZ (tw hw 26 rfl)) (mvT hZ (tw hw 247 rfl)) (by decide) (backOf (W := 0) (rm_nbf l Z a0 hw [] cs.length h0 n0 O0 (by omega)) hZ (tw hw 247 rfl) (tw hw 26 rfl) (by decide) (by decide)) (g := (mkF m 1 #[.val (.ref a), .val (.int (0 : Int32)), .val (.int (Int32.ofNat cs.length)), .unset, .unset] [(.int (Int32.ofNat cs.length))])) rfl (by rw [hml]; rfl) (argsL := [(.int (Int32.ofNat cs.length))]) (rest := []) (lenOf pd_2 rfl) rfl (by show 2 * 0 + _ ≤ _; exact Nat.le_of_eq rfl) (hb hby d52_14_1) (fun _ _ => ⟨rfl, e0, (by decide : 0 + 1 ≤ _), (by decide : 0 + 68 ≤ _)⟩)
  dsimp only [Pt.U, Pt.locs, Pt.cells, Pt.slots] at X46 l46 y46 z46 st46 hQ46
  subst l46 y46 z46
  refine own_go st46 ?_
  obtain ⟨t46, kt46, rfl, Nq46, K46, tg46, Vt46⟩ := hQ46
  have N46 := Fr.app N0 Nq46
  refine og (fun _ k => XS.astoreN X46.here hx rfl (hb hby d52_14_4) rfl rfl (l' := #[.val (.ref a), .val (.int (0 : Int32)), .val (.int (Int32.ofNat cs.length)), .val (.ref t46), .unset]) rfl k) ?_
  refine og (fun _ k => XS.iconst X46.here hx rfl (hb hby d52_14_5) k) ?_
  try dsimp only [mkF]
  refine og (fun _ k => XS.istore X46.here hx rfl (hb hby d52_14_6) rfl (l' := #[.val (.ref a), .val (.int (0 : Int32)), .val (.int (Int32.ofNat cs.length)), .val (.ref t46), .val (.int (0 : Int32))]) rfl k) ?_
  have ne47 : a ≠ t46 := Nat.ne_of_lt (Nat.lt_of_lt_of_le V_a.lt tg46)
  have loop : ∀ (kT iloop : Nat) (T : State) (locs : List Loc) (h : Heap), iloop + kT = cs.length → Stand p l e ⟨2, 1, 68, 24⟩ s m #[(.ref a), (.int (0 : Int32)), (.int (Int32.ofNat cs.length))] below meth cC T locs 1 68 → T.heap = h → Fr n0 locs → Old Z n0 h → Keep h0 h [] → Arv Z h a ka .char (Int32.ofNat cs.length) (cs.map Value.int) da → Arv Z h t46 kt46 .byte (Int32.ofNat (2 * cs.length)) (own_wpart cs iloop) (.int (0 : Int32)) → own_Go p e below (T.setTop (mkF m 8 #[.val (.ref a), .val (.int (Int32.ofNat iloop)), .val (.int (Int32.ofNat cs.length)), .val (.ref t46), .val (.int (Int32.ofNat iloop))] [])) (fun oO U' => ∃ rV rL, oO = .returned rV ∧ QNew Z (Int32.ofNat (2 * cs.length)) (StrChars.Road.wideBytes cs) h0 n0 rV U'.heap rL ∧ FrameEnd s oO U' rL 1 68) := by
    intro kT
    induction kT with
    | zero =>
      intro iloop T48 L48 h48 hik X48 e48 N48 O48 K48 J0_48 J1_48
      have Z0_48 : n0 ≤ h48.size := O48.1 ▸ O48.2.1
      have hin : iloop = cs.length := by omega
      have hlt : ¬ ((Int32.ofNat iloop) < (Int32.ofNat cs.length)) := by rw [own_lti (by omega) (by omega)]; omega
      refine og (fun _ k => XS.iload X48.here hx rfl (hb hby d52_14_8) rfl k) ?_
      refine og (fun _ k => XS.iloadN X48.here hx rfl (hb hby d52_14_10) rfl k) ?_
      refine og (fun _ k => XS.icmpYes X48.here hx rfl (pc0 := 11) (pc' := 32) rfl (hb hby d52_14_11) rfl (flt hlt).2.1 (by decide) (by decide) k) ?_
      try dsimp only [mkF]
      refine og (fun _ k => XS.aloadN X48.here hx rfl (hb hby d52_14_32) rfl rfl k) ?_
      refine own_fin (v := (some (.ref t46))) X48 (fun h => by rw [hrt] at h; cases h) hlk (fun fs hr => retR X48 hx hrt (by rfl) rfl rfl (hb hby d52_14_33) hr) (QQ := QNew Z (Int32.ofNat (2 * cs.length)) (StrChars.Road.wideBytes cs) h0 n0) ?_ (by decide) (by decide)
      rw [e48]
      exact ⟨t46, _, rfl, N48, K48, tg46, by have q := J1_48; rw [hin, own_wpartn] at q; exact q⟩
    | succ kT ih =>
      intro iloop T49 L49 h49 hik X49 e49 N49 O49 K49 J0_49 J1_49
      have Z0_49 : n0 ≤ h49.size := O49.1 ▸ O49.2.1
      have hi : iloop < cs.length := by omega
      have hlt : (Int32.ofNat iloop) < (Int32.ofNat cs.length) := (own_lti (by omega) (by omega)).mpr hi
      refine og (fun _ k => XS.iload X49.here hx rfl (hb hby d52_14_8) rfl k) ?_
      refine og (fun _ k => XS.iloadN X49.here hx rfl (hb hby d52_14_10) rfl k) ?_
      refine og (fun _ k => XS.icmpNo X49.here hx rfl (hb hby d52_14_11) rfl (tlt hlt).2.1 k) ?_
      try dsimp only [mkF]
      refine og (fun _ k => XS.aloadN X49.here hx rfl (hb hby d52_14_14) rfl rfl k) ?_
      refine og (fun _ k => XS.iload X49.here hx rfl (hb hby d52_14_15) rfl k) ?_
      refine og (fun _ k => XS.aloadN X49.here hx rfl (hb hby d52_14_17) rfl rfl k) ?_
      refine og (fun _ k => XS.iloadN X49.here hx rfl (hb hby d52_14_18) rfl k) ?_
      obtain ⟨c50, A50, q50, S50, M50, Hs50, Gs50⟩ := id J0_49
      have hi50 := inb_of (j := (Int32.ofNat iloop)) S50 (own_inb hi (by omega))
      refine og (fun _ k => X49.caload hx (j := (Int32.ofNat iloop)) (v := (.int (cs.getD iloop 0))) (by rw [e49]; exact A50.1) (State.isArrayOf_alike hZ.alike A50.2.1) A50.2.2 hi50 (Has.at Hs50 hi50 (own_gd rfl hi (by omega))) (g := (mkF m 19 #[.val (.ref a), .val (.int (Int32.ofNat iloop)), .val (.int (Int32.ofNat cs.length)), .val (.ref t46), .val (.int (Int32.ofNat iloop))] [(.int (Int32.ofNat iloop)), (.ref a), (.int (Int32.ofNat iloop)), (.ref t46)])) rfl rfl (hb hby d52_14_19) _ k) ?_
      try dsimp only [mkF]
      obtain ⟨v51, _, ⟨T51, L51, k51, n51⟩, -, X51, ⟨Lc51, hQ51, l51, y51, z51⟩, st51⟩ := Jvm.LawKit.callS X49 hx (y := (⟨"java/lang/StringUTF16", "putChar", "([BII)V"⟩ : MethodName)) hown (mvT hZ (tw hw 252 rfl)) (mvT hZ (tw hw 253 rfl)) (mvT hZ (tw hw 26 rfl)) (mvT hZ (tw hw 254 rfl)) (by decide) (backOf (W := 0) (rm_put l Z a0 hw [] t46 kt46 (2 * cs.length) (own_wpart cs iloop) iloop (cs.getD iloop 0) h49 n0 O49 OA OH OL J1_49 (Nat.le_trans Z0 tg46) (own_wpartl (by omega)) (by omega) (by omega)) hZ (tw hw 254 rfl) (tw hw 26 rfl) (by decide) (by decide)) (g := (mkF m 20 #[.val (.ref a), .val (.int (Int32.ofNat iloop)), .val (.int (Int32.ofNat cs.length)), .val (.ref t46), .val (.int (Int32.ofNat iloop))] [(.int (cs.getD iloop 0)), (.int (Int32.ofNat iloop)), (.ref t46)])) rfl (by rw [hml]; rfl) (argsL := [(.ref t46), (.int (Int32.ofNat iloop)), (.int (cs.getD iloop 0))]) (rest := []) (lenOf pd_3 rfl) rfl (by show 2 * 0 + _ ≤ _; exact Nat.le_of_eq rfl) (hb hby d52_14_20) (fun _ _ => ⟨rfl, e49, (by decide : 1 + 0 ≤ _), (by decide : 68 + 0 ≤ _)⟩)
      dsimp only [Pt.U, Pt.locs, Pt.cells, Pt.slots] at X51 l51 y51 z51 st51 hQ51
      subst l51 y51 z51
      refine own_go st51 ?_
      obtain ⟨rfl, Nq51, K51, Vb51⟩ := hQ51
      have N51 := Fr.app N49 Nq51
      refine og (fun _ k => XS.iinc X51.here hx rfl (hb hby d52_14_23) rfl (l' := #[.val (.ref a), .val (.int ((Int32.ofNat iloop) + (1 : Int32))), .val (.int (Int32.ofNat cs.length)), .val (.ref t46), .val (.int (Int32.ofNat iloop))]) rfl k) ?_
      refine og (fun _ k => XS.iinc X51.here hx rfl (hb hby d52_14_26) rfl (l' := #[.val (.ref a), .val (.int ((Int32.ofNat iloop) + (1 : Int32))), .val (.int (Int32.ofNat cs.length)), .val (.ref t46), .val (.int ((Int32.ofNat iloop) + (1 : Int32)))]) rfl k) ?_
      refine og (fun _ k => XS.goto X51.here hx rfl (pc0 := 29) (pc' := 8) rfl (hb hby d52_14_29) (by decide) (by decide) k) ?_
      show own_Go p e below (T51.setTop (mkF m 8 #[.val (.ref a), .val (.int ((Int32.ofNat iloop) + (1 : Int32))), .val (.int (Int32.ofNat cs.length)), .val (.ref t46), .val (.int ((Int32.ofNat iloop) + (1 : Int32)))] [])) _
      rw [own_inc]
      have f52 := (J0_49.keep K51 (ninS ne47 nin0))
      have f53 := (O49.keep K51 (allS (Nat.le_trans Z0 tg46) all0))
      have f54 := (K49.trans K51 (allS (Or.inr tg46) all0))
      exact ih (iloop + 1) T51 _ T51.heap (by omega) X51 (rfl : T51.heap = T51.heap) N51 f53 f54 f52 (own_set2 hi ▸ Vb51) 
  have f55 := ((Keep.refl h0 []).trans K46 all0)
  exact loop (cs.length) 0 T46 _ T46.heap (by omega) X46 (rfl : T46.heap = T46.heap) N46 (O0.keep K46 all0) f55 (V_a.keep K46 nin0) (own_wpart0 cs ▸ Vt46) 

theorem own_ne_n {r n : Nat} (h : r < n) (hn : n ≤ 4000) : ¬ Int32.ofNat r = Int32.ofNat n := fun q => by
  have e := congrArg Int32.toInt q
  rw [own_ti (by omega), own_ti (by omega)] at e
  omega
theorem own_ne_0 {n : Nat} (h : 0 < n) (hn : n ≤ 4000) : ¬ Int32.ofNat n = (0 : Int32) := fun q => own_ne_n h hn q.symm
theorem own_getm {cs : List Int32} {r : Nat} (h : r < cs.length) : cs.getD r 0 ∈ cs := by
  rw [show cs.getD r 0 = cs[r] by simp [List.getD_eq_getElem?_getD, h]]; exact List.getElem_mem _
theorem own_ncd {cs : List Int32} {cd N2 : Int32} {vs : List Value} (h : StrChars.Road.CodA cs cd N2 vs) : nar .byte cd = cd := by
  rcases own_cd01 h with rfl | rfl <;> decide
abbrev k52_16 := jdk_52_method_16_code
theorem d52_16_0 : Dk k52_16 0 (.iload_n 2) 1 := own_k
theorem d52_16_1 : Dk k52_16 1 (.newarray .byte) 2 := own_k
theorem d52_16_3 : Dk k52_16 3 (.astore_n 3) 1 := own_k
theorem d52_16_4 : Dk k52_16 4 (.aload_n 0) 1 := own_k
theorem d52_16_5 : Dk k52_16 5 (.iload_n 1) 1 := own_k
theorem d52_16_6 : Dk k52_16 6 (.aload_n 3) 1 := own_k
theorem d52_16_7 : Dk k52_16 7 (.iconst 0) 1 := own_k
theorem d52_16_8 : Dk k52_16 8 (.iload_n 2) 1 := own_k
theorem d52_16_9 : Dk k52_16 9 (.invokestatic 115) 3 := own_k
theorem pd_4 : parseMethodDescriptor "([CI[BII)I" = some ⟨[(.array .char), .int, (.array .byte), .int, .int], some .int⟩ := by decide +kernel
theorem d52_16_12 : Dk k52_16 12 (.istore 4) 2 := own_k
theorem d52_16_14 : Dk k52_16 14 (.iload 4) 2 := own_k
theorem d52_16_16 : Dk k52_16 16 (.iload_n 2) 1 := own_k
theorem d52_16_17 : Dk k52_16 17 (.if_icmp .eq 40) 3 := own_k
theorem d52_16_57 : Dk k52_16 57 (.aload_n 3) 1 := own_k
theorem d52_16_58 : Dk k52_16 58 .areturn 1 := own_k
theorem d52_16_20 : Dk k52_16 20 (.aload_n 0) 1 := own_k
theorem d52_16_21 : Dk k52_16 21 (.iload_n 1) 1 := own_k
theorem d52_16_22 : Dk k52_16 22 (.iload_n 2) 1 := own_k
theorem d52_16_23 : Dk k52_16 23 (.invokestatic 119) 3 := own_k
theorem pd_5 : parseMethodDescriptor "([CII)[B" = some ⟨[(.array .char), .int, .int], some (.array .byte)⟩ := by decide +kernel
theorem d52_16_26 : Dk k52_16 26 (.astore 5) 2 := own_k
theorem d52_16_28 : Dk k52_16 28 (.aload 5) 2 := own_k
theorem d52_16_30 : Dk k52_16 30 (.iload 4) 2 := own_k
theorem d52_16_32 : Dk k52_16 32 (.invokestatic 71) 3 := own_k
theorem pd_6 : parseMethodDescriptor "([BI)C" = some ⟨[(.array .byte), .int], some .char⟩ := by decide +kernel
theorem d52_16_35 : Dk k52_16 35 (.sipush 255) 3 := own_k
theorem d52_16_38 : Dk k52_16 38 (.if_icmp .gt 16) 3 := own_k
theorem d52_16_54 : Dk k52_16 54 (.aload 5) 2 := own_k
theorem d52_16_56 : Dk k52_16 56 .areturn 1 := own_k
theorem ef_rm_cmp3 (m : MethodId) (x0 : Addr) (x1 : Int32) (x2 : Int32) : entryFrame m #[(.ref x0), (.int x1), (.int x2)] 6 = mkF m 0 #[.val (.ref x0), .val (.int x1), .val (.int x2), .unset, .unset, .unset] [] := by
   first | (simp [entryFrame, mkF, argsToLocals, Value.category]; done) | rfl
set_option maxRecDepth 65536 in
set_option maxHeartbeats 40000000 in
theorem rm_cmp3 (l : Launch) (Z : State) (a0 : Array Value) (hw : ∀ d ∈ tables_1, d.before a0 Z = true) (ws : List Jvm.Cond) (a : Addr) (ka : ClassId) (da : Value) (cs : List Int32) (h0 : Heap) (n0 : Nat) (O0 : Old Z n0 h0) (OA : Sta Z Z.heap "java/lang/StringUTF16" "$assertionsDisabled" "Z" (.int (1 : Int32))) (OH : Sta Z Z.heap "java/lang/StringUTF16" "HI_BYTE_SHIFT" "I" (.int (0 : Int32))) (OL : Sta Z Z.heap "java/lang/StringUTF16" "LO_BYTE_SHIFT" "I" (.int (8 : Int32))) (hok : own_Ok cs) (V_a : Arv Z h0 a ka .char (Int32.ofNat cs.length) (cs.map Value.int) da) (hcap : cs.length ≤ 18) :
    MetFree l (⟨"java/lang/StringUTF16", "compress", "([CII)[B"⟩ : MethodName) (head1 (Jvm.Cond.code (⟨"java/lang/StringUTF16", "compress", "([CII)[B"⟩ : MethodName) jdk_52_method_16_code 6 (some (.array .byte)) :: ws) ⟨3, 2, 86, 40⟩) (fun aA U => aA = #[(.ref a), (.int (0 : Int32)), (.int (Int32.ofNat cs.length))] ∧ Z.Warmed39 U.vm ∧ U.heap = h0) (fun _ _ _ _ _ => True) (fun _ U oO U' => ∃ rV rL, oO = .returned rV ∧ QCmp Z cs h0 n0 rV U'.heap rL ∧ FrameEnd U oO U' rL 2 86) := by
  refine MetFree.of_bodySF (plainFor_of_name pn_1) hisR ?_
  intro p e s m args below meth cC s₁ Bd hml0 hP hK
  obtain ⟨rfl, hZ, hh⟩ := hP
  have hx := Bd.exec
  have hby := Bd.bytes
  have hml : cC.maxLocals = 6 := hml0
  have hown : s.vm.findClass "java/lang/StringUTF16" = some m.cls := findClass_of_methodNamed Bd.named
  have hnm := (name_of_methodNamed Bd.named Bd.method).1
  have hrt := Bd.returns
  have hlk : meth.locks = false := Bd.notSynchronized
  have X0 : Stand p l e ⟨3, 2, 86, 40⟩ s m #[(.ref a), (.int (0 : Int32)), (.int (Int32.ofNat cs.length))] below meth cC s₁ [] 0 0 := Stand.of_body Bd
  have e0 : s₁.heap = h0 := by rw [← hh, Bd.state]; rfl
  have N0 := Fr.nil n0
  have Z0 : n0 ≤ h0.size := O0.1 ▸ O0.2.1
  show own_Go p e below (s₁.setTop (entryFrame m #[(.ref a), (.int (0 : Int32)), (.int (Int32.ofNat cs.length))] 6)) (fun oO U' => ∃ rV rL, oO = .returned rV ∧ QCmp Z cs h0 n0 rV U'.heap rL ∧ FrameEnd s oO U' rL 2 86)
  refine own_go (fun _ k => castTop (ef_rm_cmp3 m a _ _) k) ?_
  have hlen : cs.length ≤ 4000 := hok.2
  refine og (fun _ k => XS.iloadN X0.here hx rfl (hb hby d52_16_0) rfl k) ?_
  obtain ⟨T56, h56, k56, X56, e56, E56, A56, st56⟩ := newP X0 hx hZ (tw hw 16 rfl) e0 (g := (mkF m 1 #[.val (.ref a), .val (.int (0 : Int32)), .val (.int (Int32.ofNat cs.length)), .unset, .unset, .unset] [(.int (Int32.ofNat cs.length))])) rfl (hb hby d52_16_1) rfl (own_nn0 (by omega)) (cap := 18) (by rw [own_tn (by omega)]; exact hcap) (by decide) (by decide) (by decide)
  obtain ⟨b56, g56⟩ : ∃ z, z = h0.size := ⟨_, rfl⟩
  rw [← g56] at A56 st56
  refine own_go st56 ?_
  have V56 : Arv Z h56 b56 k56 .byte (Int32.ofNat cs.length) (List.replicate ((Int32.ofNat cs.length)).toNatClampNeg (.int (0 : Int32))) (.int (0 : Int32)) := (Arv.new A56 (own_nn0 (by omega))).pad (pad_rep [] (.int (0 : Int32)) _)
  have Vb0 : Arv Z h56 b56 k56 .byte (Int32.ofNat cs.length) (List.replicate cs.length (.int (0 : Int32))) (.int (0 : Int32)) := by have q := V56; rw [own_tn (by omega)] at q; exact q
  refine og (fun _ k => XS.astoreN X56.here hx rfl (hb hby d52_16_3) rfl rfl (l' := #[.val (.ref a), .val (.int (0 : Int32)), .val (.int (Int32.ofNat cs.length)), .val (.ref b56), .unset, .unset]) rfl k) ?_
  refine og (fun _ k => XS.aloadN X56.here hx rfl (hb hby d52_16_4) rfl rfl k) ?_
  try dsimp only [mkF]
  refine og (fun _ k => XS.iloadN X56.here hx rfl (hb hby d52_16_5) rfl k) ?_
  refine og (fun _ k => XS.aloadN X56.here hx rfl (hb hby d52_16_6) rfl rfl k) ?_
  refine og (fun _ k => XS.iconst X56.here hx rfl (hb hby d52_16_7) k) ?_
  refine og (fun _ k => XS.iloadN X56.here hx rfl (hb hby d52_16_8) rfl k) ?_
  have ne57 : a ≠ b56 := Nat.ne_of_lt (Nat.lt_of_lt_of_le V_a.lt (Nat.le_of_eq g56.symm))
  obtain ⟨v58, _, ⟨T58, L58, k58, n58⟩, -, X58, ⟨Lc58, hQ58, l58, y58, z58⟩, st58⟩ := Jvm.LawKit.callS X56 hx (y := (⟨"java/lang/StringUTF16", "compress", "([CI[BII)I"⟩ : MethodName)) hown (mvT hZ (tw hw 28 rfl)) (mvT hZ (tw hw 29 rfl)) (mvT hZ (tw hw 26 rfl)) (mvT hZ (tw hw 30 rfl)) (by decide) (backOf (W := 0) (rm_cmp5 l Z a0 hw [] a ka da cs b56 k56 h56 n0 (O0.ext E56) hok (V_a.ext E56) Vb0 (Nat.le_trans Z0 (Nat.le_of_eq g56.symm)) ne57) hZ (tw hw 30 rfl) (tw hw 26 rfl) (by decide) (by decide)) (g := (mkF m 9 #[.val (.ref a), .val (.int (0 : Int32)), .val (.int (Int32.ofNat cs.length)), .val (.ref b56), .unset, .unset] [(.int (Int32.ofNat cs.length)), (.int (0 : Int32)), (.ref b56), (.int (0 : Int32)), (.ref a)])) rfl (by rw [hml]; rfl) (argsL := [(.ref a), (.int (0 : Int32)), (.ref b56), (.int (0 : Int32)), (.int (Int32.ofNat cs.length))]) (rest := []) (lenOf pd_4 rfl) rfl (by show 2 * 0 + _ ≤ _; exact Nat.le_of_eq rfl) (hb hby d52_16_9) (fun _ _ => ⟨rfl, e56, (by decide : 1 + 0 ≤ _), (by decide : 18 + 0 ≤ _)⟩)
  dsimp only [Pt.U, Pt.locs, Pt.cells, Pt.slots] at X58 l58 y58 z58 st58 hQ58
  subst l58 y58 z58
  refine own_go st58 ?_
  obtain ⟨r58, rfl, Nq58, K58, hr58⟩ := hQ58
  have N58 := Fr.app N0 Nq58
  try dsimp only [mkF]
  refine og (fun _ k => XS.istore X58.here hx rfl (hb hby d52_16_12) rfl (l' := #[.val (.ref a), .val (.int (0 : Int32)), .val (.int (Int32.ofNat cs.length)), .val (.ref b56), .val (.int (Int32.ofNat r58)), .unset]) rfl k) ?_
  rcases hr58 with ⟨hr1, hall, Vl⟩ | ⟨hr1, hbig⟩
  · subst hr1
    refine og (fun _ k => XS.iload X58.here hx rfl (hb hby d52_16_14) rfl k) ?_
    refine og (fun _ k => XS.iloadN X58.here hx rfl (hb hby d52_16_16) rfl k) ?_
    refine og (fun _ k => XS.icmpYes X58.here hx rfl (pc0 := 17) (pc' := 57) rfl (hb hby d52_16_17) rfl (teq (rfl : (Int32.ofNat cs.length) = (Int32.ofNat cs.length))).1 (by decide) (by decide) k) ?_
    try dsimp only [mkF]
    refine og (fun _ k => XS.aloadN X58.here hx rfl (hb hby d52_16_57) rfl rfl k) ?_
    have f59 := (((Keep.refl h0 []).ext E56).trans K58 (allS (Or.inr (Nat.le_of_eq g56.symm)) all0))
    refine own_fin (v := (some (.ref b56))) X58 (fun h => by rw [hrt] at h; cases h) hlk (fun fs hr => retR X58 hx hrt (by rfl) rfl rfl (hb hby d52_16_58) hr) (QQ := QCmp Z cs h0 n0) ?_ (by decide) (by decide)
    exact ⟨b56, _, 0, _, _, rfl, N58, f59, (Nat.le_of_eq g56.symm), Vl, Or.inl ⟨rfl, rfl, rfl, hall⟩⟩
  · skip
    refine og (fun _ k => XS.iload X58.here hx rfl (hb hby d52_16_14) rfl k) ?_
    refine og (fun _ k => XS.iloadN X58.here hx rfl (hb hby d52_16_16) rfl k) ?_
    refine og (fun _ k => XS.icmpNo X58.here hx rfl (hb hby d52_16_17) rfl (feq (own_ne_n hr1 hlen)).1 k) ?_
    try dsimp only [mkF]
    refine og (fun _ k => XS.aloadN X58.here hx rfl (hb hby d52_16_20) rfl rfl k) ?_
    refine og (fun _ k => XS.iloadN X58.here hx rfl (hb hby d52_16_21) rfl k) ?_
    refine og (fun _ k => XS.iloadN X58.here hx rfl (hb hby d52_16_22) rfl k) ?_
    have f60 := ((V_a.ext E56).keep K58 (ninS ne57 nin0))
    have f61 := ((O0.ext E56).keep K58 (allS (Nat.le_trans Z0 (Nat.le_of_eq g56.symm)) all0))
    obtain ⟨v62, _, ⟨T62, L62, k62, n62⟩, -, X62, ⟨Lc62, hQ62, l62, y62, z62⟩, st62⟩ := Jvm.LawKit.callS X58 hx (y := (⟨"java/lang/StringUTF16", "toBytes", "([CII)[B"⟩ : MethodName)) hown (mvT hZ (tw hw 242 rfl)) (mvT hZ (tw hw 243 rfl)) (mvT hZ (tw hw 26 rfl)) (mvT hZ (tw hw 244 rfl)) (by decide) (backOf (W := 0) (rm_tob l Z a0 hw [] a ka da cs T58.heap n0 f61 OA OH OL hok f60 hcap) hZ (tw hw 244 rfl) (tw hw 26 rfl) (by decide) (by decide)) (g := (mkF m 23 #[.val (.ref a), .val (.int (0 : Int32)), .val (.int (Int32.ofNat cs.length)), .val (.ref b56), .val (.int (Int32.ofNat r58)), .unset] [(.int (Int32.ofNat cs.length)), (.int (0 : Int32)), (.ref a)])) rfl (by rw [hml]; rfl) (argsL := [(.ref a), (.int (0 : Int32)), (.int (Int32.ofNat cs.length))]) (rest := []) (lenOf pd_5 rfl) rfl (by show 2 * 0 + _ ≤ _; exact Nat.le_of_eq rfl) (hb hby d52_16_23) (fun _ _ => ⟨rfl, (rfl : T58.heap = T58.heap), (by decide : 1 + 1 ≤ _), (by decide : 18 + 68 ≤ _)⟩)
    dsimp only [Pt.U, Pt.locs, Pt.cells, Pt.slots] at X62 l62 y62 z62 st62 hQ62
    subst l62 y62 z62
    refine own_go st62 ?_
    obtain ⟨t62, kt62, rfl, Nq62, K62, tg62, Vt62⟩ := hQ62
    have N62 := Fr.app N58 Nq62
    refine og (fun _ k => XS.astore X62.here hx rfl (hb hby d52_16_26) rfl rfl (l' := #[.val (.ref a), .val (.int (0 : Int32)), .val (.int (Int32.ofNat cs.length)), .val (.ref b56), .val (.int (Int32.ofNat r58)), .val (.ref t62)]) rfl k) ?_
    try dsimp only [mkF]
    refine og (fun _ k => XS.aload X62.here hx rfl (hb hby d52_16_28) rfl rfl k) ?_
    refine og (fun _ k => XS.iload X62.here hx rfl (hb hby d52_16_30) rfl k) ?_
    obtain ⟨v63, _, ⟨T63, L63, k63, n63⟩, -, X63, ⟨Lc63, hQ63, l63, y63, z63⟩, st63⟩ := Jvm.LawKit.callS X62 hx (y := (⟨"java/lang/StringUTF16", "getChar", "([BI)C"⟩ : MethodName)) hown (mvT hZ (tw hw 258 rfl)) (mvT hZ (tw hw 259 rfl)) (mvT hZ (tw hw 26 rfl)) (mvT hZ (tw hw 260 rfl)) (by decide) (backOf (W := 0) (rm_get l Z a0 hw [] t62 kt62 (2 * cs.length) (StrChars.Road.wideBytes cs) r58 (cs.getD r58 0) T62.heap n0 (f61.keep K62 all0) OA OH OL Vt62 (StrChars.Road.wide_lo _ cs _ hr1) (StrChars.Road.wide_hi _ cs _ hr1) (by omega) (by omega) (hok.at hr1)) hZ (tw hw 260 rfl) (tw hw 26 rfl) (by decide) (by decide)) (g := (mkF m 32 #[.val (.ref a), .val (.int (0 : Int32)), .val (.int (Int32.ofNat cs.length)), .val (.ref b56), .val (.int (Int32.ofNat r58)), .val (.ref t62)] [(.int (Int32.ofNat r58)), (.ref t62)])) rfl (by rw [hml]; rfl) (argsL := [(.ref t62), (.int (Int32.ofNat r58))]) (rest := []) (lenOf pd_6 rfl) rfl (by show 2 * 0 + _ ≤ _; exact Nat.le_of_eq rfl) (hb hby d52_16_32) (fun _ _ => ⟨rfl, (rfl : T62.heap = T62.heap), (by decide : 2 + 0 ≤ _), (by decide : 86 + 0 ≤ _)⟩)
    dsimp only [Pt.U, Pt.locs, Pt.cells, Pt.slots] at X63 l63 y63 z63 st63 hQ63
    subst l63 y63 z63
    refine own_go st63 ?_
    obtain ⟨rfl, Nq63, e63⟩ := hQ63
    have N63 := Fr.app N62 Nq63
    refine og (fun _ k => XS.sipush X63.here hx rfl (hb hby d52_16_35) k) ?_
    refine og (fun _ k => XS.icmpYes X63.here hx rfl (pc0 := 38) (pc' := 54) rfl (hb hby d52_16_38) rfl (tlt hbig).2.2.1 (by decide) (by decide) k) ?_
    try dsimp only [mkF]
    refine og (fun _ k => XS.aload X63.here hx rfl (hb hby d52_16_54) rfl rfl k) ?_
    have f64 := ((((Keep.refl h0 []).ext E56).trans K58 (allS (Or.inr (Nat.le_of_eq g56.symm)) all0)).trans K62 all0)
    refine own_fin (v := (some (.ref t62))) X63 (fun h => by rw [hrt] at h; cases h) hlk (fun fs hr => retR X63 hx hrt (by rfl) rfl rfl (hb hby d52_16_56) hr) (QQ := QCmp Z cs h0 n0) ?_ (by decide) (by decide)
    rw [e63]
    exact ⟨t62, _, 1, _, _, rfl, N63, f64, (Nat.le_trans (Nat.le_trans E56.1 K58.1) tg62), Vt62, Or.inr ⟨rfl, rfl, rfl, _, own_getm hr1, hbig⟩⟩

abbrev k52_15 := jdk_52_method_15_code
theorem d52_15_0 : Dk k52_15 0 (.iload_n 1) 1 := own_k
theorem d52_15_1 : Dk k52_15 1 (.aload_n 0) 1 := own_k
theorem d52_15_2 : Dk k52_15 2 .arraylength 1 := own_k
theorem d52_15_3 : Dk k52_15 3 .isub 1 := own_k
theorem d52_15_4 : Dk k52_15 4 (.bipush 31) 2 := own_k
theorem d52_15_6 : Dk k52_15 6 .iushr 1 := own_k
theorem d52_15_7 : Dk k52_15 7 .i2b 1 := own_k
theorem d52_15_8 : Dk k52_15 8 .ireturn 1 := own_k
theorem ef_rm_cfa (m : MethodId) (x0 : Addr) (x1 : Int32) : entryFrame m #[(.ref x0), (.int x1)] 2 = mkF m 0 #[.val (.ref x0), .val (.int x1)] [] := by
   first | (simp [entryFrame, mkF, argsToLocals, Value.category]; done) | rfl
set_option maxRecDepth 65536 in
set_option maxHeartbeats 40000000 in
theorem rm_cfa (l : Launch) (Z : State) (a0 : Array Value) (hw : ∀ d ∈ tables_1, d.before a0 Z = true) (ws : List Jvm.Cond) (t : Addr) (k : ClassId) (N2 : Int32) (vs : List Value) (cs : List Int32) (cd : Int32) (h0 : Heap) (n0 : Nat) (O0 : Old Z n0 h0) (V_t : Arv Z h0 t k .byte N2 vs (.int (0 : Int32))) (hC : StrChars.Road.CodA cs cd N2 vs) (h1 : 0 < cs.length) (h2 : cs.length ≤ 4000) :
    MetFree l (⟨"java/lang/StringUTF16", "coderFromArrayLen", "([BI)B"⟩ : MethodName) (head1 (Jvm.Cond.code (⟨"java/lang/StringUTF16", "coderFromArrayLen", "([BI)B"⟩ : MethodName) jdk_52_method_15_code 2 (some .byte) :: ws) ⟨0, 0, 0, 0⟩) (fun aA U => aA = #[(.ref t), (.int (Int32.ofNat cs.length))] ∧ Z.Warmed39 U.vm ∧ U.heap = h0) (fun _ _ _ _ _ => True) (fun _ U oO U' => ∃ rV rL, oO = .returned rV ∧ QPure (some (.int cd)) h0 n0 rV U'.heap rL ∧ FrameEnd U oO U' rL 0 0) := by
  refine MetFree.of_bodySF (plainFor_of_name pn_1) hisR ?_
  intro p e s m args below meth cC s₁ Bd hml0 hP hK
  obtain ⟨rfl, hZ, hh⟩ := hP
  have hx := Bd.exec
  have hby := Bd.bytes
  have hml : cC.maxLocals = 2 := hml0
  have hown : s.vm.findClass "java/lang/StringUTF16" = some m.cls := findClass_of_methodNamed Bd.named
  have hnm := (name_of_methodNamed Bd.named Bd.method).1
  have hrt := Bd.returns
  have hlk : meth.locks = false := Bd.notSynchronized
  have X0 : Stand p l e ⟨0, 0, 0, 0⟩ s m #[(.ref t), (.int (Int32.ofNat cs.length))] below meth cC s₁ [] 0 0 := Stand.of_body Bd
  have e0 : s₁.heap = h0 := by rw [← hh, Bd.state]; rfl
  have N0 := Fr.nil n0
  have Z0 : n0 ≤ h0.size := O0.1 ▸ O0.2.1
  show own_Go p e below (s₁.setTop (entryFrame m #[(.ref t), (.int (Int32.ofNat cs.length))] 2)) (fun oO U' => ∃ rV rL, oO = .returned rV ∧ QPure (some (.int cd)) h0 n0 rV U'.heap rL ∧ FrameEnd s oO U' rL 0 0)
  refine own_go (fun _ k => castTop (ef_rm_cfa m t _) k) ?_
  refine og (fun _ k => XS.iloadN X0.here hx rfl (hb hby d52_15_0) rfl k) ?_
  refine og (fun _ k => XS.aloadN X0.here hx rfl (hb hby d52_15_1) rfl rfl k) ?_
  obtain ⟨c65, A65, q65, S65, M65, Hs65, Gs65⟩ := id V_t
  refine og (fun _ k => X0.arraylength hx (by rw [e0]; exact A65.1) (State.isArrayOf_alike hZ.alike A65.2.1) (g := (mkF m 2 #[.val (.ref t), .val (.int (Int32.ofNat cs.length))] [(.ref t), (.int (Int32.ofNat cs.length))])) rfl rfl (hb hby d52_15_2) _ k) ?_
  rw [len_of S65 M65]
  refine og (fun _ k => XS.isub X0.here hx rfl (hb hby d52_15_3) rfl k) ?_
  try dsimp only [mkF]
  refine og (fun _ k => XS.bipush X0.here hx rfl (hb hby d52_15_4) k) ?_
  refine og (fun _ k => XS.iushr X0.here hx rfl (hb hby d52_15_6) rfl k) ?_
  refine og (fun _ k => XS.i2b X0.here hx rfl (hb hby d52_15_7) rfl k) ?_
  refine own_fin (v := (some (.int (nar .byte (((((Int32.ofNat cs.length) - N2).toUInt32 >>> ((31 : Int32) &&& 31).toUInt32).toInt32).toInt8.toInt32))))) X0 (fun h => by rw [hrt] at h; cases h) hlk (fun fs hr => retN X0 hx (t := .byte) hrt (by simp) (hb hby d52_15_8) hr) (QQ := QPure (some (.int cd)) h0 n0) ?_ (by decide) (by decide)
  rw [e0]
  exact ⟨congrArg (fun z => some (Value.int z)) ((own_nb _).trans (own_cod hC h1 h2)), N0, rfl⟩

theorem d42_149_27 : Dk k42_149 27 (.getstatic 38) 3 := own_k
theorem d42_149_30 : Dk k42_149 30 (.ifCond .eq 28) 3 := own_k
theorem d42_149_33 : Dk k42_149 33 (.aload_n 1) 1 := own_k
theorem d42_149_34 : Dk k42_149 34 (.iload_n 2) 1 := own_k
theorem d42_149_35 : Dk k42_149 35 (.iload_n 3) 1 := own_k
theorem d42_149_36 : Dk k42_149 36 (.invokestatic 177) 3 := own_k
theorem d42_149_39 : Dk k42_149 39 (.astore 5) 2 := own_k
theorem d42_149_41 : Dk k42_149 41 (.aload_n 0) 1 := own_k
theorem d42_149_42 : Dk k42_149 42 (.aload 5) 2 := own_k
theorem d42_149_44 : Dk k42_149 44 (.iload_n 3) 1 := own_k
theorem d42_149_45 : Dk k42_149 45 (.invokestatic 47) 3 := own_k
theorem pd_7 : parseMethodDescriptor "([BI)B" = some ⟨[(.array .byte), .int], some .byte⟩ := by decide +kernel
theorem d42_149_48 : Dk k42_149 48 (.putfield 15) 3 := own_k
theorem d42_149_51 : Dk k42_149 51 (.aload_n 0) 1 := own_k
theorem d42_149_52 : Dk k42_149 52 (.aload 5) 2 := own_k
theorem d42_149_54 : Dk k42_149 54 (.putfield 9) 3 := own_k
theorem d42_149_57 : Dk k42_149 57 .return_ 1 := own_k
theorem ef_rm_i4 (m : MethodId) (x0 : Addr) (x1 : Addr) (x2 : Int32) (x3 : Int32) : entryFrame m #[(.ref x0), (.ref x1), (.int x2), (.int x3), .null] 6 = mkF m 0 #[.val (.ref x0), .val (.ref x1), .val (.int x2), .val (.int x3), .val .null, .unset] [] := by
   first | (simp [entryFrame, mkF, argsToLocals, Value.category]; done) | rfl
set_option maxRecDepth 65536 in
set_option maxHeartbeats 40000000 in
theorem rm_i4 (l : Launch) (Z : State) (a0 : Array Value) (hw : ∀ d ∈ tables_1, d.before a0 Z = true) (ws : List Jvm.Cond) (x a : Addr) (ka : ClassId) (da : Value) (cs : List Int32) (G1 : Int32) (h0 : Heap) (n0 : Nat) (O0 : Old Z n0 h0) (E_x : Exa Z h0 x "java/lang/String") (F_v : Fld Z h0 x "java/lang/String" "value" "[B" .null) (F_c : Fld Z h0 x "java/lang/String" "coder" "B" (.int (0 : Int32))) (g_x : n0 ≤ x) (OA : Sta Z Z.heap "java/lang/StringUTF16" "$assertionsDisabled" "Z" (.int (1 : Int32))) (OH : Sta Z Z.heap "java/lang/StringUTF16" "HI_BYTE_SHIFT" "I" (.int (0 : Int32))) (OL : Sta Z Z.heap "java/lang/StringUTF16" "LO_BYTE_SHIFT" "I" (.int (8 : Int32))) (O2 : Sta Z Z.heap "java/lang/String" "COMPACT_STRINGS" "Z" (.int G1)) (P5 : ¬ (G1 = (0 : Int32))) (hok : own_Ok cs) (V_a : Arv Z h0 a ka .char (Int32.ofNat cs.length) (cs.map Value.int) da) (hcap : cs.length ≤ 18) (h1 : 0 < cs.length) :
    MetFree l (⟨"java/lang/String", "<init>", "([CIILjava/lang/Void;)V"⟩ : MethodName) (head1 (Jvm.Cond.code (⟨"java/lang/String", "<init>", "([CIILjava/lang/Void;)V"⟩ : MethodName) jdk_42_method_149_code 6 none :: ws) ⟨4, 2, 86, 57⟩) (fun aA U => aA = #[(.ref x), (.ref a), (.int (0 : Int32)), (.int (Int32.ofNat cs.length)), .null] ∧ Z.Warmed39 U.vm ∧ U.heap = h0) (fun _ _ _ _ _ => True) (fun _ U oO U' => ∃ rV rL, oO = .returned rV ∧ QSt Z x cs h0 n0 rV U'.heap rL ∧ FrameEnd U oO U' rL 2 86) := by
  refine MetFree.of_bodySF (plainFor_of_name pn_0) hisR ?_
  intro p e s m args below meth cC s₁ Bd hml0 hP hK
  obtain ⟨rfl, hZ, hh⟩ := hP
  have hx := Bd.exec
  have hby := Bd.bytes
  have hml : cC.maxLocals = 6 := hml0
  have hown : s.vm.findClass "java/lang/String" = some m.cls := findClass_of_methodNamed Bd.named
  have hnm := (name_of_methodNamed Bd.named Bd.method).1
  have hrt := Bd.returns
  have hlk : meth.locks = false := Bd.notSynchronized
  have X0 : Stand p l e ⟨4, 2, 86, 57⟩ s m #[(.ref x), (.ref a), (.int (0 : Int32)), (.int (Int32.ofNat cs.length)), .null] below meth cC s₁ [] 0 0 := Stand.of_body Bd
  have e0 : s₁.heap = h0 := by rw [← hh, Bd.state]; rfl
  have N0 := Fr.nil n0
  have Z0 : n0 ≤ h0.size := O0.1 ▸ O0.2.1
  show own_Go p e below (s₁.setTop (entryFrame m #[(.ref x), (.ref a), (.int (0 : Int32)), (.int (Int32.ofNat cs.length)), .null] 6)) (fun oO U' => ∃ rV rL, oO = .returned rV ∧ QSt Z x cs h0 n0 rV U'.heap rL ∧ FrameEnd s oO U' rL 2 86)
  refine own_go (fun _ k => castTop (ef_rm_i4 m x a _ _) k) ?_
  have hlen : cs.length ≤ 4000 := hok.2
  have hxa := Exa.neArv E_x V_a (tw hw 2 rfl)
  refine og (fun _ k => XS.aloadN X0.here hx rfl (hb hby d42_149_0) rfl rfl k) ?_
  obtain ⟨T66, X66, e66, st66⟩ := initO X0 hx hZ hown (tw hw 12 rfl) (tw hw 13 rfl) (tw hw 14 rfl) e0 (g := (mkF m 1 #[.val (.ref x), .val (.ref a), .val (.int (0 : Int32)), .val (.int (Int32.ofNat cs.length)), .val .null, .unset] [(.ref x)])) rfl (by rw [hml]; rfl) rfl (hb hby d42_149_1) (by decide) (W := 0) (by show 2 * 0 + _ ≤ _; exact Nat.le_of_eq rfl) (by decide)
  refine own_go st66 ?_
  refine og (fun _ k => XS.iloadN X66.here hx rfl (hb hby d42_149_4) rfl k) ?_
  refine og (fun _ k => XS.ifYes X66.here hx rfl (pc0 := 5) (pc' := 27) rfl (hb hby d42_149_5) rfl ((if0 _ _).trans (feq (own_ne_0 h1 hlen)).2) (by decide) (by decide) k) ?_
  try dsimp only [mkF]
  obtain ⟨T67, X67, e67, st67⟩ := getS2 X66 hx hZ hown (host := "") (Or.inl (tw hw 23 rfl)) Via.refl e66 (O2.ext O0.2) (g := (mkF m 27 #[.val (.ref x), .val (.ref a), .val (.int (0 : Int32)), .val (.int (Int32.ofNat cs.length)), .val .null, .unset] [])) rfl (hb hby d42_149_27)
  refine own_go st67 ?_
  refine og (fun _ k => XS.ifNo X67.here hx rfl (hb hby d42_149_30) rfl ((if0 _ _).trans (feq P5).1) k) ?_
  refine og (fun _ k => XS.aloadN X67.here hx rfl (hb hby d42_149_33) rfl rfl k) ?_
  refine og (fun _ k => XS.iloadN X67.here hx rfl (hb hby d42_149_34) rfl k) ?_
  refine og (fun _ k => XS.iloadN X67.here hx rfl (hb hby d42_149_35) rfl k) ?_
  try dsimp only [mkF]
  obtain ⟨v68, _, ⟨T68, L68, k68, n68⟩, -, X68, ⟨Lc68, hQ68, l68, y68, z68⟩, st68⟩ := Jvm.LawKit.callS X67 hx (y := (⟨"java/lang/StringUTF16", "compress", "([CII)[B"⟩ : MethodName)) hown (mvT hZ (tw hw 24 rfl)) (mvT hZ (tw hw 25 rfl)) (mvT hZ (tw hw 26 rfl)) (mvT hZ (tw hw 27 rfl)) (by decide) (backOf (W := 0) (rm_cmp3 l Z a0 hw [] a ka da cs h0 n0 O0 OA OH OL hok V_a hcap) hZ (tw hw 27 rfl) (tw hw 26 rfl) (by decide) (by decide)) (g := (mkF m 36 #[.val (.ref x), .val (.ref a), .val (.int (0 : Int32)), .val (.int (Int32.ofNat cs.length)), .val .null, .unset] [(.int (Int32.ofNat cs.length)), (.int (0 : Int32)), (.ref a)])) rfl (by rw [hml]; rfl) (argsL := [(.ref a), (.int (0 : Int32)), (.int (Int32.ofNat cs.length))]) (rest := []) (lenOf pd_5 rfl) rfl (by show 2 * 0 + _ ≤ _; exact Nat.le_of_eq rfl) (hb hby d42_149_36) (fun _ _ => ⟨rfl, e67, (by decide : 0 + 2 ≤ _), (by decide : 0 + 86 ≤ _)⟩)
  dsimp only [Pt.U, Pt.locs, Pt.cells, Pt.slots] at X68 l68 y68 z68 st68 hQ68
  subst l68 y68 z68
  refine own_go st68 ?_
  obtain ⟨t68, kt68, cd68, N268, vs68, rfl, Nq68, K68, tg68, Vt68, hC68⟩ := hQ68
  have N68 := Fr.app N0 Nq68
  refine og (fun _ k => XS.astore X68.here hx rfl (hb hby d42_149_39) rfl rfl (l' := #[.val (.ref x), .val (.ref a), .val (.int (0 : Int32)), .val (.int (Int32.ofNat cs.length)), .val .null, .val (.ref t68)]) rfl k) ?_
  refine og (fun _ k => XS.aloadN X68.here hx rfl (hb hby d42_149_41) rfl rfl k) ?_
  refine og (fun _ k => XS.aload X68.here hx rfl (hb hby d42_149_42) rfl rfl k) ?_
  refine og (fun _ k => XS.iloadN X68.here hx rfl (hb hby d42_149_44) rfl k) ?_
  try dsimp only [mkF]
  obtain ⟨v69, _, ⟨T69, L69, k69, n69⟩, -, X69, ⟨Lc69, hQ69, l69, y69, z69⟩, st69⟩ := Jvm.LawKit.callS X68 hx (y := (⟨"java/lang/StringUTF16", "coderFromArrayLen", "([BI)B"⟩ : MethodName)) hown (mvT hZ (tw hw 31 rfl)) (mvT hZ (tw hw 32 rfl)) (mvT hZ (tw hw 26 rfl)) (mvT hZ (tw hw 33 rfl)) (by decide) (backOf (W := 1) (rm_cfa l Z a0 hw [] t68 kt68 N268 vs68 cs cd68 T68.heap n0 (O0.keep K68 all0) Vt68 hC68 h1 hlen) hZ (tw hw 33 rfl) (tw hw 26 rfl) (by decide) (by decide)) (g := (mkF m 45 #[.val (.ref x), .val (.ref a), .val (.int (0 : Int32)), .val (.int (Int32.ofNat cs.length)), .val .null, .val (.ref t68)] [(.int (Int32.ofNat cs.length)), (.ref t68), (.ref x)])) rfl (by rw [hml]; rfl) (argsL := [(.ref t68), (.int (Int32.ofNat cs.length))]) (rest := [(.ref x)]) (lenOf pd_7 rfl) rfl (by show 2 * 0 + _ ≤ _; exact Nat.le_of_eq rfl) (hb hby d42_149_45) (fun _ _ => ⟨rfl, (rfl : T68.heap = T68.heap), (by decide : 2 + 0 ≤ _), (by decide : 86 + 0 ≤ _)⟩)
  dsimp only [Pt.U, Pt.locs, Pt.cells, Pt.slots] at X69 l69 y69 z69 st69 hQ69
  subst l69 y69 z69
  refine own_go st69 ?_
  obtain ⟨rfl, Nq69, e69⟩ := hQ69
  have N69 := Fr.app N68 Nq69
  obtain ⟨T70, h70, X70, e70, W70, st70⟩ := putFN X69 hx hZ hown (tw hw 22 rfl) Via.refl e69 (F_c.keep K68 nin0) (E_x.keep K68) (Or.inr ⟨(tw hw 18 rfl), rfl, hnm⟩) (tw hw 2 rfl) (ty := .byte) (v' := (.int (nar .byte cd68))) (by decide) rfl (fits_nar_byte _) (g := (mkF m 48 #[.val (.ref x), .val (.ref a), .val (.int (0 : Int32)), .val (.int (Int32.ofNat cs.length)), .val .null, .val (.ref t68)] [(.int cd68), (.ref x)])) rfl rfl (hb hby d42_149_48)
  refine own_go st70 ?_
  have N70 := Fr.snoc X70 N69 g_x
  have Fw70 := (F_c.keep K68 nin0).same W70
  refine og (fun _ k => XS.aloadN X70.here hx rfl (hb hby d42_149_51) rfl rfl k) ?_
  refine og (fun _ k => XS.aload X70.here hx rfl (hb hby d42_149_52) rfl rfl k) ?_
  have f71 := ((F_v.keep K68 nin0).other W70 (Or.inr (slot_ne (Or.inr (tw hw 17 rfl)) (Or.inr (tw hw 18 rfl)) (by decide) (t := (.array .byte)) (t' := .byte) (by decide) (by decide))))
  obtain ⟨T72, h72, X72, e72, W72, st72⟩ := putF X70 hx hZ hown (host := "") (Or.inl (tw hw 21 rfl)) Via.refl e70 f71 ((E_x.keep K68).wr W70) (Or.inr ⟨(tw hw 17 rfl), rfl, hnm⟩) (tw hw 2 rfl) (ty := (.array .byte)) (by decide) rfl rfl (g := (mkF m 54 #[.val (.ref x), .val (.ref a), .val (.int (0 : Int32)), .val (.int (Int32.ofNat cs.length)), .val .null, .val (.ref t68)] [(.ref t68), (.ref x)])) rfl rfl (hb hby d42_149_54)
  refine own_go st72 ?_
  have N72 := Fr.snoc X72 N70 g_x
  have Fw72 := f71.same W72
  try dsimp only [mkF]
  have f73 := (Fw70.other W72 (Or.inr (slot_ne (Or.inr (tw hw 18 rfl)) (Or.inr (tw hw 17 rfl)) (by decide) (t := .byte) (t' := (.array .byte)) (by decide) (by decide))))
  have f74 := ((((Keep.refl h0 [x]).trans K68 all0).wr W70 (Or.inl (List.mem_of_getElem? (i := 0) rfl))).wr W72 (Or.inl (List.mem_of_getElem? (i := 0) rfl)))
  have ne75 : x ≠ t68 := Nat.ne_of_lt (Nat.lt_of_lt_of_le E_x.lt tg68)
  have f76 := ((Vt68.other W70 (Ne.symm ne75)).other W72 (Ne.symm ne75))
  refine own_fin (v := none) X72 (fun _ => rfl) hlk (fun fs hr => X72.returnOut hx hrt (hb hby d42_149_57) hr) (QQ := QSt Z x cs h0 n0) ?_ (by decide) (by decide)
  rw [e72]
  exact ⟨t68, _, _, _, _, rfl, N72, f74, Fw72, (own_ncd hC68 ▸ f73), f76, hC68⟩

theorem ef_rm_i1 (m : MethodId) (x0 : Addr) (x1 : Addr) : entryFrame m #[(.ref x0), (.ref x1)] 2 = mkF m 0 #[.val (.ref x0), .val (.ref x1)] [] := by
   first | (simp [entryFrame, mkF, argsToLocals, Value.category]; done) | rfl
set_option maxRecDepth 65536 in
set_option maxHeartbeats 40000000 in
theorem rm_i1 (l : Launch) (Z : State) (a0 : Array Value) (hw : ∀ d ∈ tables_1, d.before a0 Z = true) (ws : List Jvm.Cond) (x a : Addr) (ka : ClassId) (da : Value) (cs : List Int32) (G1 : Int32) (h0 : Heap) (n0 : Nat) (O0 : Old Z n0 h0) (E_x : Exa Z h0 x "java/lang/String") (F_v : Fld Z h0 x "java/lang/String" "value" "[B" .null) (F_c : Fld Z h0 x "java/lang/String" "coder" "B" (.int (0 : Int32))) (g_x : n0 ≤ x) (OA : Sta Z Z.heap "java/lang/StringUTF16" "$assertionsDisabled" "Z" (.int (1 : Int32))) (OH : Sta Z Z.heap "java/lang/StringUTF16" "HI_BYTE_SHIFT" "I" (.int (0 : Int32))) (OL : Sta Z Z.heap "java/lang/StringUTF16" "LO_BYTE_SHIFT" "I" (.int (8 : Int32))) (O2 : Sta Z Z.heap "java/lang/String" "COMPACT_STRINGS" "Z" (.int G1)) (P5 : ¬ (G1 = (0 : Int32))) (hok : own_Ok cs) (V_a : Arv Z h0 a ka .char (Int32.ofNat cs.length) (cs.map Value.int) da) (hcap : cs.length ≤ 18) (h1 : 0 < cs.length) :
    MetFree l (⟨"java/lang/String", "<init>", "([C)V"⟩ : MethodName) (head1 (Jvm.Cond.code (⟨"java/lang/String", "<init>", "([C)V"⟩ : MethodName) jdk_42_method_3_code 2 none :: ws) ⟨5, 2, 86, 74⟩) (fun aA U => aA = #[(.ref x), (.ref a)] ∧ Z.Warmed39 U.vm ∧ U.heap = h0) (fun _ _ _ _ _ => True) (fun _ U oO U' => ∃ rV rL, oO = .returned rV ∧ QSt Z x cs h0 n0 rV U'.heap rL ∧ FrameEnd U oO U' rL 2 86) := by
  refine MetFree.of_bodySF (plainFor_of_name pn_0) hisR ?_
  intro p e s m args below meth cC s₁ Bd hml0 hP hK
  obtain ⟨rfl, hZ, hh⟩ := hP
  have hx := Bd.exec
  have hby := Bd.bytes
  have hml : cC.maxLocals = 2 := hml0
  have hown : s.vm.findClass "java/lang/String" = some m.cls := findClass_of_methodNamed Bd.named
  have hnm := (name_of_methodNamed Bd.named Bd.method).1
  have hrt := Bd.returns
  have hlk : meth.locks = false := Bd.notSynchronized
  have X0 : Stand p l e ⟨5, 2, 86, 74⟩ s m #[(.ref x), (.ref a)] below meth cC s₁ [] 0 0 := Stand.of_body Bd
  have e0 : s₁.heap = h0 := by rw [← hh, Bd.state]; rfl
  have N0 := Fr.nil n0
  have Z0 : n0 ≤ h0.size := O0.1 ▸ O0.2.1
  show own_Go p e below (s₁.setTop (entryFrame m #[(.ref x), (.ref a)] 2)) (fun oO U' => ∃ rV rL, oO = .returned rV ∧ QSt Z x cs h0 n0 rV U'.heap rL ∧ FrameEnd s oO U' rL 2 86)
  refine own_go (fun _ k => castTop (ef_rm_i1 m x a) k) ?_
  have hlen : cs.length ≤ 4000 := hok.2
  have hxa := Exa.neArv E_x V_a (tw hw 2 rfl)
  refine og (fun _ k => XS.aloadN X0.here hx rfl (hb hby d42_3_0) rfl rfl k) ?_
  refine og (fun _ k => XS.aloadN X0.here hx rfl (hb hby d42_3_1) rfl rfl k) ?_
  refine og (fun _ k => XS.iconst X0.here hx rfl (hb hby d42_3_2) k) ?_
  refine og (fun _ k => XS.aloadN X0.here hx rfl (hb hby d42_3_3) rfl rfl k) ?_
  try dsimp only [mkF]
  obtain ⟨c77, A77, q77, S77, M77, Hs77, Gs77⟩ := id V_a
  refine og (fun _ k => X0.arraylength hx (by rw [e0]; exact A77.1) (State.isArrayOf_alike hZ.alike A77.2.1) (g := (mkF m 4 #[.val (.ref x), .val (.ref a)] [(.ref a), (.int (0 : Int32)), (.ref a), (.ref x)])) rfl rfl (hb hby d42_3_4) _ k) ?_
  rw [len_of S77 M77]
  refine og (fun _ k => XS.aconstNull X0.here hx rfl (hb hby d42_3_5) k) ?_
  obtain ⟨v78, _, ⟨T78, L78, k78, n78⟩, -, X78, ⟨Lc78, hQ78, l78, y78, z78⟩, st78⟩ := X0.specialBack hx (y := (⟨"java/lang/String", "<init>", "([CIILjava/lang/Void;)V"⟩ : MethodName)) rfl hown (mvT hZ (tw hw 8 rfl)) (mvT hZ (tw hw 9 rfl)) (mvT hZ (tw hw 11 rfl)) (by decide) (backOf (W := 0) (rm_i4 l Z a0 hw [] x a ka da cs G1 h0 n0 O0 E_x F_v F_c g_x OA OH OL O2 P5 hok V_a hcap h1) hZ (tw hw 11 rfl) (tw hw 3 rfl) (by decide) (by decide)) (g := (mkF m 6 #[.val (.ref x), .val (.ref a)] [.null, (.int (Int32.ofNat cs.length)), (.int (0 : Int32)), (.ref a), (.ref x)])) rfl (by rw [hml]; rfl) (Steps.refl _) (a := x) (argsL := [(.ref a), (.int (0 : Int32)), (.int (Int32.ofNat cs.length)), .null]) (rest := []) (lenOf pd_0 rfl) rfl (by show 2 * 0 + _ ≤ _; exact Nat.le_of_eq rfl) (hb hby d42_3_6) (fun _ _ => ⟨rfl, e0, (by decide : 0 + 2 ≤ _), (by decide : 0 + 86 ≤ _)⟩)
  dsimp only [Pt.U, Pt.locs, Pt.cells, Pt.slots] at X78 l78 y78 z78 st78 hQ78
  subst l78 y78 z78
  refine own_gos st78 ?_
  obtain ⟨t78, kt78, cd78, N278, vs78, rfl, Nq78, K78, Fv78, Fc78, Vt78, hC78⟩ := hQ78
  have N78 := Fr.app N0 Nq78
  have f79 := ((Keep.refl h0 [x]).trans K78 (allS (Or.inl (List.mem_of_getElem? (i := 0) rfl)) all0))
  refine own_fin (v := none) X78 (fun _ => rfl) hlk (fun fs hr => X78.returnOut hx hrt (hb hby d42_3_9) hr) (QQ := QSt Z x cs h0 n0) ?_ (by decide) (by decide)
  exact ⟨t78, _, _, _, _, rfl, N78, f79, Fv78, Fc78, Vt78, hC78⟩

abbrev k29_69 := jdk_29_method_69_code
theorem d29_69_0 : Dk k29_69 0 (.iload_n 0) 1 := own_k
theorem d29_69_1 : Dk k29_69 1 (.iload_n 1) 1 := own_k
theorem d29_69_2 : Dk k29_69 2 (.if_icmp .gt 7) 3 := own_k
theorem d29_69_9 : Dk k29_69 9 (.iload_n 1) 1 := own_k
theorem d29_69_10 : Dk k29_69 10 .ireturn 1 := own_k
theorem d29_69_5 : Dk k29_69 5 (.iload_n 0) 1 := own_k
theorem d29_69_6 : Dk k29_69 6 (.goto 4) 3 := own_k
theorem ef_rm_min (m : MethodId) (x0 : Int32) (x1 : Int32) : entryFrame m #[(.int x0), (.int x1)] 2 = mkF m 0 #[.val (.int x0), .val (.int x1)] [] := by
   first | (simp [entryFrame, mkF, argsToLocals, Value.category]; done) | rfl
set_option maxRecDepth 65536 in
set_option maxHeartbeats 40000000 in
theorem rm_min (l : Launch) (Z : State) (a0 : Array Value) (hw : ∀ d ∈ tables_1, d.before a0 Z = true) (ws : List Jvm.Cond) (p1 p2 r : Int32) (h0 : Heap) (n0 : Nat) (O0 : Old Z n0 h0) (hr0 : r = if p2 < p1 then p2 else p1) :
    MetFree l (⟨"java/lang/Math", "min", "(II)I"⟩ : MethodName) (head1 (Jvm.Cond.code (⟨"java/lang/Math", "min", "(II)I"⟩ : MethodName) jdk_29_method_69_code 2 (some .int) :: ws) ⟨0, 0, 0, 0⟩) (fun aA U => aA = #[(.int p1), (.int p2)] ∧ Z.Warmed39 U.vm ∧ U.heap = h0) (fun _ _ _ _ _ => True) (fun _ U oO U' => ∃ rV rL, oO = .returned rV ∧ QPure (some (.int r)) h0 n0 rV U'.heap rL ∧ FrameEnd U oO U' rL 0 0) := by
  refine MetFree.of_bodySF (Jvm.Free.JP.mathPlain rfl (by decide +kernel)) hisR ?_
  intro p e s m args below meth cC s₁ Bd hml0 hP hK
  obtain ⟨rfl, hZ, hh⟩ := hP
  have hx := Bd.exec
  have hby := Bd.bytes
  have hml : cC.maxLocals = 2 := hml0
  have hown : s.vm.findClass "java/lang/Math" = some m.cls := findClass_of_methodNamed Bd.named
  have hnm := (name_of_methodNamed Bd.named Bd.method).1
  have hrt := Bd.returns
  have hlk : meth.locks = false := Bd.notSynchronized
  have X0 : Stand p l e ⟨0, 0, 0, 0⟩ s m #[(.int p1), (.int p2)] below meth cC s₁ [] 0 0 := Stand.of_body Bd
  have e0 : s₁.heap = h0 := by rw [← hh, Bd.state]; rfl
  have N0 := Fr.nil n0
  have Z0 : n0 ≤ h0.size := O0.1 ▸ O0.2.1
  show own_Go p e below (s₁.setTop (entryFrame m #[(.int p1), (.int p2)] 2)) (fun oO U' => ∃ rV rL, oO = .returned rV ∧ QPure (some (.int r)) h0 n0 rV U'.heap rL ∧ FrameEnd s oO U' rL 0 0)
  refine own_go (fun _ k => castTop (ef_rm_min m p1 p2) k) ?_
  refine og (fun _ k => XS.iloadN X0.here hx rfl (hb hby d29_69_0) rfl k) ?_
  refine og (fun _ k => XS.iloadN X0.here hx rfl (hb hby d29_69_1) rfl k) ?_
  by_cases hc80 : p2 < p1
  · skip
    refine og (fun _ k => XS.icmpYes X0.here hx rfl (pc0 := 2) (pc' := 9) rfl (hb hby d29_69_2) rfl (tlt hc80).2.2.1 (by decide) (by decide) k) ?_
    refine og (fun _ k => XS.iloadN X0.here hx rfl (hb hby d29_69_9) rfl k) ?_
    try dsimp only [mkF]
    refine own_fin (v := (some (.int p2))) X0 (fun h => by rw [hrt] at h; cases h) hlk (fun fs hr => retI X0 hx hrt (hb hby d29_69_10) hr) (QQ := QPure (some (.int r)) h0 n0) ?_ (by decide) (by decide)
    rw [e0]
    exact ⟨by rw [hr0, if_pos hc80], N0, rfl⟩
  · skip
    refine og (fun _ k => XS.icmpNo X0.here hx rfl (hb hby d29_69_2) rfl (flt hc80).2.2.1 k) ?_
    refine og (fun _ k => XS.iloadN X0.here hx rfl (hb hby d29_69_5) rfl k) ?_
    try dsimp only [mkF]
    refine og (fun _ k => XS.goto X0.here hx rfl (pc0 := 6) (pc' := 10) rfl (hb hby d29_69_6) (by decide) (by decide) k) ?_
    refine own_fin (v := (some (.int p1))) X0 (fun h => by rw [hrt] at h; cases h) hlk (fun fs hr => retI X0 hx hrt (hb hby d29_69_10) hr) (QQ := QPure (some (.int r)) h0 n0) ?_ (by decide) (by decide)
    rw [e0]
    exact ⟨by rw [hr0, if_neg hc80], N0, rfl⟩

abbrev k29_65 := jdk_29_method_65_code
theorem d29_65_0 : Dk k29_65 0 (.iload_n 0) 1 := own_k
theorem d29_65_1 : Dk k29_65 1 (.iload_n 1) 1 := own_k
theorem d29_65_2 : Dk k29_65 2 (.if_icmp .lt 7) 3 := own_k
theorem d29_65_9 : Dk k29_65 9 (.iload_n 1) 1 := own_k
theorem d29_65_10 : Dk k29_65 10 .ireturn 1 := own_k
theorem d29_65_5 : Dk k29_65 5 (.iload_n 0) 1 := own_k
theorem d29_65_6 : Dk k29_65 6 (.goto 4) 3 := own_k
theorem ef_rm_max (m : MethodId) (x0 : Int32) (x1 : Int32) : entryFrame m #[(.int x0), (.int x1)] 2 = mkF m 0 #[.val (.int x0), .val (.int x1)] [] := by
   first | (simp [entryFrame, mkF, argsToLocals, Value.category]; done) | rfl
set_option maxRecDepth 65536 in
set_option maxHeartbeats 40000000 in
theorem rm_max (l : Launch) (Z : State) (a0 : Array Value) (hw : ∀ d ∈ tables_1, d.before a0 Z = true) (ws : List Jvm.Cond) (p1 p2 r : Int32) (h0 : Heap) (n0 : Nat) (O0 : Old Z n0 h0) (hr0 : r = if p1 < p2 then p2 else p1) :
    MetFree l (⟨"java/lang/Math", "max", "(II)I"⟩ : MethodName) (head1 (Jvm.Cond.code (⟨"java/lang/Math", "max", "(II)I"⟩ : MethodName) jdk_29_method_65_code 2 (some .int) :: ws) ⟨0, 0, 0, 0⟩) (fun aA U => aA = #[(.int p1), (.int p2)] ∧ Z.Warmed39 U.vm ∧ U.heap = h0) (fun _ _ _ _ _ => True) (fun _ U oO U' => ∃ rV rL, oO = .returned rV ∧ QPure (some (.int r)) h0 n0 rV U'.heap rL ∧ FrameEnd U oO U' rL 0 0) := by
  refine MetFree.of_bodySF (Jvm.Free.JP.mathPlain rfl (by decide +kernel)) hisR ?_
  intro p e s m args below meth cC s₁ Bd hml0 hP hK
  obtain ⟨rfl, hZ, hh⟩ := hP
  have hx := Bd.exec
  have hby := Bd.bytes
  have hml : cC.maxLocals = 2 := hml0
  have hown : s.vm.findClass "java/lang/Math" = some m.cls := findClass_of_methodNamed Bd.named
  have hnm := (name_of_methodNamed Bd.named Bd.method).1
  have hrt := Bd.returns
  have hlk : meth.locks = false := Bd.notSynchronized
  have X0 : Stand p l e ⟨0, 0, 0, 0⟩ s m #[(.int p1), (.int p2)] below meth cC s₁ [] 0 0 := Stand.of_body Bd
  have e0 : s₁.heap = h0 := by rw [← hh, Bd.state]; rfl
  have N0 := Fr.nil n0
  have Z0 : n0 ≤ h0.size := O0.1 ▸ O0.2.1
  show own_Go p e below (s₁.setTop (entryFrame m #[(.int p1), (.int p2)] 2)) (fun oO U' => ∃ rV rL, oO = .returned rV ∧ QPure (some (.int r)) h0 n0 rV U'.heap rL ∧ FrameEnd s oO U' rL 0 0)
  refine own_go (fun _ k => castTop (ef_rm_max m p1 p2) k) ?_
  refine og (fun _ k => XS.iloadN X0.here hx rfl (hb hby d29_65_0) rfl k) ?_
  refine og (fun _ k => XS.iloadN X0.here hx rfl (hb hby d29_65_1) rfl k) ?_
  by_cases hc81 : p1 < p2
  · skip
    refine og (fun _ k => XS.icmpYes X0.here hx rfl (pc0 := 2) (pc' := 9) rfl (hb hby d29_65_2) rfl (tlt hc81).1 (by decide) (by decide) k) ?_
    refine og (fun _ k => XS.iloadN X0.here hx rfl (hb hby d29_65_9) rfl k) ?_
    try dsimp only [mkF]
    refine own_fin (v := (some (.int p2))) X0 (fun h => by rw [hrt] at h; cases h) hlk (fun fs hr => retI X0 hx hrt (hb hby d29_65_10) hr) (QQ := QPure (some (.int r)) h0 n0) ?_ (by decide) (by decide)
    rw [e0]
    exact ⟨by rw [hr0, if_pos hc81], N0, rfl⟩
  · skip
    refine og (fun _ k => XS.icmpNo X0.here hx rfl (hb hby d29_65_2) rfl (flt hc81).1 k) ?_
    refine og (fun _ k => XS.iloadN X0.here hx rfl (hb hby d29_65_5) rfl k) ?_
    try dsimp only [mkF]
    refine og (fun _ k => XS.goto X0.here hx rfl (pc0 := 6) (pc' := 10) rfl (hb hby d29_65_6) (by decide) (by decide) k) ?_
    refine own_fin (v := (some (.int p1))) X0 (fun h => by rw [hrt] at h; cases h) hlk (fun fs hr => retI X0 hx hrt (hb hby d29_65_10) hr) (QQ := QPure (some (.int r)) h0 n0) ?_ (by decide) (by decide)
    rw [e0]
    exact ⟨by rw [hr0, if_neg hc81], N0, rfl⟩

def QNewSB (Z : State) (b : Addr) (h0 : Heap) (n0 : Nat) (r : Option Value) (h : Heap) (L : List Loc) : Prop := ∃ (v : Addr) (kv : ClassId), r = none ∧ Fr n0 L ∧ Keep h0 h [b] ∧ h0.size ≤ v ∧ Fld Z h b "java/lang/AbstractStringBuilder" "value" "[B" (.ref v) ∧ Fld Z h b "java/lang/AbstractStringBuilder" "coder" "B" (.int (0 : Int32)) ∧ Fld Z h b "java/lang/AbstractStringBuilder" "count" "I" (.int (Int32.ofNat ([] : List Int32).length)) ∧ Fld Z h b "java/lang/AbstractStringBuilder" "maybeLatin1" "Z" (.int (0 : Int32)) ∧ Arv Z h v kv .byte (Int32.ofNat 16) (own_sM 16 []) (.int (0 : Int32)) ∧ Exa Z h v "[B"
theorem own_ok0 : own_Ok ([] : List Int32) := ⟨fun c hc => (nomatch hc), Nat.zero_le _⟩
abbrev k68_2 := jdk_68_method_2_code
theorem d68_2_0 : Dk k68_2 0 (.aload_n 0) 1 := own_k
theorem d68_2_1 : Dk k68_2 1 (.invokespecial 3) 3 := own_k
theorem d68_2_4 : Dk k68_2 4 (.getstatic 18) 3 := own_k
theorem d68_2_7 : Dk k68_2 7 (.ifCond .eq 18) 3 := own_k
theorem d68_2_10 : Dk k68_2 10 (.aload_n 0) 1 := own_k
theorem d68_2_11 : Dk k68_2 11 (.iload_n 1) 1 := own_k
theorem d68_2_12 : Dk k68_2 12 (.newarray .byte) 2 := own_k
theorem d68_2_14 : Dk k68_2 14 (.putfield 15) 3 := own_k
theorem d68_2_17 : Dk k68_2 17 (.aload_n 0) 1 := own_k
theorem d68_2_18 : Dk k68_2 18 (.iconst 0) 1 := own_k
theorem d68_2_19 : Dk k68_2 19 (.putfield 22) 3 := own_k
theorem d68_2_22 : Dk k68_2 22 (.goto 16) 3 := own_k
theorem d68_2_38 : Dk k68_2 38 .return_ 1 := own_k
theorem pn_2 : plainName "java/lang/AbstractStringBuilder" = true := by first | (simp [plainName, overriddenIn]; done) | decide +kernel
theorem ef_rm_asb (m : MethodId) (x0 : Addr) (x1 : Int32) : entryFrame m #[(.ref x0), (.int x1)] 2 = mkF m 0 #[.val (.ref x0), .val (.int x1)] [] := by
   first | (simp [entryFrame, mkF, argsToLocals, Value.category]; done) | rfl
set_option maxRecDepth 65536 in
set_option maxHeartbeats 40000000 in
theorem rm_asb (l : Launch) (Z : State) (a0 : Array Value) (hw : ∀ d ∈ tables_1, d.before a0 Z = true) (ws : List Jvm.Cond) (b : Addr) (G1 : Int32) (h0 : Heap) (n0 : Nat) (O0 : Old Z n0 h0) (E_b : Exa Z h0 b "java/lang/StringBuilder") (Fv_b : Fld Z h0 b "java/lang/AbstractStringBuilder" "value" "[B" .null) (Fc_b : Fld Z h0 b "java/lang/AbstractStringBuilder" "coder" "B" (.int (0 : Int32))) (Fn_b : Fld Z h0 b "java/lang/AbstractStringBuilder" "count" "I" (.int (0 : Int32))) (Fm_b : Fld Z h0 b "java/lang/AbstractStringBuilder" "maybeLatin1" "Z" (.int (0 : Int32))) (g_b : n0 ≤ b) (O2 : Sta Z Z.heap "java/lang/String" "COMPACT_STRINGS" "Z" (.int G1)) (P5 : ¬ (G1 = (0 : Int32))) :
    MetFree l (⟨"java/lang/AbstractStringBuilder", "<init>", "(I)V"⟩ : MethodName) (head1 (Jvm.Cond.code (⟨"java/lang/AbstractStringBuilder", "<init>", "(I)V"⟩ : MethodName) jdk_68_method_2_code 2 none :: ws) ⟨1, 1, 16, 12⟩) (fun aA U => aA = #[(.ref b), (.int (16 : Int32))] ∧ Z.Warmed39 U.vm ∧ U.heap = h0) (fun _ _ _ _ _ => True) (fun _ U oO U' => ∃ rV rL, oO = .returned rV ∧ QNewSB Z b h0 n0 rV U'.heap rL ∧ FrameEnd U oO U' rL 1 16) := by
  refine MetFree.of_bodySF (plainFor_of_name pn_2) hisR ?_
  intro p e s m args below meth cC s₁ Bd hml0 hP hK
  obtain ⟨rfl, hZ, hh⟩ := hP
  have hx := Bd.exec
  have hby := Bd.bytes
  have hml : cC.maxLocals = 2 := hml0
  have hown : s.vm.findClass "java/lang/AbstractStringBuilder" = some m.cls := findClass_of_methodNamed Bd.named
  have hnm := (name_of_methodNamed Bd.named Bd.method).1
  have hrt := Bd.returns
  have hlk : meth.locks = false := Bd.notSynchronized
  have X0 : Stand p l e ⟨1, 1, 16, 12⟩ s m #[(.ref b), (.int (16 : Int32))] below meth cC s₁ [] 0 0 := Stand.of_body Bd
  have e0 : s₁.heap = h0 := by rw [← hh, Bd.state]; rfl
  have N0 := Fr.nil n0
  have Z0 : n0 ≤ h0.size := O0.1 ▸ O0.2.1
  show own_Go p e below (s₁.setTop (entryFrame m #[(.ref b), (.int (16 : Int32))] 2)) (fun oO U' => ∃ rV rL, oO = .returned rV ∧ QNewSB Z b h0 n0 rV U'.heap rL ∧ FrameEnd s oO U' rL 1 16)
  refine own_go (fun _ k => castTop (ef_rm_asb m b _) k) ?_
  refine og (fun _ k => XS.aloadN X0.here hx rfl (hb hby d68_2_0) rfl rfl k) ?_
  obtain ⟨T82, X82, e82, st82⟩ := initO X0 hx hZ hown (tw hw 53 rfl) (tw hw 13 rfl) (tw hw 14 rfl) e0 (g := (mkF m 1 #[.val (.ref b), .val (.int (16 : Int32))] [(.ref b)])) rfl (by rw [hml]; rfl) rfl (hb hby d68_2_1) (by decide) (W := 0) (by show 2 * 0 + _ ≤ _; exact Nat.le_of_eq rfl) (by decide)
  refine own_go st82 ?_
  obtain ⟨T83, X83, e83, st83⟩ := getS2 X82 hx hZ hown (host := "") (Or.inl (tw hw 54 rfl)) Via.refl e82 (O2.ext O0.2) (g := (mkF m 4 #[.val (.ref b), .val (.int (16 : Int32))] [])) rfl (hb hby d68_2_4)
  refine own_go st83 ?_
  refine og (fun _ k => XS.ifNo X83.here hx rfl (hb hby d68_2_7) rfl ((if0 _ _).trans (feq P5).1) k) ?_
  try dsimp only [mkF]
  refine og (fun _ k => XS.aloadN X83.here hx rfl (hb hby d68_2_10) rfl rfl k) ?_
  refine og (fun _ k => XS.iloadN X83.here hx rfl (hb hby d68_2_11) rfl k) ?_
  obtain ⟨T84, h84, k84, X84, e84, E84, A84, Q84, st84⟩ := newPE X83 hx hZ (tw hw 16 rfl) e83 (g := (mkF m 12 #[.val (.ref b), .val (.int (16 : Int32))] [(.int (16 : Int32)), (.ref b)])) rfl (hb hby d68_2_12) rfl (by decide) (cap := 16) (by decide) (by decide) (by decide) (by decide) rfl
  obtain ⟨b84, g84⟩ : ∃ z, z = h0.size := ⟨_, rfl⟩
  rw [← g84] at A84 Q84 st84
  refine own_go st84 ?_
  have V84 : Arv Z h84 b84 k84 .byte (16 : Int32) [(.int (0 : Int32)), (.int (0 : Int32)), (.int (0 : Int32)), (.int (0 : Int32)), (.int (0 : Int32)), (.int (0 : Int32)), (.int (0 : Int32)), (.int (0 : Int32)), (.int (0 : Int32)), (.int (0 : Int32)), (.int (0 : Int32)), (.int (0 : Int32)), (.int (0 : Int32)), (.int (0 : Int32)), (.int (0 : Int32)), (.int (0 : Int32))] (.int (0 : Int32)) := (Arv.new A84 (by decide)).pad (pad_rep [] (.int (0 : Int32)) 16)
  obtain ⟨T85, h85, X85, e85, W85, st85⟩ := putF X84 hx hZ hown (host := "") (Or.inl (tw hw 55 rfl)) Via.refl e84 (Fv_b.ext E84) (E_b.ext E84) (Or.inl (tw hw 56 rfl)) (tw hw 42 rfl) (ty := (.array .byte)) (by decide) rfl rfl (g := (mkF m 14 #[.val (.ref b), .val (.int (16 : Int32))] [(.ref b84), (.ref b)])) rfl rfl (hb hby d68_2_14)
  refine own_go st85 ?_
  have N85 := Fr.snoc X85 N0 g_b
  have Fw85 := (Fv_b.ext E84).same W85
  refine og (fun _ k => XS.aloadN X85.here hx rfl (hb hby d68_2_17) rfl rfl k) ?_
  try dsimp only [mkF]
  refine og (fun _ k => XS.iconst X85.here hx rfl (hb hby d68_2_18) k) ?_
  have f86 := ((Fc_b.ext E84).other W85 (Or.inr (slot_ne (Or.inl (tw hw 58 rfl)) (Or.inl (tw hw 56 rfl)) (by decide) (t := .byte) (t' := (.array .byte)) (by decide) (by decide))))
  obtain ⟨T87, h87, X87, e87, W87, st87⟩ := putFN X85 hx hZ hown (tw hw 57 rfl) Via.refl e85 f86 ((E_b.ext E84).wr W85) (Or.inl (tw hw 58 rfl)) (tw hw 42 rfl) (ty := .byte) (v' := (.int (0 : Int32))) (by decide) rfl rfl (g := (mkF m 19 #[.val (.ref b), .val (.int (16 : Int32))] [(.int (0 : Int32)), (.ref b)])) rfl rfl (hb hby d68_2_19)
  refine own_go st87 ?_
  have N87 := Fr.snoc X87 N85 g_b
  have Fw87 := f86.same W87
  refine og (fun _ k => XS.goto X87.here hx rfl (pc0 := 22) (pc' := 38) rfl (hb hby d68_2_22) (by decide) (by decide) k) ?_
  have f88 := ((((Keep.refl h0 [b]).ext E84).wr W85 (Or.inl (List.mem_of_getElem? (i := 0) rfl))).wr W87 (Or.inl (List.mem_of_getElem? (i := 0) rfl)))
  have f89 := (Fw85.other W87 (Or.inr (slot_ne (Or.inl (tw hw 56 rfl)) (Or.inl (tw hw 58 rfl)) (by decide) (t := (.array .byte)) (t' := .byte) (by decide) (by decide))))
  have f90 := (((Fn_b.ext E84).other W85 (Or.inr (slot_ne (Or.inl (tw hw 81 rfl)) (Or.inl (tw hw 56 rfl)) (by decide) (t := .int) (t' := (.array .byte)) (by decide) (by decide)))).other W87 (Or.inr (slot_ne (Or.inl (tw hw 81 rfl)) (Or.inl (tw hw 58 rfl)) (by decide) (t := .int) (t' := .byte) (by decide) (by decide))))
  have f91 := (((Fm_b.ext E84).other W85 (Or.inr (slot_ne (Or.inl (tw hw 289 rfl)) (Or.inl (tw hw 56 rfl)) (by decide) (t := .boolean) (t' := (.array .byte)) (by decide) (by decide)))).other W87 (Or.inr (slot_ne (Or.inl (tw hw 289 rfl)) (Or.inl (tw hw 58 rfl)) (by decide) (t := .boolean) (t' := .byte) (by decide) (by decide))))
  have ne92 : b ≠ b84 := Nat.ne_of_lt (Nat.lt_of_lt_of_le E_b.lt (Nat.le_of_eq g84.symm))
  have f93 := ((V84.other W85 (Ne.symm ne92)).other W87 (Ne.symm ne92))
  refine own_fin (v := none) X87 (fun _ => rfl) hlk (fun fs hr => X87.returnOut hx hrt (hb hby d68_2_38) hr) (QQ := QNewSB Z b h0 n0) ?_ (by decide) (by decide)
  rw [e87]
  exact ⟨b84, _, rfl, N87, f88, (Nat.le_of_eq g84.symm), f89, Fw87, f90, f91, f93, ((Q84.wr W85).wr W87)⟩

abbrev k67_1 := jdk_67_method_1_code
theorem d67_1_0 : Dk k67_1 0 (.aload_n 0) 1 := own_k
theorem d67_1_1 : Dk k67_1 1 (.bipush 16) 2 := own_k
theorem d67_1_3 : Dk k67_1 3 (.invokespecial 1) 3 := own_k
theorem pd_8 : parseMethodDescriptor "(I)V" = some ⟨[.int], none⟩ := by decide +kernel
theorem d67_1_6 : Dk k67_1 6 .return_ 1 := own_k
theorem pn_3 : plainName "java/lang/StringBuilder" = true := by first | (simp [plainName, overriddenIn]; done) | decide +kernel
theorem ef_rm_sb (m : MethodId) (x0 : Addr) : entryFrame m #[(.ref x0)] 1 = mkF m 0 #[.val (.ref x0)] [] := by
   first | (simp [entryFrame, mkF, argsToLocals, Value.category]; done) | rfl
set_option maxRecDepth 65536 in
set_option maxHeartbeats 40000000 in
theorem rm_sb (l : Launch) (Z : State) (a0 : Array Value) (hw : ∀ d ∈ tables_1, d.before a0 Z = true) (ws : List Jvm.Cond) (b : Addr) (G1 : Int32) (h0 : Heap) (n0 : Nat) (O0 : Old Z n0 h0) (E_b : Exa Z h0 b "java/lang/StringBuilder") (Fv_b : Fld Z h0 b "java/lang/AbstractStringBuilder" "value" "[B" .null) (Fc_b : Fld Z h0 b "java/lang/AbstractStringBuilder" "coder" "B" (.int (0 : Int32))) (Fn_b : Fld Z h0 b "java/lang/AbstractStringBuilder" "count" "I" (.int (0 : Int32))) (Fm_b : Fld Z h0 b "java/lang/AbstractStringBuilder" "maybeLatin1" "Z" (.int (0 : Int32))) (g_b : n0 ≤ b) (O2 : Sta Z Z.heap "java/lang/String" "COMPACT_STRINGS" "Z" (.int G1)) (P5 : ¬ (G1 = (0 : Int32))) :
    MetFree l (⟨"java/lang/StringBuilder", "<init>", "()V"⟩ : MethodName) (head1 (Jvm.Cond.code (⟨"java/lang/StringBuilder", "<init>", "()V"⟩ : MethodName) jdk_67_method_1_code 1 none :: ws) ⟨2, 1, 16, 25⟩) (fun aA U => aA = #[(.ref b)] ∧ Z.Warmed39 U.vm ∧ U.heap = h0) (fun _ _ _ _ _ => True) (fun _ U oO U' => ∃ rV rL, oO = .returned rV ∧ QNewSB Z b h0 n0 rV U'.heap rL ∧ FrameEnd U oO U' rL 1 16) := by
  refine MetFree.of_bodySF (plainFor_of_name pn_3) hisR ?_
  intro p e s m args below meth cC s₁ Bd hml0 hP hK
  obtain ⟨rfl, hZ, hh⟩ := hP
  have hx := Bd.exec
  have hby := Bd.bytes
  have hml : cC.maxLocals = 1 := hml0
  have hown : s.vm.findClass "java/lang/StringBuilder" = some m.cls := findClass_of_methodNamed Bd.named
  have hnm := (name_of_methodNamed Bd.named Bd.method).1
  have hrt := Bd.returns
  have hlk : meth.locks = false := Bd.notSynchronized
  have X0 : Stand p l e ⟨2, 1, 16, 25⟩ s m #[(.ref b)] below meth cC s₁ [] 0 0 := Stand.of_body Bd
  have e0 : s₁.heap = h0 := by rw [← hh, Bd.state]; rfl
  have N0 := Fr.nil n0
  have Z0 : n0 ≤ h0.size := O0.1 ▸ O0.2.1
  show own_Go p e below (s₁.setTop (entryFrame m #[(.ref b)] 1)) (fun oO U' => ∃ rV rL, oO = .returned rV ∧ QNewSB Z b h0 n0 rV U'.heap rL ∧ FrameEnd s oO U' rL 1 16)
  refine own_go (fun _ k => castTop (ef_rm_sb m b) k) ?_
  refine og (fun _ k => XS.aloadN X0.here hx rfl (hb hby d67_1_0) rfl rfl k) ?_
  refine og (fun _ k => XS.bipush X0.here hx rfl (hb hby d67_1_1) k) ?_
  obtain ⟨v94, _, ⟨T94, L94, k94, n94⟩, -, X94, ⟨Lc94, hQ94, l94, y94, z94⟩, st94⟩ := X0.specialBack hx (y := (⟨"java/lang/AbstractStringBuilder", "<init>", "(I)V"⟩ : MethodName)) rfl hown (mvT hZ (tw hw 47 rfl)) (mvT hZ (tw hw 48 rfl)) (mvT hZ (tw hw 52 rfl)) (by decide) (backOf (W := 0) (rm_asb l Z a0 hw [] b G1 h0 n0 O0 E_b Fv_b Fc_b Fn_b Fm_b g_b O2 P5) hZ (tw hw 52 rfl) (tw hw 51 rfl) (by decide) (by decide)) (g := (mkF m 3 #[.val (.ref b)] [(.int (16 : Int32)), (.ref b)])) rfl (by rw [hml]; rfl) (Steps.refl _) (a := b) (argsL := [(.int (16 : Int32))]) (rest := []) (lenOf pd_8 rfl) rfl (by show 2 * 0 + _ ≤ _; exact Nat.le_of_eq rfl) (hb hby d67_1_3) (fun _ _ => ⟨rfl, e0, (by decide : 0 + 1 ≤ _), (by decide : 0 + 16 ≤ _)⟩)
  dsimp only [Pt.U, Pt.locs, Pt.cells, Pt.slots] at X94 l94 y94 z94 st94 hQ94
  subst l94 y94 z94
  refine own_gos st94 ?_
  obtain ⟨v94, kv94, rfl, Nq94, K94, vg94, Fv94, Fc94, Fn94, Fm94, Vv94, Xv94⟩ := hQ94
  have N94 := Fr.app N0 Nq94
  have f95 := ((Keep.refl h0 [b]).trans K94 (allS (Or.inl (List.mem_of_getElem? (i := 0) rfl)) all0))
  refine own_fin (v := none) X94 (fun _ => rfl) hlk (fun fs hr => X94.returnOut hx hrt (hb hby d67_1_6) hr) (QQ := QNewSB Z b h0 n0) ?_ (by decide) (by decide)
  exact ⟨v94, _, rfl, N94, f95, vg94, Fv94, Fc94, Fn94, Fm94, Vv94, Xv94⟩

abbrev k68_68 := jdk_68_method_68_code
theorem d68_68_0 : Dk k68_68 0 (.getstatic 18) 3 := own_k
theorem d68_68_3 : Dk k68_68 3 (.ifCond .eq 14) 3 := own_k
theorem d68_68_6 : Dk k68_68 6 (.aload_n 0) 1 := own_k
theorem d68_68_7 : Dk k68_68 7 (.getfield 22) 3 := own_k
theorem d68_68_10 : Dk k68_68 10 (.ifCond .ne 7) 3 := own_k
theorem d68_68_13 : Dk k68_68 13 (.iconst 1) 1 := own_k
theorem d68_68_14 : Dk k68_68 14 (.goto 4) 3 := own_k
theorem d68_68_18 : Dk k68_68 18 .ireturn 1 := own_k
theorem ef_rm_bl0 (m : MethodId) (x0 : Addr) : entryFrame m #[(.ref x0)] 1 = mkF m 0 #[.val (.ref x0)] [] := by
   first | (simp [entryFrame, mkF, argsToLocals, Value.category]; done) | rfl
set_option maxRecDepth 65536 in
set_option maxHeartbeats 40000000 in
theorem rm_bl0 (l : Launch) (Z : State) (a0 : Array Value) (hw : ∀ d ∈ tables_1, d.before a0 Z = true) (ws : List Jvm.Cond) (b : Addr) (G1 : Int32) (h0 : Heap) (n0 : Nat) (O0 : Old Z n0 h0) (E_b : Exa Z h0 b "java/lang/StringBuilder") (F_c : Fld Z h0 b "java/lang/AbstractStringBuilder" "coder" "B" (.int (0 : Int32))) (O2 : Sta Z Z.heap "java/lang/String" "COMPACT_STRINGS" "Z" (.int G1)) (P5 : ¬ (G1 = (0 : Int32))) :
    MetFree l (⟨"java/lang/AbstractStringBuilder", "isLatin1", "()Z"⟩ : MethodName) (head1 (Jvm.Cond.code (⟨"java/lang/AbstractStringBuilder", "isLatin1", "()Z"⟩ : MethodName) jdk_68_method_68_code 1 (some .boolean) :: ws) ⟨0, 0, 0, 0⟩) (fun aA U => aA = #[(.ref b)] ∧ Z.Warmed39 U.vm ∧ U.heap = h0) (fun _ _ _ _ _ => True) (fun _ U oO U' => ∃ rV rL, oO = .returned rV ∧ QPure (some (.int (1 : Int32))) h0 n0 rV U'.heap rL ∧ FrameEnd U oO U' rL 0 0) := by
  refine MetFree.of_bodySF (plainFor_of_name pn_2) hisR ?_
  intro p e s m args below meth cC s₁ Bd hml0 hP hK
  obtain ⟨rfl, hZ, hh⟩ := hP
  have hx := Bd.exec
  have hby := Bd.bytes
  have hml : cC.maxLocals = 1 := hml0
  have hown : s.vm.findClass "java/lang/AbstractStringBuilder" = some m.cls := findClass_of_methodNamed Bd.named
  have hnm := (name_of_methodNamed Bd.named Bd.method).1
  have hrt := Bd.returns
  have hlk : meth.locks = false := Bd.notSynchronized
  have X0 : Stand p l e ⟨0, 0, 0, 0⟩ s m #[(.ref b)] below meth cC s₁ [] 0 0 := Stand.of_body Bd
  have e0 : s₁.heap = h0 := by rw [← hh, Bd.state]; rfl
  have N0 := Fr.nil n0
  have Z0 : n0 ≤ h0.size := O0.1 ▸ O0.2.1
  show own_Go p e below (s₁.setTop (entryFrame m #[(.ref b)] 1)) (fun oO U' => ∃ rV rL, oO = .returned rV ∧ QPure (some (.int (1 : Int32))) h0 n0 rV U'.heap rL ∧ FrameEnd s oO U' rL 0 0)
  refine own_go (fun _ k => castTop (ef_rm_bl0 m b) k) ?_
  obtain ⟨T96, X96, e96, st96⟩ := getS2 X0 hx hZ hown (host := "") (Or.inl (tw hw 54 rfl)) Via.refl e0 (O2.ext O0.2) (g := (mkF m 0 #[.val (.ref b)] [])) rfl (hb hby d68_68_0)
  refine own_go st96 ?_
  refine og (fun _ k => XS.ifNo X96.here hx rfl (hb hby d68_68_3) rfl ((if0 _ _).trans (feq P5).1) k) ?_
  refine og (fun _ k => XS.aloadN X96.here hx rfl (hb hby d68_68_6) rfl rfl k) ?_
  obtain ⟨T97, X97, e97, st97⟩ := getF X96 hx hZ hown (host := "") (Or.inl (tw hw 57 rfl)) Via.refl e96 F_c (g := (mkF m 7 #[.val (.ref b)] [(.ref b)])) rfl rfl (hb hby d68_68_7)
  refine own_go st97 ?_
  try dsimp only [mkF]
  refine og (fun _ k => XS.ifNo X97.here hx rfl (hb hby d68_68_10) rfl ((if0 _ _).trans (teq (by decide : (0 : Int32) = (0 : Int32))).2) k) ?_
  refine og (fun _ k => XS.iconst X97.here hx rfl (hb hby d68_68_13) k) ?_
  refine og (fun _ k => XS.goto X97.here hx rfl (pc0 := 14) (pc' := 18) rfl (hb hby d68_68_14) (by decide) (by decide) k) ?_
  refine own_fin (v := (some (.int (nar .boolean (1 : Int32))))) X97 (fun h => by rw [hrt] at h; cases h) hlk (fun fs hr => retN X97 hx (t := .boolean) hrt (by simp) (hb hby d68_68_18) hr) (QQ := QPure (some (.int (1 : Int32))) h0 n0) ?_ (by decide) (by decide)
  rw [e97]
  exact ⟨rfl, N0, rfl⟩

theorem d68_68_17 : Dk k68_68 17 (.iconst 0) 1 := own_k
theorem ef_rm_bl1 (m : MethodId) (x0 : Addr) : entryFrame m #[(.ref x0)] 1 = mkF m 0 #[.val (.ref x0)] [] := by
   first | (simp [entryFrame, mkF, argsToLocals, Value.category]; done) | rfl
set_option maxRecDepth 65536 in
set_option maxHeartbeats 40000000 in
theorem rm_bl1 (l : Launch) (Z : State) (a0 : Array Value) (hw : ∀ d ∈ tables_1, d.before a0 Z = true) (ws : List Jvm.Cond) (b : Addr) (G1 : Int32) (h0 : Heap) (n0 : Nat) (O0 : Old Z n0 h0) (E_b : Exa Z h0 b "java/lang/StringBuilder") (F_c : Fld Z h0 b "java/lang/AbstractStringBuilder" "coder" "B" (.int (1 : Int32))) (O2 : Sta Z Z.heap "java/lang/String" "COMPACT_STRINGS" "Z" (.int G1)) (P5 : ¬ (G1 = (0 : Int32))) :
    MetFree l (⟨"java/lang/AbstractStringBuilder", "isLatin1", "()Z"⟩ : MethodName) (head1 (Jvm.Cond.code (⟨"java/lang/AbstractStringBuilder", "isLatin1", "()Z"⟩ : MethodName) jdk_68_method_68_code 1 (some .boolean) :: ws) ⟨0, 0, 0, 0⟩) (fun aA U => aA = #[(.ref b)] ∧ Z.Warmed39 U.vm ∧ U.heap = h0) (fun _ _ _ _ _ => True) (fun _ U oO U' => ∃ rV rL, oO = .returned rV ∧ QPure (some (.int (0 : Int32))) h0 n0 rV U'.heap rL ∧ FrameEnd U oO U' rL 0 0) := by
  refine MetFree.of_bodySF (plainFor_of_name pn_2) hisR ?_
  intro p e s m args below meth cC s₁ Bd hml0 hP hK
  obtain ⟨rfl, hZ, hh⟩ := hP
  have hx := Bd.exec
  have hby := Bd.bytes
  have hml : cC.maxLocals = 1 := hml0
  have hown : s.vm.findClass "java/lang/AbstractStringBuilder" = some m.cls := findClass_of_methodNamed Bd.named
  have hnm := (name_of_methodNamed Bd.named Bd.method).1
  have hrt := Bd.returns
  have hlk : meth.locks = false := Bd.notSynchronized
  have X0 : Stand p l e ⟨0, 0, 0, 0⟩ s m #[(.ref b)] below meth cC s₁ [] 0 0 := Stand.of_body Bd
  have e0 : s₁.heap = h0 := by rw [← hh, Bd.state]; rfl
  have N0 := Fr.nil n0
  have Z0 : n0 ≤ h0.size := O0.1 ▸ O0.2.1
  show own_Go p e below (s₁.setTop (entryFrame m #[(.ref b)] 1)) (fun oO U' => ∃ rV rL, oO = .returned rV ∧ QPure (some (.int (0 : Int32))) h0 n0 rV U'.heap rL ∧ FrameEnd s oO U' rL 0 0)
  refine own_go (fun _ k => castTop (ef_rm_bl1 m b) k) ?_
  obtain ⟨T98, X98, e98, st98⟩ := getS2 X0 hx hZ hown (host := "") (Or.inl (tw hw 54 rfl)) Via.refl e0 (O2.ext O0.2) (g := (mkF m 0 #[.val (.ref b)] [])) rfl (hb hby d68_68_0)
  refine own_go st98 ?_
  refine og (fun _ k => XS.ifNo X98.here hx rfl (hb hby d68_68_3) rfl ((if0 _ _).trans (feq P5).1) k) ?_
  refine og (fun _ k => XS.aloadN X98.here hx rfl (hb hby d68_68_6) rfl rfl k) ?_
  obtain ⟨T99, X99, e99, st99⟩ := getF X98 hx hZ hown (host := "") (Or.inl (tw hw 57 rfl)) Via.refl e98 F_c (g := (mkF m 7 #[.val (.ref b)] [(.ref b)])) rfl rfl (hb hby d68_68_7)
  refine own_go st99 ?_
  try dsimp only [mkF]
  refine og (fun _ k => XS.ifYes X99.here hx rfl (pc0 := 10) (pc' := 17) rfl (hb hby d68_68_10) rfl ((if0 _ _).trans (feq (by decide : ¬ ((1 : Int32) = (0 : Int32)))).2) (by decide) (by decide) k) ?_
  refine og (fun _ k => XS.iconst X99.here hx rfl (hb hby d68_68_17) k) ?_
  refine own_fin (v := (some (.int (nar .boolean (0 : Int32))))) X99 (fun h => by rw [hrt] at h; cases h) hlk (fun fs hr => retN X99 hx (t := .boolean) hrt (by simp) (hb hby d68_68_18) hr) (QQ := QPure (some (.int (0 : Int32))) h0 n0) ?_ (by decide) (by decide)
  rw [e99]
  exact ⟨rfl, N0, rfl⟩

abbrev k68_64 := jdk_68_method_64_code
theorem d68_64_0 : Dk k68_64 0 (.aload_n 0) 1 := own_k
theorem d68_64_1 : Dk k68_64 1 (.getfield 15) 3 := own_k
theorem d68_64_4 : Dk k68_64 4 .areturn 1 := own_k
theorem ef_rm_gv (m : MethodId) (x0 : Addr) : entryFrame m #[(.ref x0)] 1 = mkF m 0 #[.val (.ref x0)] [] := by
   first | (simp [entryFrame, mkF, argsToLocals, Value.category]; done) | rfl
set_option maxRecDepth 65536 in
set_option maxHeartbeats 40000000 in
theorem rm_gv (l : Launch) (Z : State) (a0 : Array Value) (hw : ∀ d ∈ tables_1, d.before a0 Z = true) (ws : List Jvm.Cond) (b v : Addr) (h0 : Heap) (n0 : Nat) (O0 : Old Z n0 h0) (E_b : Exa Z h0 b "java/lang/StringBuilder") (F_v : Fld Z h0 b "java/lang/AbstractStringBuilder" "value" "[B" (.ref v)) :
    MetFree l (⟨"java/lang/AbstractStringBuilder", "getValue", "()[B"⟩ : MethodName) (head1 (Jvm.Cond.code (⟨"java/lang/AbstractStringBuilder", "getValue", "()[B"⟩ : MethodName) jdk_68_method_64_code 1 (some (.array .byte)) :: ws) ⟨0, 0, 0, 0⟩) (fun aA U => aA = #[(.ref b)] ∧ Z.Warmed39 U.vm ∧ U.heap = h0) (fun _ _ _ _ _ => True) (fun _ U oO U' => ∃ rV rL, oO = .returned rV ∧ QPure (some (.ref v)) h0 n0 rV U'.heap rL ∧ FrameEnd U oO U' rL 0 0) := by
  refine MetFree.of_bodySF (plainFor_of_name pn_2) hisR ?_
  intro p e s m args below meth cC s₁ Bd hml0 hP hK
  obtain ⟨rfl, hZ, hh⟩ := hP
  have hx := Bd.exec
  have hby := Bd.bytes
  have hml : cC.maxLocals = 1 := hml0
  have hown : s.vm.findClass "java/lang/AbstractStringBuilder" = some m.cls := findClass_of_methodNamed Bd.named
  have hnm := (name_of_methodNamed Bd.named Bd.method).1
  have hrt := Bd.returns
  have hlk : meth.locks = false := Bd.notSynchronized
  have X0 : Stand p l e ⟨0, 0, 0, 0⟩ s m #[(.ref b)] below meth cC s₁ [] 0 0 := Stand.of_body Bd
  have e0 : s₁.heap = h0 := by rw [← hh, Bd.state]; rfl
  have N0 := Fr.nil n0
  have Z0 : n0 ≤ h0.size := O0.1 ▸ O0.2.1
  show own_Go p e below (s₁.setTop (entryFrame m #[(.ref b)] 1)) (fun oO U' => ∃ rV rL, oO = .returned rV ∧ QPure (some (.ref v)) h0 n0 rV U'.heap rL ∧ FrameEnd s oO U' rL 0 0)
  refine own_go (fun _ k => castTop (ef_rm_gv m b) k) ?_
  refine og (fun _ k => XS.aloadN X0.here hx rfl (hb hby d68_64_0) rfl rfl k) ?_
  obtain ⟨T100, X100, e100, st100⟩ := getF X0 hx hZ hown (host := "") (Or.inl (tw hw 55 rfl)) Via.refl e0 F_v (g := (mkF m 1 #[.val (.ref b)] [(.ref b)])) rfl rfl (hb hby d68_64_1)
  refine own_go st100 ?_
  refine own_fin (v := (some (.ref v))) X100 (fun h => by rw [hrt] at h; cases h) hlk (fun fs hr => retR X100 hx hrt (by rfl) rfl rfl (hb hby d68_64_4) hr) (QQ := QPure (some (.ref v)) h0 n0) ?_ (by decide) (by decide)
  rw [e100]
  exact ⟨rfl, N0, rfl⟩

abbrev k68_6 := jdk_68_method_6_code
theorem d68_6_0 : Dk k68_6 0 (.aload_n 0) 1 := own_k
theorem d68_6_1 : Dk k68_6 1 (.getfield 79) 3 := own_k
theorem d68_6_4 : Dk k68_6 4 .ireturn 1 := own_k
theorem ef_rm_al (m : MethodId) (x0 : Addr) : entryFrame m #[(.ref x0)] 1 = mkF m 0 #[.val (.ref x0)] [] := by
   first | (simp [entryFrame, mkF, argsToLocals, Value.category]; done) | rfl
set_option maxRecDepth 65536 in
set_option maxHeartbeats 40000000 in
theorem rm_al (l : Launch) (Z : State) (a0 : Array Value) (hw : ∀ d ∈ tables_1, d.before a0 Z = true) (ws : List Jvm.Cond) (b : Addr) (mm : Int32) (h0 : Heap) (n0 : Nat) (O0 : Old Z n0 h0) (E_b : Exa Z h0 b "java/lang/StringBuilder") (F_n : Fld Z h0 b "java/lang/AbstractStringBuilder" "count" "I" (.int mm)) :
    MetFree l (⟨"java/lang/AbstractStringBuilder", "length", "()I"⟩ : MethodName) (head1 (Jvm.Cond.code (⟨"java/lang/AbstractStringBuilder", "length", "()I"⟩ : MethodName) jdk_68_method_6_code 1 (some .int) :: ws) ⟨0, 0, 0, 0⟩) (fun aA U => aA = #[(.ref b)] ∧ Z.Warmed39 U.vm ∧ U.heap = h0) (fun _ _ _ _ _ => True) (fun _ U oO U' => ∃ rV rL, oO = .returned rV ∧ QPure (some (.int mm)) h0 n0 rV U'.heap rL ∧ FrameEnd U oO U' rL 0 0) := by
  refine MetFree.of_bodySF (plainFor_of_name pn_2) hisR ?_
  intro p e s m args below meth cC s₁ Bd hml0 hP hK
  obtain ⟨rfl, hZ, hh⟩ := hP
  have hx := Bd.exec
  have hby := Bd.bytes
  have hml : cC.maxLocals = 1 := hml0
  have hown : s.vm.findClass "java/lang/AbstractStringBuilder" = some m.cls := findClass_of_methodNamed Bd.named
  have hnm := (name_of_methodNamed Bd.named Bd.method).1
  have hrt := Bd.returns
  have hlk : meth.locks = false := Bd.notSynchronized
  have X0 : Stand p l e ⟨0, 0, 0, 0⟩ s m #[(.ref b)] below meth cC s₁ [] 0 0 := Stand.of_body Bd
  have e0 : s₁.heap = h0 := by rw [← hh, Bd.state]; rfl
  have N0 := Fr.nil n0
  have Z0 : n0 ≤ h0.size := O0.1 ▸ O0.2.1
  show own_Go p e below (s₁.setTop (entryFrame m #[(.ref b)] 1)) (fun oO U' => ∃ rV rL, oO = .returned rV ∧ QPure (some (.int mm)) h0 n0 rV U'.heap rL ∧ FrameEnd s oO U' rL 0 0)
  refine own_go (fun _ k => castTop (ef_rm_al m b) k) ?_
  refine og (fun _ k => XS.aloadN X0.here hx rfl (hb hby d68_6_0) rfl rfl k) ?_
  obtain ⟨T101, X101, e101, st101⟩ := getF X0 hx hZ hown (host := "") (Or.inl (tw hw 80 rfl)) Via.refl e0 F_n (g := (mkF m 1 #[.val (.ref b)] [(.ref b)])) rfl rfl (hb hby d68_6_1)
  refine own_go st101 ?_
  refine own_fin (v := (some (.int mm))) X101 (fun h => by rw [hrt] at h; cases h) hlk (fun fs hr => retI X101 hx hrt (hb hby d68_6_4) hr) (QQ := QPure (some (.int mm)) h0 n0) ?_ (by decide) (by decide)
  rw [e101]
  exact ⟨rfl, N0, rfl⟩

abbrev k67_93 := jdk_67_method_93_code
theorem d67_93_0 : Dk k67_93 0 (.aload_n 0) 1 := own_k
theorem d67_93_1 : Dk k67_93 1 (.invokespecial 343) 3 := own_k
theorem pd_9 : parseMethodDescriptor "()I" = some ⟨[], some .int⟩ := by decide +kernel
theorem d67_93_4 : Dk k67_93 4 .ireturn 1 := own_k
theorem ef_rm_sl (m : MethodId) (x0 : Addr) : entryFrame m #[(.ref x0)] 1 = mkF m 0 #[.val (.ref x0)] [] := by
   first | (simp [entryFrame, mkF, argsToLocals, Value.category]; done) | rfl
set_option maxRecDepth 65536 in
set_option maxHeartbeats 40000000 in
theorem rm_sl (l : Launch) (Z : State) (a0 : Array Value) (hw : ∀ d ∈ tables_1, d.before a0 Z = true) (ws : List Jvm.Cond) (b : Addr) (mm : Int32) (h0 : Heap) (n0 : Nat) (O0 : Old Z n0 h0) (E_b : Exa Z h0 b "java/lang/StringBuilder") (F_n : Fld Z h0 b "java/lang/AbstractStringBuilder" "count" "I" (.int mm)) :
    MetFree l (⟨"java/lang/StringBuilder", "length", "()I"⟩ : MethodName) (head1 (Jvm.Cond.code (⟨"java/lang/StringBuilder", "length", "()I"⟩ : MethodName) jdk_67_method_93_code 1 (some .int) :: ws) ⟨1, 0, 0, 12⟩) (fun aA U => aA = #[(.ref b)] ∧ Z.Warmed39 U.vm ∧ U.heap = h0) (fun _ _ _ _ _ => True) (fun _ U oO U' => ∃ rV rL, oO = .returned rV ∧ QPure (some (.int mm)) h0 n0 rV U'.heap rL ∧ FrameEnd U oO U' rL 0 0) := by
  refine MetFree.of_bodySF (plainFor_of_name pn_3) hisR ?_
  intro p e s m args below meth cC s₁ Bd hml0 hP hK
  obtain ⟨rfl, hZ, hh⟩ := hP
  have hx := Bd.exec
  have hby := Bd.bytes
  have hml : cC.maxLocals = 1 := hml0
  have hown : s.vm.findClass "java/lang/StringBuilder" = some m.cls := findClass_of_methodNamed Bd.named
  have hnm := (name_of_methodNamed Bd.named Bd.method).1
  have hrt := Bd.returns
  have hlk : meth.locks = false := Bd.notSynchronized
  have X0 : Stand p l e ⟨1, 0, 0, 12⟩ s m #[(.ref b)] below meth cC s₁ [] 0 0 := Stand.of_body Bd
  have e0 : s₁.heap = h0 := by rw [← hh, Bd.state]; rfl
  have N0 := Fr.nil n0
  have Z0 : n0 ≤ h0.size := O0.1 ▸ O0.2.1
  show own_Go p e below (s₁.setTop (entryFrame m #[(.ref b)] 1)) (fun oO U' => ∃ rV rL, oO = .returned rV ∧ QPure (some (.int mm)) h0 n0 rV U'.heap rL ∧ FrameEnd s oO U' rL 0 0)
  refine own_go (fun _ k => castTop (ef_rm_sl m b) k) ?_
  refine og (fun _ k => XS.aloadN X0.here hx rfl (hb hby d67_93_0) rfl rfl k) ?_
  obtain ⟨v102, _, ⟨T102, L102, k102, n102⟩, -, X102, ⟨Lc102, hQ102, l102, y102, z102⟩, st102⟩ := superBack X0 hx hZ (y := (⟨"java/lang/AbstractStringBuilder", "length", "()I"⟩ : MethodName)) hown (tw hw 130 rfl) (own_same (tw hw 126 rfl) (tw hw 85 rfl) rfl (by decide)) (tw hw 126 rfl) (tw hw 67 rfl) (by decide) (backOf (W := 0) (rm_al l Z a0 hw [] b mm h0 n0 O0 E_b F_n) hZ (tw hw 131 rfl) (tw hw 51 rfl) (by decide) (by decide)) e0 (Ins.self E_b) (g := (mkF m 1 #[.val (.ref b)] [(.ref b)])) rfl (by rw [hml]; rfl) (tw hw 131 rfl) (argsL := []) (rest := []) (lenOf pd_9 rfl) rfl (by show 2 * 0 + _ ≤ _; exact Nat.le_of_eq rfl) (hb hby d67_93_1) (fun _ _ => ⟨rfl, e0, (by decide : 0 + 0 ≤ _), (by decide : 0 + 0 ≤ _)⟩)
  dsimp only [Pt.U, Pt.locs, Pt.cells, Pt.slots] at X102 l102 y102 z102 st102 hQ102
  subst l102 y102 z102
  refine own_gos st102 ?_
  obtain ⟨rfl, Nq102, e102⟩ := hQ102
  have N102 := Fr.app N0 Nq102
  refine own_fin (v := (some (.int mm))) X102 (fun h => by rw [hrt] at h; cases h) hlk (fun fs hr => retI X102 hx hrt (hb hby d67_93_4) hr) (QQ := QPure (some (.int mm)) h0 n0) ?_ (by decide) (by decide)
  rw [e102]
  exact ⟨rfl, N102, rfl⟩

abbrev k41_13 := jdk_41_method_13_code
theorem d41_13_0 : Dk k41_13 0 (.iload_n 2) 1 := own_k
theorem d41_13_1 : Dk k41_13 1 (.iload_n 0) 1 := own_k
theorem d41_13_2 : Dk k41_13 2 .ior 1 := own_k
theorem d41_13_3 : Dk k41_13 3 (.iload_n 1) 1 := own_k
theorem d41_13_4 : Dk k41_13 4 .ior 1 := own_k
theorem d41_13_5 : Dk k41_13 5 (.ifCond .lt 10) 3 := own_k
theorem d41_13_8 : Dk k41_13 8 (.iload_n 1) 1 := own_k
theorem d41_13_9 : Dk k41_13 9 (.iload_n 2) 1 := own_k
theorem d41_13_10 : Dk k41_13 10 (.iload_n 0) 1 := own_k
theorem d41_13_11 : Dk k41_13 11 .isub 1 := own_k
theorem d41_13_12 : Dk k41_13 12 (.if_icmp .le 11) 3 := own_k
theorem d41_13_23 : Dk k41_13 23 (.iload_n 0) 1 := own_k
theorem d41_13_24 : Dk k41_13 24 .ireturn 1 := own_k
theorem pn_4 : plainName "jdk/internal/util/Preconditions" = true := by first | (simp [plainName, overriddenIn]; done) | decide +kernel
theorem ef_rm_cfs (m : MethodId) (x0 : Int32) (x1 : Int32) (x2 : Int32) (f4 : Value) (r_f4 : f4.isRef = true) : entryFrame m #[(.int x0), (.int x1), (.int x2), f4] 4 = mkF m 0 #[.val (.int x0), .val (.int x1), .val (.int x2), .val f4] [] := by
  cases f4 <;> first | (cases r_f4; done) | skip
  all_goals  first | (simp [entryFrame, mkF, argsToLocals, Value.category]; done) | rfl
set_option maxRecDepth 65536 in
set_option maxHeartbeats 40000000 in
theorem rm_cfs (l : Launch) (Z : State) (a0 : Array Value) (hw : ∀ d ∈ tables_1, d.before a0 Z = true) (ws : List Jvm.Cond) (p1 p2 p3 : Int32) (f4 : Value) (h0 : Heap) (n0 : Nat) (O0 : Old Z n0 h0) (r4 : f4.isRef = true) (q1 : ¬ ((p3 ||| p1) ||| p2) < (0 : Int32)) (q2 : ¬ (p3 - p1) < p2) :
    MetFree l (⟨"jdk/internal/util/Preconditions", "checkFromIndexSize", "(IIILjava/util/function/BiFunction;)I"⟩ : MethodName) (head1 (Jvm.Cond.code (⟨"jdk/internal/util/Preconditions", "checkFromIndexSize", "(IIILjava/util/function/BiFunction;)I"⟩ : MethodName) jdk_41_method_13_code 4 (some .int) :: ws) ⟨0, 0, 0, 0⟩) (fun aA U => aA = #[(.int p1), (.int p2), (.int p3), f4] ∧ Z.Warmed39 U.vm ∧ U.heap = h0) (fun _ _ _ _ _ => True) (fun _ U oO U' => ∃ rV rL, oO = .returned rV ∧ QPure (some (.int p1)) h0 n0 rV U'.heap rL ∧ FrameEnd U oO U' rL 0 0) := by
  refine MetFree.of_bodySF (plainFor_of_name pn_4) hisR ?_
  intro p e s m args below meth cC s₁ Bd hml0 hP hK
  obtain ⟨rfl, hZ, hh⟩ := hP
  have hx := Bd.exec
  have hby := Bd.bytes
  have hml : cC.maxLocals = 4 := hml0
  have hown : s.vm.findClass "jdk/internal/util/Preconditions" = some m.cls := findClass_of_methodNamed Bd.named
  have hnm := (name_of_methodNamed Bd.named Bd.method).1
  have hrt := Bd.returns
  have hlk : meth.locks = false := Bd.notSynchronized
  have X0 : Stand p l e ⟨0, 0, 0, 0⟩ s m #[(.int p1), (.int p2), (.int p3), f4] below meth cC s₁ [] 0 0 := Stand.of_body Bd
  have e0 : s₁.heap = h0 := by rw [← hh, Bd.state]; rfl
  have N0 := Fr.nil n0
  have Z0 : n0 ≤ h0.size := O0.1 ▸ O0.2.1
  show own_Go p e below (s₁.setTop (entryFrame m #[(.int p1), (.int p2), (.int p3), f4] 4)) (fun oO U' => ∃ rV rL, oO = .returned rV ∧ QPure (some (.int p1)) h0 n0 rV U'.heap rL ∧ FrameEnd s oO U' rL 0 0)
  refine own_go (fun _ k => castTop (ef_rm_cfs m p1 p2 p3 f4 r4) k) ?_
  refine og (fun _ k => XS.iloadN X0.here hx rfl (hb hby d41_13_0) rfl k) ?_
  refine og (fun _ k => XS.iloadN X0.here hx rfl (hb hby d41_13_1) rfl k) ?_
  refine og (fun _ k => XS.ior X0.here hx rfl (hb hby d41_13_2) rfl k) ?_
  refine og (fun _ k => XS.iloadN X0.here hx rfl (hb hby d41_13_3) rfl k) ?_
  try dsimp only [mkF]
  refine og (fun _ k => XS.ior X0.here hx rfl (hb hby d41_13_4) rfl k) ?_
  refine og (fun _ k => XS.ifNo X0.here hx rfl (hb hby d41_13_5) rfl ((if0 _ _).trans (flt q1).1) k) ?_
  refine og (fun _ k => XS.iloadN X0.here hx rfl (hb hby d41_13_8) rfl k) ?_
  refine og (fun _ k => XS.iloadN X0.here hx rfl (hb hby d41_13_9) rfl k) ?_
  refine og (fun _ k => XS.iloadN X0.here hx rfl (hb hby d41_13_10) rfl k) ?_
  try dsimp only [mkF]
  refine og (fun _ k => XS.isub X0.here hx rfl (hb hby d41_13_11) rfl k) ?_
  refine og (fun _ k => XS.icmpYes X0.here hx rfl (pc0 := 12) (pc' := 23) rfl (hb hby d41_13_12) rfl (flt q2).2.2.2 (by decide) (by decide) k) ?_
  refine og (fun _ k => XS.iloadN X0.here hx rfl (hb hby d41_13_23) rfl k) ?_
  refine own_fin (v := (some (.int p1))) X0 (fun h => by rw [hrt] at h; cases h) hlk (fun fs hr => retI X0 hx hrt (hb hby d41_13_24) hr) (QQ := QPure (some (.int p1)) h0 n0) ?_ (by decide) (by decide)
  rw [e0]
  exact ⟨rfl, N0, rfl⟩

abbrev k42_157 := jdk_42_method_157_code
theorem d42_157_0 : Dk k42_157 0 (.iload_n 0) 1 := own_k
theorem d42_157_1 : Dk k42_157 1 (.iload_n 1) 1 := own_k
theorem d42_157_2 : Dk k42_157 2 (.iload_n 2) 1 := own_k
theorem d42_157_3 : Dk k42_157 3 (.getstatic 1053) 3 := own_k
theorem d42_157_6 : Dk k42_157 6 (.invokestatic 1065) 3 := own_k
theorem pd_10 : parseMethodDescriptor "(IIILjava/util/function/BiFunction;)I" = some ⟨[.int, .int, .int, (.object "java/util/function/BiFunction")], some .int⟩ := by decide +kernel
theorem d42_157_9 : Dk k42_157 9 .ireturn 1 := own_k
theorem ef_rm_cbo (m : MethodId) (x0 : Int32) (x1 : Int32) (x2 : Int32) : entryFrame m #[(.int x0), (.int x1), (.int x2)] 3 = mkF m 0 #[.val (.int x0), .val (.int x1), .val (.int x2)] [] := by
   first | (simp [entryFrame, mkF, argsToLocals, Value.category]; done) | rfl
set_option maxRecDepth 65536 in
set_option maxHeartbeats 40000000 in
theorem rm_cbo (l : Launch) (Z : State) (a0 : Array Value) (hw : ∀ d ∈ tables_1, d.before a0 Z = true) (ws : List Jvm.Cond) (p1 p2 p3 : Int32) (G3 : Value) (h0 : Heap) (n0 : Nat) (O0 : Old Z n0 h0) (O4 : Sta Z Z.heap "jdk/internal/util/Preconditions" "SIOOBE_FORMATTER" "Ljava/util/function/BiFunction;" G3) (rG3 : G3.isRef = true) (q1 : ¬ ((p3 ||| p1) ||| p2) < (0 : Int32)) (q2 : ¬ (p3 - p1) < p2) :
    MetFree l (⟨"java/lang/String", "checkBoundsOffCount", "(III)I"⟩ : MethodName) (head1 (Jvm.Cond.code (⟨"java/lang/String", "checkBoundsOffCount", "(III)I"⟩ : MethodName) jdk_42_method_157_code 3 (some .int) :: ws) ⟨1, 0, 0, 15⟩) (fun aA U => aA = #[(.int p1), (.int p2), (.int p3)] ∧ Z.Warmed39 U.vm ∧ U.heap = h0) (fun _ _ _ _ _ => True) (fun _ U oO U' => ∃ rV rL, oO = .returned rV ∧ QPure (some (.int p1)) h0 n0 rV U'.heap rL ∧ FrameEnd U oO U' rL 0 0) := by
  refine MetFree.of_bodySF (plainFor_of_name pn_0) hisR ?_
  intro p e s m args below meth cC s₁ Bd hml0 hP hK
  obtain ⟨rfl, hZ, hh⟩ := hP
  have hx := Bd.exec
  have hby := Bd.bytes
  have hml : cC.maxLocals = 3 := hml0
  have hown : s.vm.findClass "java/lang/String" = some m.cls := findClass_of_methodNamed Bd.named
  have hnm := (name_of_methodNamed Bd.named Bd.method).1
  have hrt := Bd.returns
  have hlk : meth.locks = false := Bd.notSynchronized
  have X0 : Stand p l e ⟨1, 0, 0, 15⟩ s m #[(.int p1), (.int p2), (.int p3)] below meth cC s₁ [] 0 0 := Stand.of_body Bd
  have e0 : s₁.heap = h0 := by rw [← hh, Bd.state]; rfl
  have N0 := Fr.nil n0
  have Z0 : n0 ≤ h0.size := O0.1 ▸ O0.2.1
  show own_Go p e below (s₁.setTop (entryFrame m #[(.int p1), (.int p2), (.int p3)] 3)) (fun oO U' => ∃ rV rL, oO = .returned rV ∧ QPure (some (.int p1)) h0 n0 rV U'.heap rL ∧ FrameEnd s oO U' rL 0 0)
  refine own_go (fun _ k => castTop (ef_rm_cbo m p1 p2 p3) k) ?_
  refine og (fun _ k => XS.iloadN X0.here hx rfl (hb hby d42_157_0) rfl k) ?_
  refine og (fun _ k => XS.iloadN X0.here hx rfl (hb hby d42_157_1) rfl k) ?_
  refine og (fun _ k => XS.iloadN X0.here hx rfl (hb hby d42_157_2) rfl k) ?_
  obtain ⟨T103, X103, e103, st103⟩ := getS2 X0 hx hZ hown (host := "") (Or.inl (tw hw 283 rfl)) Via.refl e0 (O4.ext O0.2) (g := (mkF m 3 #[.val (.int p1), .val (.int p2), .val (.int p3)] [(.int p3), (.int p2), (.int p1)])) rfl (hb hby d42_157_3)
  refine own_go st103 ?_
  try dsimp only [mkF]
  obtain ⟨v104, _, ⟨T104, L104, k104, n104⟩, -, X104, ⟨Lc104, hQ104, l104, y104, z104⟩, st104⟩ := Jvm.LawKit.callS X103 hx (y := (⟨"jdk/internal/util/Preconditions", "checkFromIndexSize", "(IIILjava/util/function/BiFunction;)I"⟩ : MethodName)) hown (mvT hZ (tw hw 285 rfl)) (mvT hZ (tw hw 286 rfl)) (mvT hZ (tw hw 284 rfl)) (mvT hZ (tw hw 287 rfl)) (by decide) (backOf (W := 0) (rm_cfs l Z a0 hw [] p1 p2 p3 G3 h0 n0 O0 rG3 q1 q2) hZ (tw hw 287 rfl) (tw hw 284 rfl) (by decide) (by decide)) (g := (mkF m 6 #[.val (.int p1), .val (.int p2), .val (.int p3)] [G3, (.int p3), (.int p2), (.int p1)])) rfl (by rw [hml]; rfl) (argsL := [(.int p1), (.int p2), (.int p3), G3]) (rest := []) (lenOf pd_10 rfl) rfl (by show 2 * 0 + _ ≤ _; exact Nat.le_of_eq rfl) (hb hby d42_157_6) (fun _ _ => ⟨rfl, e103, (by decide : 0 + 0 ≤ _), (by decide : 0 + 0 ≤ _)⟩)
  dsimp only [Pt.U, Pt.locs, Pt.cells, Pt.slots] at X104 l104 y104 z104 st104 hQ104
  subst l104 y104 z104
  refine own_go st104 ?_
  obtain ⟨rfl, Nq104, e104⟩ := hQ104
  have N104 := Fr.app N0 Nq104
  refine own_fin (v := (some (.int p1))) X104 (fun h => by rw [hrt] at h; cases h) hlk (fun fs hr => retI X104 hx hrt (hb hby d42_157_9) hr) (QQ := QPure (some (.int p1)) h0 n0) ?_ (by decide) (by decide)
  rw [e104]
  exact ⟨rfl, N104, rfl⟩

abbrev k52_6 := jdk_52_method_6_code
theorem d52_6_0 : Dk k52_6 0 (.aload_n 0) 1 := own_k
theorem d52_6_1 : Dk k52_6 1 .arraylength 1 := own_k
theorem d52_6_2 : Dk k52_6 2 (.iconst 1) 1 := own_k
theorem d52_6_3 : Dk k52_6 3 .ishr 1 := own_k
theorem d52_6_4 : Dk k52_6 4 .ireturn 1 := own_k
theorem ef_rm_wln (m : MethodId) (x0 : Addr) : entryFrame m #[(.ref x0)] 1 = mkF m 0 #[.val (.ref x0)] [] := by
   first | (simp [entryFrame, mkF, argsToLocals, Value.category]; done) | rfl
set_option maxRecDepth 65536 in
set_option maxHeartbeats 40000000 in
theorem rm_wln (l : Launch) (Z : State) (a0 : Array Value) (hw : ∀ d ∈ tables_1, d.before a0 Z = true) (ws : List Jvm.Cond) (t : Addr) (k : ClassId) (N : Nat) (vs : List Value) (h0 : Heap) (n0 : Nat) (O0 : Old Z n0 h0) (V_t : Arv Z h0 t k .byte (Int32.ofNat (2 * N)) vs (.int (0 : Int32))) (hN : N ≤ 4000) :
    MetFree l (⟨"java/lang/StringUTF16", "length", "([B)I"⟩ : MethodName) (head1 (Jvm.Cond.code (⟨"java/lang/StringUTF16", "length", "([B)I"⟩ : MethodName) jdk_52_method_6_code 1 (some .int) :: ws) ⟨0, 0, 0, 0⟩) (fun aA U => aA = #[(.ref t)] ∧ Z.Warmed39 U.vm ∧ U.heap = h0) (fun _ _ _ _ _ => True) (fun _ U oO U' => ∃ rV rL, oO = .returned rV ∧ QPure (some (.int (Int32.ofNat N))) h0 n0 rV U'.heap rL ∧ FrameEnd U oO U' rL 0 0) := by
  refine MetFree.of_bodySF (plainFor_of_name pn_1) hisR ?_
  intro p e s m args below meth cC s₁ Bd hml0 hP hK
  obtain ⟨rfl, hZ, hh⟩ := hP
  have hx := Bd.exec
  have hby := Bd.bytes
  have hml : cC.maxLocals = 1 := hml0
  have hown : s.vm.findClass "java/lang/StringUTF16" = some m.cls := findClass_of_methodNamed Bd.named
  have hnm := (name_of_methodNamed Bd.named Bd.method).1
  have hrt := Bd.returns
  have hlk : meth.locks = false := Bd.notSynchronized
  have X0 : Stand p l e ⟨0, 0, 0, 0⟩ s m #[(.ref t)] below meth cC s₁ [] 0 0 := Stand.of_body Bd
  have e0 : s₁.heap = h0 := by rw [← hh, Bd.state]; rfl
  have N0 := Fr.nil n0
  have Z0 : n0 ≤ h0.size := O0.1 ▸ O0.2.1
  show own_Go p e below (s₁.setTop (entryFrame m #[(.ref t)] 1)) (fun oO U' => ∃ rV rL, oO = .returned rV ∧ QPure (some (.int (Int32.ofNat N))) h0 n0 rV U'.heap rL ∧ FrameEnd s oO U' rL 0 0)
  refine own_go (fun _ k => castTop (ef_rm_wln m t) k) ?_
  refine og (fun _ k => XS.aloadN X0.here hx rfl (hb hby d52_6_0) rfl rfl k) ?_
  obtain ⟨c105, A105, q105, S105, M105, Hs105, Gs105⟩ := id V_t
  refine og (fun _ k => X0.arraylength hx (by rw [e0]; exact A105.1) (State.isArrayOf_alike hZ.alike A105.2.1) (g := (mkF m 1 #[.val (.ref t)] [(.ref t)])) rfl rfl (hb hby d52_6_1) _ k) ?_
  rw [len_of S105 M105]
  refine og (fun _ k => XS.iconst X0.here hx rfl (hb hby d52_6_2) k) ?_
  refine og (fun _ k => XS.ishr X0.here hx rfl (hb hby d52_6_3) rfl k) ?_
  try dsimp only [mkF]
  refine own_fin (v := (some (.int ((Int32.ofNat (2 * N)) >>> ((1 : Int32) &&& 31))))) X0 (fun h => by rw [hrt] at h; cases h) hlk (fun fs hr => retI X0 hx hrt (hb hby d52_6_4) hr) (QQ := QPure (some (.int (Int32.ofNat N))) h0 n0) ?_ (by decide) (by decide)
  rw [e0]
  exact ⟨congrArg (fun z => some (Value.int z)) (StrChars.shr1 (by omega : 2 * N < 2 ^ 31)), N0, rfl⟩

abbrev k52_94 := jdk_52_method_94_code
theorem d52_94_0 : Dk k52_94 0 (.iload_n 0) 1 := own_k
theorem d52_94_1 : Dk k52_94 1 (.iload_n 1) 1 := own_k
theorem d52_94_2 : Dk k52_94 2 (.aload_n 2) 1 := own_k
theorem d52_94_3 : Dk k52_94 3 (.invokestatic 48) 3 := own_k
theorem pd_11 : parseMethodDescriptor "([B)I" = some ⟨[(.array .byte)], some .int⟩ := by decide +kernel
theorem d52_94_6 : Dk k52_94 6 (.invokestatic 419) 3 := own_k
theorem pd_12 : parseMethodDescriptor "(III)I" = some ⟨[.int, .int, .int], some .int⟩ := by decide +kernel
theorem d52_94_9 : Dk k52_94 9 .pop 1 := own_k
theorem d52_94_10 : Dk k52_94 10 .return_ 1 := own_k
theorem ef_rm_wbo (m : MethodId) (x0 : Int32) (x1 : Int32) (x2 : Addr) : entryFrame m #[(.int x0), (.int x1), (.ref x2)] 3 = mkF m 0 #[.val (.int x0), .val (.int x1), .val (.ref x2)] [] := by
   first | (simp [entryFrame, mkF, argsToLocals, Value.category]; done) | rfl
set_option maxRecDepth 65536 in
set_option maxHeartbeats 40000000 in
theorem rm_wbo (l : Launch) (Z : State) (a0 : Array Value) (hw : ∀ d ∈ tables_1, d.before a0 Z = true) (ws : List Jvm.Cond) (t : Addr) (k : ClassId) (N : Nat) (vs : List Value) (i j : Nat) (G3 : Value) (h0 : Heap) (n0 : Nat) (O0 : Old Z n0 h0) (O4 : Sta Z Z.heap "jdk/internal/util/Preconditions" "SIOOBE_FORMATTER" "Ljava/util/function/BiFunction;" G3) (rG3 : G3.isRef = true) (V_t : Arv Z h0 t k .byte (Int32.ofNat (2 * N)) vs (.int (0 : Int32))) (hN : N ≤ 4000) (hi : i + j ≤ N) :
    MetFree l (⟨"java/lang/StringUTF16", "checkBoundsOffCount", "(II[B)V"⟩ : MethodName) (head1 (Jvm.Cond.code (⟨"java/lang/StringUTF16", "checkBoundsOffCount", "(II[B)V"⟩ : MethodName) jdk_52_method_94_code 3 none :: ws) ⟨2, 0, 0, 29⟩) (fun aA U => aA = #[(.int (Int32.ofNat i)), (.int (Int32.ofNat j)), (.ref t)] ∧ Z.Warmed39 U.vm ∧ U.heap = h0) (fun _ _ _ _ _ => True) (fun _ U oO U' => ∃ rV rL, oO = .returned rV ∧ QPure (none) h0 n0 rV U'.heap rL ∧ FrameEnd U oO U' rL 0 0) := by
  refine MetFree.of_bodySF (plainFor_of_name pn_1) hisR ?_
  intro p e s m args below meth cC s₁ Bd hml0 hP hK
  obtain ⟨rfl, hZ, hh⟩ := hP
  have hx := Bd.exec
  have hby := Bd.bytes
  have hml : cC.maxLocals = 3 := hml0
  have hown : s.vm.findClass "java/lang/StringUTF16" = some m.cls := findClass_of_methodNamed Bd.named
  have hnm := (name_of_methodNamed Bd.named Bd.method).1
  have hrt := Bd.returns
  have hlk : meth.locks = false := Bd.notSynchronized
  have X0 : Stand p l e ⟨2, 0, 0, 29⟩ s m #[(.int (Int32.ofNat i)), (.int (Int32.ofNat j)), (.ref t)] below meth cC s₁ [] 0 0 := Stand.of_body Bd
  have e0 : s₁.heap = h0 := by rw [← hh, Bd.state]; rfl
  have N0 := Fr.nil n0
  have Z0 : n0 ≤ h0.size := O0.1 ▸ O0.2.1
  show own_Go p e below (s₁.setTop (entryFrame m #[(.int (Int32.ofNat i)), (.int (Int32.ofNat j)), (.ref t)] 3)) (fun oO U' => ∃ rV rL, oO = .returned rV ∧ QPure (none) h0 n0 rV U'.heap rL ∧ FrameEnd s oO U' rL 0 0)
  refine own_go (fun _ k => castTop (ef_rm_wbo m _ _ t) k) ?_
  refine og (fun _ k => XS.iloadN X0.here hx rfl (hb hby d52_94_0) rfl k) ?_
  refine og (fun _ k => XS.iloadN X0.here hx rfl (hb hby d52_94_1) rfl k) ?_
  refine og (fun _ k => XS.aloadN X0.here hx rfl (hb hby d52_94_2) rfl rfl k) ?_
  obtain ⟨v106, _, ⟨T106, L106, k106, n106⟩, -, X106, ⟨Lc106, hQ106, l106, y106, z106⟩, st106⟩ := Jvm.LawKit.callS X0 hx (y := (⟨"java/lang/StringUTF16", "length", "([B)I"⟩ : MethodName)) hown (mvT hZ (tw hw 277 rfl)) (mvT hZ (tw hw 278 rfl)) (mvT hZ (tw hw 26 rfl)) (mvT hZ (tw hw 279 rfl)) (by decide) (backOf (W := 2) (rm_wln l Z a0 hw [] t k N vs h0 n0 O0 V_t hN) hZ (tw hw 279 rfl) (tw hw 26 rfl) (by decide) (by decide)) (g := (mkF m 3 #[.val (.int (Int32.ofNat i)), .val (.int (Int32.ofNat j)), .val (.ref t)] [(.ref t), (.int (Int32.ofNat j)), (.int (Int32.ofNat i))])) rfl (by rw [hml]; rfl) (argsL := [(.ref t)]) (rest := [(.int (Int32.ofNat j)), (.int (Int32.ofNat i))]) (lenOf pd_11 rfl) rfl (by show 2 * 0 + _ ≤ _; exact Nat.le_of_eq rfl) (hb hby d52_94_3) (fun _ _ => ⟨rfl, e0, (by decide : 0 + 0 ≤ _), (by decide : 0 + 0 ≤ _)⟩)
  dsimp only [Pt.U, Pt.locs, Pt.cells, Pt.slots] at X106 l106 y106 z106 st106 hQ106
  subst l106 y106 z106
  refine own_go st106 ?_
  obtain ⟨rfl, Nq106, e106⟩ := hQ106
  have N106 := Fr.app N0 Nq106
  try dsimp only [mkF]
  obtain ⟨v107, _, ⟨T107, L107, k107, n107⟩, -, X107, ⟨Lc107, hQ107, l107, y107, z107⟩, st107⟩ := Jvm.LawKit.callS X106 hx (y := (⟨"java/lang/String", "checkBoundsOffCount", "(III)I"⟩ : MethodName)) hown (mvT hZ (tw hw 280 rfl)) (mvT hZ (tw hw 281 rfl)) (mvT hZ (tw hw 3 rfl)) (mvT hZ (tw hw 282 rfl)) (by decide) (backOf (W := 0) (rm_cbo l Z a0 hw [] (Int32.ofNat i) (Int32.ofNat j) (Int32.ofNat N) G3 h0 n0 O0 O4 rG3 (own_or3 (by omega) (by omega) (by omega)) (own_room3 hi (by omega))) hZ (tw hw 282 rfl) (tw hw 3 rfl) (by decide) (by decide)) (g := (mkF m 6 #[.val (.int (Int32.ofNat i)), .val (.int (Int32.ofNat j)), .val (.ref t)] [(.int (Int32.ofNat N)), (.int (Int32.ofNat j)), (.int (Int32.ofNat i))])) rfl (by rw [hml]; rfl) (argsL := [(.int (Int32.ofNat i)), (.int (Int32.ofNat j)), (.int (Int32.ofNat N))]) (rest := []) (lenOf pd_12 rfl) rfl (by show 2 * 0 + _ ≤ _; exact Nat.le_of_eq rfl) (hb hby d52_94_6) (fun _ _ => ⟨rfl, e106, (by decide : 0 + 0 ≤ _), (by decide : 0 + 0 ≤ _)⟩)
  dsimp only [Pt.U, Pt.locs, Pt.cells, Pt.slots] at X107 l107 y107 z107 st107 hQ107
  subst l107 y107 z107
  refine own_go st107 ?_
  obtain ⟨rfl, Nq107, e107⟩ := hQ107
  have N107 := Fr.app N106 Nq107
  refine og (fun _ k => XS.pop X107.here hx rfl (hb hby d52_94_9) rfl rfl k) ?_
  refine own_fin (v := none) X107 (fun _ => rfl) hlk (fun fs hr => X107.returnOut hx hrt (hb hby d52_94_10) hr) (QQ := QPure (none) h0 n0) ?_ (by decide) (by decide)
  rw [e107]
  exact ⟨rfl, N107, rfl⟩

abbrev k52_86 := jdk_52_method_86_code
theorem d52_86_0 : Dk k52_86 0 (.iload_n 3) 1 := own_k
theorem d52_86_1 : Dk k52_86 1 (.iload 4) 2 := own_k
theorem d52_86_3 : Dk k52_86 3 (.aload_n 2) 1 := own_k
theorem d52_86_4 : Dk k52_86 4 (.invokestatic 173) 3 := own_k
theorem pd_13 : parseMethodDescriptor "(II[B)V" = some ⟨[.int, .int, (.array .byte)], none⟩ := by decide +kernel
theorem d52_86_7 : Dk k52_86 7 (.iconst 0) 1 := own_k
theorem d52_86_8 : Dk k52_86 8 (.istore 5) 2 := own_k
theorem d52_86_10 : Dk k52_86 10 (.iload 5) 2 := own_k
theorem d52_86_12 : Dk k52_86 12 (.iload 4) 2 := own_k
theorem d52_86_14 : Dk k52_86 14 (.if_icmp .ge 27) 3 := own_k
theorem d52_86_41 : Dk k52_86 41 .return_ 1 := own_k
theorem d52_86_17 : Dk k52_86 17 (.aload_n 2) 1 := own_k
theorem d52_86_18 : Dk k52_86 18 (.iload_n 3) 1 := own_k
theorem d52_86_19 : Dk k52_86 19 (.iinc 3 1) 3 := own_k
theorem d52_86_22 : Dk k52_86 22 (.aload_n 0) 1 := own_k
theorem d52_86_23 : Dk k52_86 23 (.iload_n 1) 1 := own_k
theorem d52_86_24 : Dk k52_86 24 (.iinc 1 1) 3 := own_k
theorem d52_86_27 : Dk k52_86 27 .baload 1 := own_k
theorem d52_86_28 : Dk k52_86 28 (.sipush 255) 3 := own_k
theorem d52_86_31 : Dk k52_86 31 .iand 1 := own_k
theorem d52_86_32 : Dk k52_86 32 (.invokestatic 111) 3 := own_k
theorem d52_86_35 : Dk k52_86 35 (.iinc 5 1) 3 := own_k
theorem d52_86_38 : Dk k52_86 38 (.goto (-28)) 3 := own_k
theorem ef_rm_inf (m : MethodId) (x0 : Addr) (x1 : Int32) (x2 : Addr) (x3 : Int32) (x4 : Int32) : entryFrame m #[(.ref x0), (.int x1), (.ref x2), (.int x3), (.int x4)] 6 = mkF m 0 #[.val (.ref x0), .val (.int x1), .val (.ref x2), .val (.int x3), .val (.int x4), .unset] [] := by
   first | (simp [entryFrame, mkF, argsToLocals, Value.category]; done) | rfl
set_option maxRecDepth 65536 in
set_option maxHeartbeats 40000000 in
theorem rm_inf (l : Launch) (Z : State) (a0 : Array Value) (hw : ∀ d ∈ tables_1, d.before a0 Z = true) (ws : List Jvm.Cond) (sr : Addr) (ks : ClassId) (Ns : Nat) (ss : List Value) (d : Addr) (kd : ClassId) (Nd : Nat) (ds cs : List Int32) (G3 : Value) (h0 : Heap) (n0 : Nat) (O0 : Old Z n0 h0) (O4 : Sta Z Z.heap "jdk/internal/util/Preconditions" "SIOOBE_FORMATTER" "Ljava/util/function/BiFunction;" G3) (rG3 : G3.isRef = true) (OA : Sta Z Z.heap "java/lang/StringUTF16" "$assertionsDisabled" "Z" (.int (1 : Int32))) (OH : Sta Z Z.heap "java/lang/StringUTF16" "HI_BYTE_SHIFT" "I" (.int (0 : Int32))) (OL : Sta Z Z.heap "java/lang/StringUTF16" "LO_BYTE_SHIFT" "I" (.int (8 : Int32))) (V_s : Arv Z h0 sr ks .byte (Int32.ofNat Ns) ss (.int (0 : Int32))) (V_d : Arv Z h0 d kd .byte (Int32.ofNat (2 * Nd)) (own_wx (2 * Nd) ds cs 0) (.int (0 : Int32))) (hok : own_Ok cs) (hall : ∀ c ∈ cs, ¬ (255 : Int32) < c) (hsrc : ∀ i, i < cs.length → ss.getD i (.int (0 : Int32)) = .int (StrChars.lo8 (cs.getD i 0))) (hNs : cs.length ≤ Ns) (hNs2 : Ns ≤ 4000) (hNd : ds.length + cs.length ≤ Nd) (hNd2 : Nd ≤ 4000) (g_d : n0 ≤ d) (hsd : sr ≠ d) :
    MetFree l (⟨"java/lang/StringUTF16", "inflate", "([BI[BII)V"⟩ : MethodName) (head1 (Jvm.Cond.code (⟨"java/lang/StringUTF16", "inflate", "([BI[BII)V"⟩ : MethodName) jdk_52_method_86_code 6 none :: ws) ⟨3, 0, 0, 43⟩) (fun aA U => aA = #[(.ref sr), (.int (0 : Int32)), (.ref d), (.int (Int32.ofNat ds.length)), (.int (Int32.ofNat cs.length))] ∧ Z.Warmed39 U.vm ∧ U.heap = h0) (fun _ _ _ _ _ => True) (fun _ U oO U' => ∃ rV rL, oO = .returned rV ∧ QInf Z d kd (Int32.ofNat (2 * Nd)) (own_wx (2 * Nd) ds cs cs.length) h0 n0 rV U'.heap rL ∧ FrameEnd U oO U' rL 0 0) := by
  refine MetFree.of_bodySF (plainFor_of_name pn_1) hisR ?_
  intro p e s m args below meth cC s₁ Bd hml0 hP hK
  obtain ⟨rfl, hZ, hh⟩ := hP
  have hx := Bd.exec
  have hby := Bd.bytes
  have hml : cC.maxLocals = 6 := hml0
  have hown : s.vm.findClass "java/lang/StringUTF16" = some m.cls := findClass_of_methodNamed Bd.named
  have hnm := (name_of_methodNamed Bd.named Bd.method).1
  have hrt := Bd.returns
  have hlk : meth.locks = false := Bd.notSynchronized
  have X0 : Stand p l e ⟨3, 0, 0, 43⟩ s m #[(.ref sr), (.int (0 : Int32)), (.ref d), (.int (Int32.ofNat ds.length)), (.int (Int32.ofNat cs.length))] below meth cC s₁ [] 0 0 := Stand.of_body Bd
  have e0 : s₁.heap = h0 := by rw [← hh, Bd.state]; rfl
  have N0 := Fr.nil n0
  have Z0 : n0 ≤ h0.size := O0.1 ▸ O0.2.1
  show own_Go p e below (s₁.setTop (entryFrame m #[(.ref sr), (.int (0 : Int32)), (.ref d), (.int (Int32.ofNat ds.length)), (.int (Int32.ofNat cs.length))] 6)) (fun oO U' => ∃ rV rL, oO = .returned rV ∧ QInf Z d kd (Int32.ofNat (2 * Nd)) (own_wx (2 * Nd) ds cs cs.length) h0 n0 rV U'.heap rL ∧ FrameEnd s oO U' rL 0 0)
  refine own_go (fun _ k => castTop (ef_rm_inf m sr _ d _ _) k) ?_
  have hlen : cs.length ≤ 4000 := hok.2
  refine og (fun _ k => XS.iloadN X0.here hx rfl (hb hby d52_86_0) rfl k) ?_
  refine og (fun _ k => XS.iload X0.here hx rfl (hb hby d52_86_1) rfl k) ?_
  refine og (fun _ k => XS.aloadN X0.here hx rfl (hb hby d52_86_3) rfl rfl k) ?_
  obtain ⟨v108, _, ⟨T108, L108, k108, n108⟩, -, X108, ⟨Lc108, hQ108, l108, y108, z108⟩, st108⟩ := Jvm.LawKit.callS X0 hx (y := (⟨"java/lang/StringUTF16", "checkBoundsOffCount", "(II[B)V"⟩ : MethodName)) hown (mvT hZ (tw hw 274 rfl)) (mvT hZ (tw hw 275 rfl)) (mvT hZ (tw hw 26 rfl)) (mvT hZ (tw hw 276 rfl)) (by decide) (backOf (W := 0) (rm_wbo l Z a0 hw [] d kd Nd (own_wx (2 * Nd) ds cs 0) ds.length cs.length G3 h0 n0 O0 O4 rG3 V_d hNd2 hNd) hZ (tw hw 276 rfl) (tw hw 26 rfl) (by decide) (by decide)) (g := (mkF m 4 #[.val (.ref sr), .val (.int (0 : Int32)), .val (.ref d), .val (.int (Int32.ofNat ds.length)), .val (.int (Int32.ofNat cs.length)), .unset] [(.ref d), (.int (Int32.ofNat cs.length)), (.int (Int32.ofNat ds.length))])) rfl (by rw [hml]; rfl) (argsL := [(.int (Int32.ofNat ds.length)), (.int (Int32.ofNat cs.length)), (.ref d)]) (rest := []) (lenOf pd_13 rfl) rfl (by show 2 * 0 + _ ≤ _; exact Nat.le_of_eq rfl) (hb hby d52_86_4) (fun _ _ => ⟨rfl, e0, (by decide : 0 + 0 ≤ _), (by decide : 0 + 0 ≤ _)⟩)
  dsimp only [Pt.U, Pt.locs, Pt.cells, Pt.slots] at X108 l108 y108 z108 st108 hQ108
  subst l108 y108 z108
  refine own_go st108 ?_
  obtain ⟨rfl, Nq108, e108⟩ := hQ108
  have N108 := Fr.app N0 Nq108
  try dsimp only [mkF]
  refine og (fun _ k => XS.iconst X108.here hx rfl (hb hby d52_86_7) k) ?_
  refine og (fun _ k => XS.istore X108.here hx rfl (hb hby d52_86_8) rfl (l' := #[.val (.ref sr), .val (.int (0 : Int32)), .val (.ref d), .val (.int (Int32.ofNat ds.length)), .val (.int (Int32.ofNat cs.length)), .val (.int (0 : Int32))]) rfl k) ?_
  have loop : ∀ (kT iloop : Nat) (T : State) (locs : List Loc) (h : Heap), iloop + kT = cs.length → Stand p l e ⟨3, 0, 0, 43⟩ s m #[(.ref sr), (.int (0 : Int32)), (.ref d), (.int (Int32.ofNat ds.length)), (.int (Int32.ofNat cs.length))] below meth cC T locs 0 0 → T.heap = h → Fr n0 locs → Old Z n0 h → Keep h0 h [d] → Arv Z h sr ks .byte (Int32.ofNat Ns) ss (.int (0 : Int32)) → Arv Z h d kd .byte (Int32.ofNat (2 * Nd)) (own_wx (2 * Nd) ds cs iloop) (.int (0 : Int32)) → own_Go p e below (T.setTop (mkF m 10 #[.val (.ref sr), .val (.int (Int32.ofNat iloop)), .val (.ref d), .val (.int (Int32.ofNat (ds.length + iloop))), .val (.int (Int32.ofNat cs.length)), .val (.int (Int32.ofNat iloop))] [])) (fun oO U' => ∃ rV rL, oO = .returned rV ∧ QInf Z d kd (Int32.ofNat (2 * Nd)) (own_wx (2 * Nd) ds cs cs.length) h0 n0 rV U'.heap rL ∧ FrameEnd s oO U' rL 0 0) := by
    intro kT
    induction kT with
    | zero =>
      intro iloop T109 L109 h109 hik X109 e109 N109 O109 K109 J0_109 J1_109
      have Z0_109 : n0 ≤ h109.size := O109.1 ▸ O109.2.1
      have hin : iloop = cs.length := by omega
      have hlt : ¬ ((Int32.ofNat iloop) < (Int32.ofNat cs.length)) := by rw [own_lti (by omega) (by omega)]; omega
      refine og (fun _ k => XS.iload X109.here hx rfl (hb hby d52_86_10) rfl k) ?_
      refine og (fun _ k => XS.iload X109.here hx rfl (hb hby d52_86_12) rfl k) ?_
      try dsimp only [mkF]
      refine og (fun _ k => XS.icmpYes X109.here hx rfl (pc0 := 14) (pc' := 41) rfl (hb hby d52_86_14) rfl (flt hlt).2.1 (by decide) (by decide) k) ?_
      refine own_fin (v := none) X109 (fun _ => rfl) hlk (fun fs hr => X109.returnOut hx hrt (hb hby d52_86_41) hr) (QQ := QInf Z d kd (Int32.ofNat (2 * Nd)) (own_wx (2 * Nd) ds cs cs.length) h0 n0) ?_ (by decide) (by decide)
      rw [e109]
      exact ⟨rfl, N109, K109, by have q := J1_109; rw [hin] at q; exact q⟩
    | succ kT ih =>
      intro iloop T110 L110 h110 hik X110 e110 N110 O110 K110 J0_110 J1_110
      have Z0_110 : n0 ≤ h110.size := O110.1 ▸ O110.2.1
      have hi : iloop < cs.length := by omega
      have hlt : (Int32.ofNat iloop) < (Int32.ofNat cs.length) := (own_lti (by omega) (by omega)).mpr hi
      refine og (fun _ k => XS.iload X110.here hx rfl (hb hby d52_86_10) rfl k) ?_
      refine og (fun _ k => XS.iload X110.here hx rfl (hb hby d52_86_12) rfl k) ?_
      try dsimp only [mkF]
      refine og (fun _ k => XS.icmpNo X110.here hx rfl (hb hby d52_86_14) rfl (tlt hlt).2.1 k) ?_
      refine og (fun _ k => XS.aloadN X110.here hx rfl (hb hby d52_86_17) rfl rfl k) ?_
      refine og (fun _ k => XS.iloadN X110.here hx rfl (hb hby d52_86_18) rfl k) ?_
      refine og (fun _ k => XS.iinc X110.here hx rfl (hb hby d52_86_19) rfl (l' := #[.val (.ref sr), .val (.int (Int32.ofNat iloop)), .val (.ref d), .val (.int ((Int32.ofNat (ds.length + iloop)) + (1 : Int32))), .val (.int (Int32.ofNat cs.length)), .val (.int (Int32.ofNat iloop))]) rfl k) ?_
      refine og (fun _ k => XS.aloadN X110.here hx rfl (hb hby d52_86_22) rfl rfl k) ?_
      try dsimp only [mkF]
      refine og (fun _ k => XS.iloadN X110.here hx rfl (hb hby d52_86_23) rfl k) ?_
      refine og (fun _ k => XS.iinc X110.here hx rfl (hb hby d52_86_24) rfl (l' := #[.val (.ref sr), .val (.int ((Int32.ofNat iloop) + (1 : Int32))), .val (.ref d), .val (.int ((Int32.ofNat (ds.length + iloop)) + (1 : Int32))), .val (.int (Int32.ofNat cs.length)), .val (.int (Int32.ofNat iloop))]) rfl k) ?_
      obtain ⟨c111, A111, q111, S111, M111, Hs111, Gs111⟩ := id J0_110
      have hi111 := inb_of (j := (Int32.ofNat iloop)) S111 (own_inb (j := Ns) (by omega) (by omega))
      refine og (fun _ k => X110.baloadBytes hx (j := (Int32.ofNat iloop)) (v := (.int (StrChars.lo8 (cs.getD iloop 0)))) (by rw [e110]; exact A111.1) (State.isArrayOf_alike hZ.alike A111.2.1) A111.2.2 hi111 (Has.at Hs111 hi111 (by rw [own_tn (by omega)]; exact hsrc _ hi)) (g := (mkF m 27 #[.val (.ref sr), .val (.int ((Int32.ofNat iloop) + (1 : Int32))), .val (.ref d), .val (.int ((Int32.ofNat (ds.length + iloop)) + (1 : Int32))), .val (.int (Int32.ofNat cs.length)), .val (.int (Int32.ofNat iloop))] [(.int (Int32.ofNat iloop)), (.ref sr), (.int (Int32.ofNat (ds.length + iloop))), (.ref d)])) rfl rfl (hb hby d52_86_27) _ k) ?_
      refine og (fun _ k => XS.sipush X110.here hx rfl (hb hby d52_86_28) k) ?_
      refine og (fun _ k => XS.iand X110.here hx rfl (hb hby d52_86_31) rfl k) ?_
      try dsimp only [mkF]
      show own_Go p e below (T110.setTop (mkF m 32 #[.val (.ref sr), .val (.int ((Int32.ofNat iloop) + (1 : Int32))), .val (.ref d), .val (.int ((Int32.ofNat (ds.length + iloop)) + (1 : Int32))), .val (.int (Int32.ofNat cs.length)), .val (.int (Int32.ofNat iloop))] [(.int ((StrChars.lo8 (cs.getD iloop 0)) &&& (255 : Int32))), (.int (Int32.ofNat (ds.length + iloop))), (.ref d)])) _
      rw [StrChars.lo8_mask (hok.at hi).1 (hall _ (own_getm hi))]
      obtain ⟨v112, _, ⟨T112, L112, k112, n112⟩, -, X112, ⟨Lc112, hQ112, l112, y112, z112⟩, st112⟩ := Jvm.LawKit.callS X110 hx (y := (⟨"java/lang/StringUTF16", "putChar", "([BII)V"⟩ : MethodName)) hown (mvT hZ (tw hw 252 rfl)) (mvT hZ (tw hw 253 rfl)) (mvT hZ (tw hw 26 rfl)) (mvT hZ (tw hw 254 rfl)) (by decide) (backOf (W := 0) (rm_put l Z a0 hw [] d kd (2 * Nd) (own_wx (2 * Nd) ds cs iloop) (ds.length + iloop) (cs.getD iloop 0) h110 n0 O110 OA OH OL J1_110 g_d (own_wxl (by omega) (by omega)) (by omega) (by omega)) hZ (tw hw 254 rfl) (tw hw 26 rfl) (by decide) (by decide)) (g := (mkF m 32 #[.val (.ref sr), .val (.int ((Int32.ofNat iloop) + (1 : Int32))), .val (.ref d), .val (.int ((Int32.ofNat (ds.length + iloop)) + (1 : Int32))), .val (.int (Int32.ofNat cs.length)), .val (.int (Int32.ofNat iloop))] [(.int (cs.getD iloop 0)), (.int (Int32.ofNat (ds.length + iloop))), (.ref d)])) rfl (by rw [hml]; rfl) (argsL := [(.ref d), (.int (Int32.ofNat (ds.length + iloop))), (.int (cs.getD iloop 0))]) (rest := []) (lenOf pd_3 rfl) rfl (by show 2 * 0 + _ ≤ _; exact Nat.le_of_eq rfl) (hb hby d52_86_32) (fun _ _ => ⟨rfl, e110, (by decide : 0 + 0 ≤ _), (by decide : 0 + 0 ≤ _)⟩)
      dsimp only [Pt.U, Pt.locs, Pt.cells, Pt.slots] at X112 l112 y112 z112 st112 hQ112
      subst l112 y112 z112
      refine own_go st112 ?_
      obtain ⟨rfl, Nq112, K112, Vb112⟩ := hQ112
      have N112 := Fr.app N110 Nq112
      refine og (fun _ k => XS.iinc X112.here hx rfl (hb hby d52_86_35) rfl (l' := #[.val (.ref sr), .val (.int ((Int32.ofNat iloop) + (1 : Int32))), .val (.ref d), .val (.int ((Int32.ofNat (ds.length + iloop)) + (1 : Int32))), .val (.int (Int32.ofNat cs.length)), .val (.int ((Int32.ofNat iloop) + (1 : Int32)))]) rfl k) ?_
      refine og (fun _ k => XS.goto X112.here hx rfl (pc0 := 38) (pc' := 10) rfl (hb hby d52_86_38) (by decide) (by decide) k) ?_
      show own_Go p e below (T112.setTop (mkF m 10 #[.val (.ref sr), .val (.int ((Int32.ofNat iloop) + (1 : Int32))), .val (.ref d), .val (.int ((Int32.ofNat (ds.length + iloop)) + (1 : Int32))), .val (.int (Int32.ofNat cs.length)), .val (.int ((Int32.ofNat iloop) + (1 : Int32)))] [])) _
      rw [own_inc, own_inc, Nat.add_assoc]
      have f113 := (J0_110.keep K112 (ninS hsd nin0))
      have f114 := (O110.keep K112 (allS g_d all0))
      have f115 := (K110.trans K112 (allS (Or.inl (List.mem_of_getElem? (i := 0) rfl)) all0))
      exact ih (iloop + 1) T112 _ T112.heap (by omega) X112 (rfl : T112.heap = T112.heap) N112 f114 f115 f113 (own_wxs (M := 2 * Nd) (ds := ds) hi (by omega) ▸ Vb112) 
  exact loop (cs.length) 0 T108 _ h0 (by omega) X108 e108 N108 O0 (Keep.refl h0 [d]) V_s V_d 

abbrev k43_50 := jdk_43_method_50_code
theorem d43_50_0 : Dk k43_50 0 (.aload_n 0) 1 := own_k
theorem d43_50_1 : Dk k43_50 1 (.iload_n 1) 1 := own_k
theorem d43_50_2 : Dk k43_50 2 (.aload_n 2) 1 := own_k
theorem d43_50_3 : Dk k43_50 3 (.iload_n 3) 1 := own_k
theorem d43_50_4 : Dk k43_50 4 (.iload 4) 2 := own_k
theorem d43_50_6 : Dk k43_50 6 (.invokestatic 240) 3 := own_k
theorem pd_14 : parseMethodDescriptor "([BI[BII)V" = some ⟨[(.array .byte), .int, (.array .byte), .int, .int], none⟩ := by decide +kernel
theorem d43_50_9 : Dk k43_50 9 .return_ 1 := own_k
theorem pn_5 : plainName "java/lang/StringLatin1" = true := by first | (simp [plainName, overriddenIn]; done) | decide +kernel
theorem ef_rm_linf (m : MethodId) (x0 : Addr) (x1 : Int32) (x2 : Addr) (x3 : Int32) (x4 : Int32) : entryFrame m #[(.ref x0), (.int x1), (.ref x2), (.int x3), (.int x4)] 5 = mkF m 0 #[.val (.ref x0), .val (.int x1), .val (.ref x2), .val (.int x3), .val (.int x4)] [] := by
   first | (simp [entryFrame, mkF, argsToLocals, Value.category]; done) | rfl
set_option maxRecDepth 65536 in
set_option maxHeartbeats 40000000 in
theorem rm_linf (l : Launch) (Z : State) (a0 : Array Value) (hw : ∀ d ∈ tables_1, d.before a0 Z = true) (ws : List Jvm.Cond) (sr : Addr) (ks : ClassId) (Ns : Nat) (ss : List Value) (d : Addr) (kd : ClassId) (Nd : Nat) (ds cs : List Int32) (G3 : Value) (h0 : Heap) (n0 : Nat) (O0 : Old Z n0 h0) (O4 : Sta Z Z.heap "jdk/internal/util/Preconditions" "SIOOBE_FORMATTER" "Ljava/util/function/BiFunction;" G3) (rG3 : G3.isRef = true) (OA : Sta Z Z.heap "java/lang/StringUTF16" "$assertionsDisabled" "Z" (.int (1 : Int32))) (OH : Sta Z Z.heap "java/lang/StringUTF16" "HI_BYTE_SHIFT" "I" (.int (0 : Int32))) (OL : Sta Z Z.heap "java/lang/StringUTF16" "LO_BYTE_SHIFT" "I" (.int (8 : Int32))) (V_s : Arv Z h0 sr ks .byte (Int32.ofNat Ns) ss (.int (0 : Int32))) (V_d : Arv Z h0 d kd .byte (Int32.ofNat (2 * Nd)) (own_wx (2 * Nd) ds cs 0) (.int (0 : Int32))) (hok : own_Ok cs) (hall : ∀ c ∈ cs, ¬ (255 : Int32) < c) (hsrc : ∀ i, i < cs.length → ss.getD i (.int (0 : Int32)) = .int (StrChars.lo8 (cs.getD i 0))) (hNs : cs.length ≤ Ns) (hNs2 : Ns ≤ 4000) (hNd : ds.length + cs.length ≤ Nd) (hNd2 : Nd ≤ 4000) (g_d : n0 ≤ d) (hsd : sr ≠ d) :
    MetFree l (⟨"java/lang/StringLatin1", "inflate", "([BI[BII)V"⟩ : MethodName) (head1 (Jvm.Cond.code (⟨"java/lang/StringLatin1", "inflate", "([BI[BII)V"⟩ : MethodName) jdk_43_method_50_code 5 none :: ws) ⟨4, 0, 0, 60⟩) (fun aA U => aA = #[(.ref sr), (.int (0 : Int32)), (.ref d), (.int (Int32.ofNat ds.length)), (.int (Int32.ofNat cs.length))] ∧ Z.Warmed39 U.vm ∧ U.heap = h0) (fun _ _ _ _ _ => True) (fun _ U oO U' => ∃ rV rL, oO = .returned rV ∧ QInf Z d kd (Int32.ofNat (2 * Nd)) (own_wx (2 * Nd) ds cs cs.length) h0 n0 rV U'.heap rL ∧ FrameEnd U oO U' rL 0 0) := by
  refine MetFree.of_bodySF (plainFor_of_name pn_5) hisR ?_
  intro p e s m args below meth cC s₁ Bd hml0 hP hK
  obtain ⟨rfl, hZ, hh⟩ := hP
  have hx := Bd.exec
  have hby := Bd.bytes
  have hml : cC.maxLocals = 5 := hml0
  have hown : s.vm.findClass "java/lang/StringLatin1" = some m.cls := findClass_of_methodNamed Bd.named
  have hnm := (name_of_methodNamed Bd.named Bd.method).1
  have hrt := Bd.returns
  have hlk : meth.locks = false := Bd.notSynchronized
  have X0 : Stand p l e ⟨4, 0, 0, 60⟩ s m #[(.ref sr), (.int (0 : Int32)), (.ref d), (.int (Int32.ofNat ds.length)), (.int (Int32.ofNat cs.length))] below meth cC s₁ [] 0 0 := Stand.of_body Bd
  have e0 : s₁.heap = h0 := by rw [← hh, Bd.state]; rfl
  have N0 := Fr.nil n0
  have Z0 : n0 ≤ h0.size := O0.1 ▸ O0.2.1
  show own_Go p e below (s₁.setTop (entryFrame m #[(.ref sr), (.int (0 : Int32)), (.ref d), (.int (Int32.ofNat ds.length)), (.int (Int32.ofNat cs.length))] 5)) (fun oO U' => ∃ rV rL, oO = .returned rV ∧ QInf Z d kd (Int32.ofNat (2 * Nd)) (own_wx (2 * Nd) ds cs cs.length) h0 n0 rV U'.heap rL ∧ FrameEnd s oO U' rL 0 0)
  refine own_go (fun _ k => castTop (ef_rm_linf m sr _ d _ _) k) ?_
  have hlen : cs.length ≤ 4000 := hok.2
  refine og (fun _ k => XS.aloadN X0.here hx rfl (hb hby d43_50_0) rfl rfl k) ?_
  refine og (fun _ k => XS.iloadN X0.here hx rfl (hb hby d43_50_1) rfl k) ?_
  refine og (fun _ k => XS.aloadN X0.here hx rfl (hb hby d43_50_2) rfl rfl k) ?_
  refine og (fun _ k => XS.iloadN X0.here hx rfl (hb hby d43_50_3) rfl k) ?_
  try dsimp only [mkF]
  refine og (fun _ k => XS.iload X0.here hx rfl (hb hby d43_50_4) rfl k) ?_
  obtain ⟨v116, _, ⟨T116, L116, k116, n116⟩, -, X116, ⟨Lc116, hQ116, l116, y116, z116⟩, st116⟩ := Jvm.LawKit.callS X0 hx (y := (⟨"java/lang/StringUTF16", "inflate", "([BI[BII)V"⟩ : MethodName)) hown (mvT hZ (tw hw 271 rfl)) (mvT hZ (tw hw 272 rfl)) (mvT hZ (tw hw 26 rfl)) (mvT hZ (tw hw 273 rfl)) (by decide) (backOf (W := 0) (rm_inf l Z a0 hw [] sr ks Ns ss d kd Nd ds cs G3 h0 n0 O0 O4 rG3 OA OH OL V_s V_d hok hall hsrc hNs hNs2 hNd hNd2 g_d hsd) hZ (tw hw 273 rfl) (tw hw 26 rfl) (by decide) (by decide)) (g := (mkF m 6 #[.val (.ref sr), .val (.int (0 : Int32)), .val (.ref d), .val (.int (Int32.ofNat ds.length)), .val (.int (Int32.ofNat cs.length))] [(.int (Int32.ofNat cs.length)), (.int (Int32.ofNat ds.length)), (.ref d), (.int (0 : Int32)), (.ref sr)])) rfl (by rw [hml]; rfl) (argsL := [(.ref sr), (.int (0 : Int32)), (.ref d), (.int (Int32.ofNat ds.length)), (.int (Int32.ofNat cs.length))]) (rest := []) (lenOf pd_14 rfl) rfl (by show 2 * 0 + _ ≤ _; exact Nat.le_of_eq rfl) (hb hby d43_50_6) (fun _ _ => ⟨rfl, e0, (by decide : 0 + 0 ≤ _), (by decide : 0 + 0 ≤ _)⟩)
  dsimp only [Pt.U, Pt.locs, Pt.cells, Pt.slots] at X116 l116 y116 z116 st116 hQ116
  subst l116 y116 z116
  refine own_go st116 ?_
  obtain ⟨rfl, Nq116, K116, Vd116⟩ := hQ116
  have N116 := Fr.app N0 Nq116
  have f117 := ((Keep.refl h0 [d]).trans K116 (allS (Or.inl (List.mem_of_getElem? (i := 0) rfl)) all0))
  refine own_fin (v := none) X116 (fun _ => rfl) hlk (fun fs hr => X116.returnOut hx hrt (hb hby d43_50_9) hr) (QQ := QInf Z d kd (Int32.ofNat (2 * Nd)) (own_wx (2 * Nd) ds cs cs.length) h0 n0) ?_ (by decide) (by decide)
  exact ⟨rfl, N116, f117, Vd116⟩

abbrev k65_121 := jdk_65_method_121_code
theorem d65_121_0 : Dk k65_121 0 (.iload_n 1) 1 := own_k
theorem d65_121_1 : Dk k65_121 1 (.aload_n 0) 1 := own_k
theorem d65_121_2 : Dk k65_121 2 .arraylength 1 := own_k
theorem d65_121_3 : Dk k65_121 3 (.if_icmp .ne 11) 3 := own_k
theorem d65_121_14 : Dk k65_121 14 (.iload_n 1) 1 := own_k
theorem d65_121_15 : Dk k65_121 15 (.newarray .byte) 2 := own_k
theorem d65_121_17 : Dk k65_121 17 (.astore_n 2) 1 := own_k
theorem d65_121_18 : Dk k65_121 18 (.aload_n 0) 1 := own_k
theorem d65_121_19 : Dk k65_121 19 (.iconst 0) 1 := own_k
theorem d65_121_20 : Dk k65_121 20 (.aload_n 2) 1 := own_k
theorem d65_121_21 : Dk k65_121 21 (.iconst 0) 1 := own_k
theorem d65_121_22 : Dk k65_121 22 (.aload_n 0) 1 := own_k
theorem d65_121_23 : Dk k65_121 23 .arraylength 1 := own_k
theorem d65_121_24 : Dk k65_121 24 (.iload_n 1) 1 := own_k
theorem d65_121_25 : Dk k65_121 25 (.invokestatic 304) 3 := own_k
theorem pd_15 : parseMethodDescriptor "(II)I" = some ⟨[.int, .int], some .int⟩ := by decide +kernel
theorem d65_121_28 : Dk k65_121 28 (.invokestatic 150) 3 := own_k
theorem d65_121_31 : Dk k65_121 31 (.aload_n 2) 1 := own_k
theorem d65_121_32 : Dk k65_121 32 .areturn 1 := own_k
theorem pn_6 : plainName "java/util/Arrays" = true := by first | (simp [plainName, overriddenIn]; done) | decide +kernel
theorem ef_rm_cpo (m : MethodId) (x0 : Addr) (x1 : Int32) : entryFrame m #[(.ref x0), (.int x1)] 3 = mkF m 0 #[.val (.ref x0), .val (.int x1), .unset] [] := by
   first | (simp [entryFrame, mkF, argsToLocals, Value.category]; done) | rfl
set_option maxRecDepth 65536 in
set_option maxHeartbeats 40000000 in
theorem rm_cpo (l : Launch) (Z : State) (a0 : Array Value) (hw : ∀ d ∈ tables_1, d.before a0 Z = true) (ws : List Jvm.Cond) (v : Addr) (kv : ClassId) (cs : List Int32) (h0 : Heap) (n0 : Nat) (O0 : Old Z n0 h0) (V_v : Arv Z h0 v kv .byte (16 : Int32) (own_sM 16 cs) (.int (0 : Int32))) (hl : cs.length ≤ 16) :
    MetFree l (⟨"java/util/Arrays", "copyOf", "([BI)[B"⟩ : MethodName) (head1 (Jvm.Cond.code (⟨"java/util/Arrays", "copyOf", "([BI)[B"⟩ : MethodName) jdk_65_method_121_code 3 (some (.array .byte)) :: ws) ⟨1, 1, 34, 18⟩) (fun aA U => aA = #[(.ref v), (.int (34 : Int32))] ∧ Z.Warmed39 U.vm ∧ U.heap = h0) (fun _ _ _ _ _ => True) (fun _ U oO U' => ∃ rV rL, oO = .returned rV ∧ QNewE Z (34 : Int32) (own_sM 34 cs) h0 n0 rV U'.heap rL ∧ FrameEnd U oO U' rL 1 34) := by
  refine MetFree.of_bodySF (plainFor_of_name pn_6) hisR ?_
  intro p e s m args below meth cC s₁ Bd hml0 hP hK
  obtain ⟨rfl, hZ, hh⟩ := hP
  have hx := Bd.exec
  have hby := Bd.bytes
  have hml : cC.maxLocals = 3 := hml0
  have hown : s.vm.findClass "java/util/Arrays" = some m.cls := findClass_of_methodNamed Bd.named
  have hnm := (name_of_methodNamed Bd.named Bd.method).1
  have hrt := Bd.returns
  have hlk : meth.locks = false := Bd.notSynchronized
  have X0 : Stand p l e ⟨1, 1, 34, 18⟩ s m #[(.ref v), (.int (34 : Int32))] below meth cC s₁ [] 0 0 := Stand.of_body Bd
  have e0 : s₁.heap = h0 := by rw [← hh, Bd.state]; rfl
  have N0 := Fr.nil n0
  have Z0 : n0 ≤ h0.size := O0.1 ▸ O0.2.1
  show own_Go p e below (s₁.setTop (entryFrame m #[(.ref v), (.int (34 : Int32))] 3)) (fun oO U' => ∃ rV rL, oO = .returned rV ∧ QNewE Z (34 : Int32) (own_sM 34 cs) h0 n0 rV U'.heap rL ∧ FrameEnd s oO U' rL 1 34)
  refine own_go (fun _ k => castTop (ef_rm_cpo m v _) k) ?_
  refine og (fun _ k => XS.iloadN X0.here hx rfl (hb hby d65_121_0) rfl k) ?_
  refine og (fun _ k => XS.aloadN X0.here hx rfl (hb hby d65_121_1) rfl rfl k) ?_
  obtain ⟨c118, A118, q118, S118, M118, Hs118, Gs118⟩ := id V_v
  refine og (fun _ k => X0.arraylength hx (by rw [e0]; exact A118.1) (State.isArrayOf_alike hZ.alike A118.2.1) (g := (mkF m 2 #[.val (.ref v), .val (.int (34 : Int32)), .unset] [(.ref v), (.int (34 : Int32))])) rfl rfl (hb hby d65_121_2) _ k) ?_
  rw [len_of S118 M118]
  refine og (fun _ k => XS.icmpYes X0.here hx rfl (pc0 := 3) (pc' := 14) rfl (hb hby d65_121_3) rfl (feq (by decide : ¬ ((34 : Int32) = (16 : Int32)))).2 (by decide) (by decide) k) ?_
  try dsimp only [mkF]
  refine og (fun _ k => XS.iloadN X0.here hx rfl (hb hby d65_121_14) rfl k) ?_
  obtain ⟨T119, h119, k119, X119, e119, E119, A119, Q119, st119⟩ := newPE X0 hx hZ (tw hw 16 rfl) e0 (g := (mkF m 15 #[.val (.ref v), .val (.int (34 : Int32)), .unset] [(.int (34 : Int32))])) rfl (hb hby d65_121_15) rfl (by decide) (cap := 34) (by decide) (by decide) (by decide) (by decide) rfl
  obtain ⟨b119, g119⟩ : ∃ z, z = h0.size := ⟨_, rfl⟩
  rw [← g119] at A119 Q119 st119
  refine own_go st119 ?_
  have V119 : Arv Z h119 b119 k119 .byte (34 : Int32) [(.int (0 : Int32)), (.int (0 : Int32)), (.int (0 : Int32)), (.int (0 : Int32)), (.int (0 : Int32)), (.int (0 : Int32)), (.int (0 : Int32)), (.int (0 : Int32)), (.int (0 : Int32)), (.int (0 : Int32)), (.int (0 : Int32)), (.int (0 : Int32)), (.int (0 : Int32)), (.int (0 : Int32)), (.int (0 : Int32)), (.int (0 : Int32)), (.int (0 : Int32)), (.int (0 : Int32)), (.int (0 : Int32)), (.int (0 : Int32)), (.int (0 : Int32)), (.int (0 : Int32)), (.int (0 : Int32)), (.int (0 : Int32)), (.int (0 : Int32)), (.int (0 : Int32)), (.int (0 : Int32)), (.int (0 : Int32)), (.int (0 : Int32)), (.int (0 : Int32)), (.int (0 : Int32)), (.int (0 : Int32)), (.int (0 : Int32)), (.int (0 : Int32))] (.int (0 : Int32)) := (Arv.new A119 (by decide)).pad (pad_rep [] (.int (0 : Int32)) 34)
  have Vb0 : Arv Z h119 b119 k119 .byte (34 : Int32) (List.replicate 34 (.int (0 : Int32))) (.int (0 : Int32)) := V119
  refine og (fun _ k => XS.astoreN X119.here hx rfl (hb hby d65_121_17) rfl rfl (l' := #[.val (.ref v), .val (.int (34 : Int32)), .val (.ref b119)]) rfl k) ?_
  refine og (fun _ k => XS.aloadN X119.here hx rfl (hb hby d65_121_18) rfl rfl k) ?_
  refine og (fun _ k => XS.iconst X119.here hx rfl (hb hby d65_121_19) k) ?_
  try dsimp only [mkF]
  refine og (fun _ k => XS.aloadN X119.here hx rfl (hb hby d65_121_20) rfl rfl k) ?_
  refine og (fun _ k => XS.iconst X119.here hx rfl (hb hby d65_121_21) k) ?_
  refine og (fun _ k => XS.aloadN X119.here hx rfl (hb hby d65_121_22) rfl rfl k) ?_
  obtain ⟨c120, A120, q120, S120, M120, Hs120, Gs120⟩ := id (V_v.ext E119)
  refine og (fun _ k => X119.arraylength hx (by rw [e119]; exact A120.1) (State.isArrayOf_alike hZ.alike A120.2.1) (g := (mkF m 23 #[.val (.ref v), .val (.int (34 : Int32)), .val (.ref b119)] [(.ref v), (.int (0 : Int32)), (.ref b119), (.int (0 : Int32)), (.ref v)])) rfl rfl (hb hby d65_121_23) _ k) ?_
  rw [len_of S120 M120]
  refine og (fun _ k => XS.iloadN X119.here hx rfl (hb hby d65_121_24) rfl k) ?_
  try dsimp only [mkF]
  obtain ⟨v121, _, ⟨T121, L121, k121, n121⟩, -, X121, ⟨Lc121, hQ121, l121, y121, z121⟩, st121⟩ := Jvm.LawKit.callS X119 hx (y := (⟨"java/lang/Math", "min", "(II)I"⟩ : MethodName)) hown (mvT hZ (tw hw 147 rfl)) (mvT hZ (tw hw 148 rfl)) (mvT hZ (tw hw 149 rfl)) (mvT hZ (tw hw 150 rfl)) (by decide) (backOf (W := 4) (rm_min l Z a0 hw [] (16 : Int32) (34 : Int32) (16 : Int32) h119 n0 (O0.ext E119) (by decide)) hZ (tw hw 150 rfl) (tw hw 149 rfl) (by decide) (by decide)) (g := (mkF m 25 #[.val (.ref v), .val (.int (34 : Int32)), .val (.ref b119)] [(.int (34 : Int32)), (.int (16 : Int32)), (.int (0 : Int32)), (.ref b119), (.int (0 : Int32)), (.ref v)])) rfl (by rw [hml]; rfl) (argsL := [(.int (16 : Int32)), (.int (34 : Int32))]) (rest := [(.int (0 : Int32)), (.ref b119), (.int (0 : Int32)), (.ref v)]) (lenOf pd_15 rfl) rfl (by show 2 * 0 + _ ≤ _; exact Nat.le_of_eq rfl) (hb hby d65_121_25) (fun _ _ => ⟨rfl, e119, (by decide : 1 + 0 ≤ _), (by decide : 34 + 0 ≤ _)⟩)
  dsimp only [Pt.U, Pt.locs, Pt.cells, Pt.slots] at X121 l121 y121 z121 st121 hQ121
  subst l121 y121 z121
  refine own_go st121 ?_
  obtain ⟨rfl, Nq121, e121⟩ := hQ121
  have N121 := Fr.app N0 Nq121
  have ci122 := own_tn (i := 0) (by omega)
  have cj122 := own_tn (i := 0) (by omega)
  have cm122 := own_tn (i := 16) (by omega)
  have ca122 := own_tn (i := 16) (by omega)
  have cb122 := own_tn (i := 34) (by omega)
  have cl122 : ((List.replicate 34 (.int (0 : Int32))) : List Value).length = 34 := List.length_replicate
  obtain ⟨T122, h122, Lc122, X122, e122, N122, K122, Vc122, st122⟩ := cpA (sp := Int32.ofNat 0) (dp := Int32.ofNat 0) (nn := Int32.ofNat 16) X121 hx hZ hown (tw hw 151 rfl) (tw hw 106 rfl) (tw hw 104 rfl) (tw hw 105 rfl) e121 (z := Int32.ofNat 16) (z' := Int32.ofNat 34) (V_v.ext E119) Vb0 (Or.inl ⟨rfl, rfl⟩) (own_nn0 (by omega)) (own_nn0 (by omega)) (own_nn0 (by omega)) (by omega) (by omega) (us := (own_sM 16 cs)) (by rw [cm122, ci122]; exact (own_self (own_sMl hl))) (by omega) N121 (Nat.le_trans Z0 (Nat.le_of_eq g119.symm)) (g := (mkF m 28 #[.val (.ref v), .val (.int (34 : Int32)), .val (.ref b119)] [(.int (16 : Int32)), (.int (0 : Int32)), (.ref b119), (.int (0 : Int32)), (.ref v)])) rfl (by rw [hml]; rfl) rfl (hb hby d65_121_28) (by decide) (W := 0) (by show 2 * 0 + _ ≤ _; exact Nat.le_of_eq rfl) (by decide)
  refine own_go st122 ?_
  have Vt122 : Arv Z h122 b119 k119 .byte (34 : Int32) (own_sM 34 cs) (.int (0 : Int32)) := by simp only [cj122, cm122] at Vc122; exact ((own_cpG (M' := 34) hl (by decide))) ▸ Vc122
  refine og (fun _ k => XS.aloadN X122.here hx rfl (hb hby d65_121_31) rfl rfl k) ?_
  have f123 := (((Keep.refl h0 []).ext E119).trans K122 (allS (Or.inr (Nat.le_of_eq g119.symm)) all0))
  refine own_fin (v := (some (.ref b119))) X122 (fun h => by rw [hrt] at h; cases h) hlk (fun fs hr => retR X122 hx hrt (by rfl) rfl rfl (hb hby d65_121_32) hr) (QQ := QNewE Z (34 : Int32) (own_sM 34 cs) h0 n0) ?_ (by decide) (by decide)
  rw [e122]
  exact ⟨b119, _, rfl, N122, f123, (Nat.le_of_eq g119.symm), Vt122, (Q119.keep K122)⟩

abbrev k48_27 := jdk_48_method_27_code
theorem d48_27_0 : Dk k48_27 0 (.iload_n 0) 1 := own_k
theorem d48_27_1 : Dk k48_27 1 (.iload_n 1) 1 := own_k
theorem d48_27_2 : Dk k48_27 2 (.iload_n 2) 1 := own_k
theorem d48_27_3 : Dk k48_27 3 (.invokestatic 194) 3 := own_k
theorem d48_27_6 : Dk k48_27 6 .iadd 1 := own_k
theorem d48_27_7 : Dk k48_27 7 (.istore_n 3) 1 := own_k
theorem d48_27_8 : Dk k48_27 8 (.iconst 0) 1 := own_k
theorem d48_27_9 : Dk k48_27 9 (.iload_n 3) 1 := own_k
theorem d48_27_10 : Dk k48_27 10 (.if_icmp .ge 11) 3 := own_k
theorem d48_27_13 : Dk k48_27 13 (.iload_n 3) 1 := own_k
theorem d48_27_14 : Dk k48_27 14 (.ldc 200) 2 := own_k
theorem d48_27_16 : Dk k48_27 16 (.if_icmp .gt 5) 3 := own_k
theorem d48_27_19 : Dk k48_27 19 (.iload_n 3) 1 := own_k
theorem d48_27_20 : Dk k48_27 20 .ireturn 1 := own_k
theorem pn_7 : plainName "jdk/internal/util/ArraysSupport" = true := by first | (simp [plainName, overriddenIn]; done) | decide +kernel
theorem ef_rm_nln (m : MethodId) (x0 : Int32) (x1 : Int32) (x2 : Int32) : entryFrame m #[(.int x0), (.int x1), (.int x2)] 4 = mkF m 0 #[.val (.int x0), .val (.int x1), .val (.int x2), .unset] [] := by
   first | (simp [entryFrame, mkF, argsToLocals, Value.category]; done) | rfl
set_option maxRecDepth 65536 in
set_option maxHeartbeats 40000000 in
theorem rm_nln (l : Launch) (Z : State) (a0 : Array Value) (hw : ∀ d ∈ tables_1, d.before a0 Z = true) (ws : List Jvm.Cond) (mm : Nat) (h0 : Heap) (n0 : Nat) (O0 : Old Z n0 h0) (h16 : 16 < mm) (h34 : mm ≤ 34) :
    MetFree l (⟨"jdk/internal/util/ArraysSupport", "newLength", "(III)I"⟩ : MethodName) (head1 (Jvm.Cond.code (⟨"jdk/internal/util/ArraysSupport", "newLength", "(III)I"⟩ : MethodName) jdk_48_method_27_code 4 (some .int) :: ws) ⟨1, 0, 0, 14⟩) (fun aA U => aA = #[(.int (16 : Int32)), (.int ((Int32.ofNat mm) - (16 : Int32))), (.int (18 : Int32))] ∧ Z.Warmed39 U.vm ∧ U.heap = h0) (fun _ _ _ _ _ => True) (fun _ U oO U' => ∃ rV rL, oO = .returned rV ∧ QPure (some (.int (34 : Int32))) h0 n0 rV U'.heap rL ∧ FrameEnd U oO U' rL 0 0) := by
  refine MetFree.of_bodySF (plainFor_of_name pn_7) hisR ?_
  intro p e s m args below meth cC s₁ Bd hml0 hP hK
  obtain ⟨rfl, hZ, hh⟩ := hP
  have hx := Bd.exec
  have hby := Bd.bytes
  have hml : cC.maxLocals = 4 := hml0
  have hown : s.vm.findClass "jdk/internal/util/ArraysSupport" = some m.cls := findClass_of_methodNamed Bd.named
  have hnm := (name_of_methodNamed Bd.named Bd.method).1
  have hrt := Bd.returns
  have hlk : meth.locks = false := Bd.notSynchronized
  have X0 : Stand p l e ⟨1, 0, 0, 14⟩ s m #[(.int (16 : Int32)), (.int ((Int32.ofNat mm) - (16 : Int32))), (.int (18 : Int32))] below meth cC s₁ [] 0 0 := Stand.of_body Bd
  have e0 : s₁.heap = h0 := by rw [← hh, Bd.state]; rfl
  have N0 := Fr.nil n0
  have Z0 : n0 ≤ h0.size := O0.1 ▸ O0.2.1
  show own_Go p e below (s₁.setTop (entryFrame m #[(.int (16 : Int32)), (.int ((Int32.ofNat mm) - (16 : Int32))), (.int (18 : Int32))] 4)) (fun oO U' => ∃ rV rL, oO = .returned rV ∧ QPure (some (.int (34 : Int32))) h0 n0 rV U'.heap rL ∧ FrameEnd s oO U' rL 0 0)
  refine own_go (fun _ k => castTop (ef_rm_nln m _ _ _) k) ?_
  refine og (fun _ k => XS.iloadN X0.here hx rfl (hb hby d48_27_0) rfl k) ?_
  refine og (fun _ k => XS.iloadN X0.here hx rfl (hb hby d48_27_1) rfl k) ?_
  refine og (fun _ k => XS.iloadN X0.here hx rfl (hb hby d48_27_2) rfl k) ?_
  obtain ⟨v124, _, ⟨T124, L124, k124, n124⟩, -, X124, ⟨Lc124, hQ124, l124, y124, z124⟩, st124⟩ := Jvm.LawKit.callS X0 hx (y := (⟨"java/lang/Math", "max", "(II)I"⟩ : MethodName)) hown (mvT hZ (tw hw 234 rfl)) (mvT hZ (tw hw 235 rfl)) (mvT hZ (tw hw 149 rfl)) (mvT hZ (tw hw 236 rfl)) (by decide) (backOf (W := 1) (rm_max l Z a0 hw [] ((Int32.ofNat mm) - (16 : Int32)) (18 : Int32) (18 : Int32) h0 n0 O0 (own_m16 h16 h34)) hZ (tw hw 236 rfl) (tw hw 149 rfl) (by decide) (by decide)) (g := (mkF m 3 #[.val (.int (16 : Int32)), .val (.int ((Int32.ofNat mm) - (16 : Int32))), .val (.int (18 : Int32)), .unset] [(.int (18 : Int32)), (.int ((Int32.ofNat mm) - (16 : Int32))), (.int (16 : Int32))])) rfl (by rw [hml]; rfl) (argsL := [(.int ((Int32.ofNat mm) - (16 : Int32))), (.int (18 : Int32))]) (rest := [(.int (16 : Int32))]) (lenOf pd_15 rfl) rfl (by show 2 * 0 + _ ≤ _; exact Nat.le_of_eq rfl) (hb hby d48_27_3) (fun _ _ => ⟨rfl, e0, (by decide : 0 + 0 ≤ _), (by decide : 0 + 0 ≤ _)⟩)
  dsimp only [Pt.U, Pt.locs, Pt.cells, Pt.slots] at X124 l124 y124 z124 st124 hQ124
  subst l124 y124 z124
  refine own_go st124 ?_
  obtain ⟨rfl, Nq124, e124⟩ := hQ124
  have N124 := Fr.app N0 Nq124
  try dsimp only [mkF]
  refine og (fun _ k => XS.iadd X124.here hx rfl (hb hby d48_27_6) rfl k) ?_
  refine og (fun _ k => XS.istoreN X124.here hx rfl (hb hby d48_27_7) rfl (l' := #[.val (.int (16 : Int32)), .val (.int ((Int32.ofNat mm) - (16 : Int32))), .val (.int (18 : Int32)), .val (.int (34 : Int32))]) rfl k) ?_
  refine og (fun _ k => XS.iconst X124.here hx rfl (hb hby d48_27_8) k) ?_
  refine og (fun _ k => XS.iloadN X124.here hx rfl (hb hby d48_27_9) rfl k) ?_
  refine og (fun _ k => XS.icmpNo X124.here hx rfl (hb hby d48_27_10) rfl (tlt (by decide : (0 : Int32) < (34 : Int32))).2.1 k) ?_
  try dsimp only [mkF]
  refine og (fun _ k => XS.iloadN X124.here hx rfl (hb hby d48_27_13) rfl k) ?_
  refine og (fun _ k => X124.ldcInt hx hown (mvT hZ (tw hw 237 rfl)) (g := (mkF m 14 #[.val (.int (16 : Int32)), .val (.int ((Int32.ofNat mm) - (16 : Int32))), .val (.int (18 : Int32)), .val (.int (34 : Int32))] [(.int (34 : Int32))])) rfl (hb hby d48_27_14) _ k) ?_
  refine og (fun _ k => XS.icmpNo X124.here hx rfl (hb hby d48_27_16) rfl (flt (by decide : ¬ ((2147483639 : Int32) < (34 : Int32)))).2.2.1 k) ?_
  refine og (fun _ k => XS.iloadN X124.here hx rfl (hb hby d48_27_19) rfl k) ?_
  refine own_fin (v := (some (.int (34 : Int32)))) X124 (fun h => by rw [hrt] at h; cases h) hlk (fun fs hr => retI X124 hx hrt (hb hby d48_27_20) hr) (QQ := QPure (some (.int (34 : Int32))) h0 n0) ?_ (by decide) (by decide)
  rw [e124]
  exact ⟨rfl, N124, rfl⟩

abbrev k68_10 := jdk_68_method_10_code
theorem d68_10_0 : Dk k68_10 0 (.aload_n 0) 1 := own_k
theorem d68_10_1 : Dk k68_10 1 (.getfield 15) 3 := own_k
theorem d68_10_4 : Dk k68_10 4 .arraylength 1 := own_k
theorem d68_10_5 : Dk k68_10 5 (.istore_n 2) 1 := own_k
theorem d68_10_6 : Dk k68_10 6 (.iload_n 1) 1 := own_k
theorem d68_10_7 : Dk k68_10 7 (.aload_n 0) 1 := own_k
theorem d68_10_8 : Dk k68_10 8 (.getfield 22) 3 := own_k
theorem d68_10_11 : Dk k68_10 11 .ishl 1 := own_k
theorem d68_10_12 : Dk k68_10 12 (.istore_n 3) 1 := own_k
theorem d68_10_13 : Dk k68_10 13 (.iload_n 3) 1 := own_k
theorem d68_10_14 : Dk k68_10 14 (.iload_n 2) 1 := own_k
theorem d68_10_15 : Dk k68_10 15 .isub 1 := own_k
theorem d68_10_16 : Dk k68_10 16 (.istore 4) 2 := own_k
theorem d68_10_18 : Dk k68_10 18 (.iload_n 2) 1 := own_k
theorem d68_10_19 : Dk k68_10 19 (.iload 4) 2 := own_k
theorem d68_10_21 : Dk k68_10 21 (.iload_n 2) 1 := own_k
theorem d68_10_22 : Dk k68_10 22 (.iconst 2) 1 := own_k
theorem d68_10_23 : Dk k68_10 23 (.aload_n 0) 1 := own_k
theorem d68_10_24 : Dk k68_10 24 (.getfield 22) 3 := own_k
theorem d68_10_27 : Dk k68_10 27 .ishl 1 := own_k
theorem d68_10_28 : Dk k68_10 28 .iadd 1 := own_k
theorem d68_10_29 : Dk k68_10 29 (.invokestatic 114) 3 := own_k
theorem d68_10_32 : Dk k68_10 32 (.istore 5) 2 := own_k
theorem d68_10_34 : Dk k68_10 34 (.iload 5) 2 := own_k
theorem d68_10_36 : Dk k68_10 36 (.ldc 39) 2 := own_k
theorem d68_10_38 : Dk k68_10 38 (.if_icmp .ne 13) 3 := own_k
theorem d68_10_51 : Dk k68_10 51 (.iload 5) 2 := own_k
theorem d68_10_53 : Dk k68_10 53 (.aload_n 0) 1 := own_k
theorem d68_10_54 : Dk k68_10 54 (.getfield 22) 3 := own_k
theorem d68_10_57 : Dk k68_10 57 .ishr 1 := own_k
theorem d68_10_58 : Dk k68_10 58 .ireturn 1 := own_k
theorem ef_rm_ncp (m : MethodId) (x0 : Addr) (x1 : Int32) : entryFrame m #[(.ref x0), (.int x1)] 6 = mkF m 0 #[.val (.ref x0), .val (.int x1), .unset, .unset, .unset, .unset] [] := by
   first | (simp [entryFrame, mkF, argsToLocals, Value.category]; done) | rfl
set_option maxRecDepth 65536 in
set_option maxHeartbeats 40000000 in
theorem rm_ncp (l : Launch) (Z : State) (a0 : Array Value) (hw : ∀ d ∈ tables_1, d.before a0 Z = true) (ws : List Jvm.Cond) (b v : Addr) (kv : ClassId) (cs : List Int32) (mm : Nat) (h0 : Heap) (n0 : Nat) (O0 : Old Z n0 h0) (E_b : Exa Z h0 b "java/lang/StringBuilder") (Fv_b : Fld Z h0 b "java/lang/AbstractStringBuilder" "value" "[B" (.ref v)) (Fc_b : Fld Z h0 b "java/lang/AbstractStringBuilder" "coder" "B" (.int (0 : Int32))) (V_v : Arv Z h0 v kv .byte (16 : Int32) (own_sM 16 cs) (.int (0 : Int32))) (h16 : 16 < mm) (h34 : mm ≤ 34) :
    MetFree l (⟨"java/lang/AbstractStringBuilder", "newCapacity", "(I)I"⟩ : MethodName) (head1 (Jvm.Cond.code (⟨"java/lang/AbstractStringBuilder", "newCapacity", "(I)I"⟩ : MethodName) jdk_68_method_10_code 6 (some .int) :: ws) ⟨2, 0, 0, 29⟩) (fun aA U => aA = #[(.ref b), (.int (Int32.ofNat mm))] ∧ Z.Warmed39 U.vm ∧ U.heap = h0) (fun _ _ _ _ _ => True) (fun _ U oO U' => ∃ rV rL, oO = .returned rV ∧ QPure (some (.int (34 : Int32))) h0 n0 rV U'.heap rL ∧ FrameEnd U oO U' rL 0 0) := by
  refine MetFree.of_bodySF (plainFor_of_name pn_2) hisR ?_
  intro p e s m args below meth cC s₁ Bd hml0 hP hK
  obtain ⟨rfl, hZ, hh⟩ := hP
  have hx := Bd.exec
  have hby := Bd.bytes
  have hml : cC.maxLocals = 6 := hml0
  have hown : s.vm.findClass "java/lang/AbstractStringBuilder" = some m.cls := findClass_of_methodNamed Bd.named
  have hnm := (name_of_methodNamed Bd.named Bd.method).1
  have hrt := Bd.returns
  have hlk : meth.locks = false := Bd.notSynchronized
  have X0 : Stand p l e ⟨2, 0, 0, 29⟩ s m #[(.ref b), (.int (Int32.ofNat mm))] below meth cC s₁ [] 0 0 := Stand.of_body Bd
  have e0 : s₁.heap = h0 := by rw [← hh, Bd.state]; rfl
  have N0 := Fr.nil n0
  have Z0 : n0 ≤ h0.size := O0.1 ▸ O0.2.1
  show own_Go p e below (s₁.setTop (entryFrame m #[(.ref b), (.int (Int32.ofNat mm))] 6)) (fun oO U' => ∃ rV rL, oO = .returned rV ∧ QPure (some (.int (34 : Int32))) h0 n0 rV U'.heap rL ∧ FrameEnd s oO U' rL 0 0)
  refine own_go (fun _ k => castTop (ef_rm_ncp m b _) k) ?_
  refine og (fun _ k => XS.aloadN X0.here hx rfl (hb hby d68_10_0) rfl rfl k) ?_
  obtain ⟨T125, X125, e125, st125⟩ := getF X0 hx hZ hown (host := "") (Or.inl (tw hw 55 rfl)) Via.refl e0 Fv_b (g := (mkF m 1 #[.val (.ref b), .val (.int (Int32.ofNat mm)), .unset, .unset, .unset, .unset] [(.ref b)])) rfl rfl (hb hby d68_10_1)
  refine own_go st125 ?_
  obtain ⟨c126, A126, q126, S126, M126, Hs126, Gs126⟩ := id V_v
  refine og (fun _ k => X125.arraylength hx (by rw [e125]; exact A126.1) (State.isArrayOf_alike hZ.alike A126.2.1) (g := (mkF m 4 #[.val (.ref b), .val (.int (Int32.ofNat mm)), .unset, .unset, .unset, .unset] [(.ref v)])) rfl rfl (hb hby d68_10_4) _ k) ?_
  rw [len_of S126 M126]
  refine og (fun _ k => XS.istoreN X125.here hx rfl (hb hby d68_10_5) rfl (l' := #[.val (.ref b), .val (.int (Int32.ofNat mm)), .val (.int (16 : Int32)), .unset, .unset, .unset]) rfl k) ?_
  try dsimp only [mkF]
  refine og (fun _ k => XS.iloadN X125.here hx rfl (hb hby d68_10_6) rfl k) ?_
  refine og (fun _ k => XS.aloadN X125.here hx rfl (hb hby d68_10_7) rfl rfl k) ?_
  obtain ⟨T127, X127, e127, st127⟩ := getF X125 hx hZ hown (host := "") (Or.inl (tw hw 57 rfl)) Via.refl e125 Fc_b (g := (mkF m 8 #[.val (.ref b), .val (.int (Int32.ofNat mm)), .val (.int (16 : Int32)), .unset, .unset, .unset] [(.ref b), (.int (Int32.ofNat mm))])) rfl rfl (hb hby d68_10_8)
  refine own_go st127 ?_
  refine og (fun _ k => XS.ishl X127.here hx rfl (hb hby d68_10_11) rfl k) ?_
  show own_Go p e below (T127.setTop (mkF m 12 #[.val (.ref b), .val (.int (Int32.ofNat mm)), .val (.int (16 : Int32)), .unset, .unset, .unset] [(.int ((Int32.ofNat mm) <<< ((0 : Int32) &&& 31)))])) _
  rw [own_shl0]
  try dsimp only [mkF]
  refine og (fun _ k => XS.istoreN X127.here hx rfl (hb hby d68_10_12) rfl (l' := #[.val (.ref b), .val (.int (Int32.ofNat mm)), .val (.int (16 : Int32)), .val (.int (Int32.ofNat mm)), .unset, .unset]) rfl k) ?_
  refine og (fun _ k => XS.iloadN X127.here hx rfl (hb hby d68_10_13) rfl k) ?_
  refine og (fun _ k => XS.iloadN X127.here hx rfl (hb hby d68_10_14) rfl k) ?_
  refine og (fun _ k => XS.isub X127.here hx rfl (hb hby d68_10_15) rfl k) ?_
  refine og (fun _ k => XS.istore X127.here hx rfl (hb hby d68_10_16) rfl (l' := #[.val (.ref b), .val (.int (Int32.ofNat mm)), .val (.int (16 : Int32)), .val (.int (Int32.ofNat mm)), .val (.int ((Int32.ofNat mm) - (16 : Int32))), .unset]) rfl k) ?_
  try dsimp only [mkF]
  refine og (fun _ k => XS.iloadN X127.here hx rfl (hb hby d68_10_18) rfl k) ?_
  refine og (fun _ k => XS.iload X127.here hx rfl (hb hby d68_10_19) rfl k) ?_
  refine og (fun _ k => XS.iloadN X127.here hx rfl (hb hby d68_10_21) rfl k) ?_
  refine og (fun _ k => XS.iconst X127.here hx rfl (hb hby d68_10_22) k) ?_
  refine og (fun _ k => XS.aloadN X127.here hx rfl (hb hby d68_10_23) rfl rfl k) ?_
  try dsimp only [mkF]
  obtain ⟨T128, X128, e128, st128⟩ := getF X127 hx hZ hown (host := "") (Or.inl (tw hw 57 rfl)) Via.refl e127 Fc_b (g := (mkF m 24 #[.val (.ref b), .val (.int (Int32.ofNat mm)), .val (.int (16 : Int32)), .val (.int (Int32.ofNat mm)), .val (.int ((Int32.ofNat mm) - (16 : Int32))), .unset] [(.ref b), (.int (2 : Int32)), (.int (16 : Int32)), (.int ((Int32.ofNat mm) - (16 : Int32))), (.int (16 : Int32))])) rfl rfl (hb hby d68_10_24)
  refine own_go st128 ?_
  refine og (fun _ k => XS.ishl X128.here hx rfl (hb hby d68_10_27) rfl k) ?_
  refine og (fun _ k => XS.iadd X128.here hx rfl (hb hby d68_10_28) rfl k) ?_
  show own_Go p e below (T128.setTop (mkF m 29 #[.val (.ref b), .val (.int (Int32.ofNat mm)), .val (.int (16 : Int32)), .val (.int (Int32.ofNat mm)), .val (.int ((Int32.ofNat mm) - (16 : Int32))), .unset] [(.int (18 : Int32)), (.int ((Int32.ofNat mm) - (16 : Int32))), (.int (16 : Int32))])) _
  obtain ⟨v129, _, ⟨T129, L129, k129, n129⟩, -, X129, ⟨Lc129, hQ129, l129, y129, z129⟩, st129⟩ := Jvm.LawKit.callS X128 hx (y := (⟨"jdk/internal/util/ArraysSupport", "newLength", "(III)I"⟩ : MethodName)) hown (mvT hZ (tw hw 230 rfl)) (mvT hZ (tw hw 231 rfl)) (mvT hZ (tw hw 232 rfl)) (mvT hZ (tw hw 233 rfl)) (by decide) (backOf (W := 0) (rm_nln l Z a0 hw [] mm h0 n0 O0 h16 h34) hZ (tw hw 233 rfl) (tw hw 232 rfl) (by decide) (by decide)) (g := (mkF m 29 #[.val (.ref b), .val (.int (Int32.ofNat mm)), .val (.int (16 : Int32)), .val (.int (Int32.ofNat mm)), .val (.int ((Int32.ofNat mm) - (16 : Int32))), .unset] [(.int (18 : Int32)), (.int ((Int32.ofNat mm) - (16 : Int32))), (.int (16 : Int32))])) rfl (by rw [hml]; rfl) (argsL := [(.int (16 : Int32)), (.int ((Int32.ofNat mm) - (16 : Int32))), (.int (18 : Int32))]) (rest := []) (lenOf pd_12 rfl) rfl (by show 2 * 0 + _ ≤ _; exact Nat.le_of_eq rfl) (hb hby d68_10_29) (fun _ _ => ⟨rfl, e128, (by decide : 0 + 0 ≤ _), (by decide : 0 + 0 ≤ _)⟩)
  dsimp only [Pt.U, Pt.locs, Pt.cells, Pt.slots] at X129 l129 y129 z129 st129 hQ129
  subst l129 y129 z129
  refine own_go st129 ?_
  obtain ⟨rfl, Nq129, e129⟩ := hQ129
  have N129 := Fr.app N0 Nq129
  refine og (fun _ k => XS.istore X129.here hx rfl (hb hby d68_10_32) rfl (l' := #[.val (.ref b), .val (.int (Int32.ofNat mm)), .val (.int (16 : Int32)), .val (.int (Int32.ofNat mm)), .val (.int ((Int32.ofNat mm) - (16 : Int32))), .val (.int (34 : Int32))]) rfl k) ?_
  try dsimp only [mkF]
  refine og (fun _ k => XS.iload X129.here hx rfl (hb hby d68_10_34) rfl k) ?_
  refine og (fun _ k => X129.ldcInt hx hown (mvT hZ (tw hw 238 rfl)) (g := (mkF m 36 #[.val (.ref b), .val (.int (Int32.ofNat mm)), .val (.int (16 : Int32)), .val (.int (Int32.ofNat mm)), .val (.int ((Int32.ofNat mm) - (16 : Int32))), .val (.int (34 : Int32))] [(.int (34 : Int32))])) rfl (hb hby d68_10_36) _ k) ?_
  refine og (fun _ k => XS.icmpYes X129.here hx rfl (pc0 := 38) (pc' := 51) rfl (hb hby d68_10_38) rfl (feq (by decide : ¬ ((34 : Int32) = (2147483647 : Int32)))).2 (by decide) (by decide) k) ?_
  refine og (fun _ k => XS.iload X129.here hx rfl (hb hby d68_10_51) rfl k) ?_
  refine og (fun _ k => XS.aloadN X129.here hx rfl (hb hby d68_10_53) rfl rfl k) ?_
  try dsimp only [mkF]
  obtain ⟨T130, X130, e130, st130⟩ := getF X129 hx hZ hown (host := "") (Or.inl (tw hw 57 rfl)) Via.refl e129 Fc_b (g := (mkF m 54 #[.val (.ref b), .val (.int (Int32.ofNat mm)), .val (.int (16 : Int32)), .val (.int (Int32.ofNat mm)), .val (.int ((Int32.ofNat mm) - (16 : Int32))), .val (.int (34 : Int32))] [(.ref b), (.int (34 : Int32))])) rfl rfl (hb hby d68_10_54)
  refine own_go st130 ?_
  refine og (fun _ k => XS.ishr X130.here hx rfl (hb hby d68_10_57) rfl k) ?_
  refine own_fin (v := (some (.int ((34 : Int32) >>> ((0 : Int32) &&& 31))))) X130 (fun h => by rw [hrt] at h; cases h) hlk (fun fs hr => retI X130 hx hrt (hb hby d68_10_58) hr) (QQ := QPure (some (.int (34 : Int32))) h0 n0) ?_ (by decide) (by decide)
  rw [e130]
  exact ⟨rfl, N129, rfl⟩

abbrev k68_9 := jdk_68_method_9_code
theorem d68_9_0 : Dk k68_9 0 (.aload_n 0) 1 := own_k
theorem d68_9_1 : Dk k68_9 1 (.getfield 15) 3 := own_k
theorem d68_9_4 : Dk k68_9 4 .arraylength 1 := own_k
theorem d68_9_5 : Dk k68_9 5 (.aload_n 0) 1 := own_k
theorem d68_9_6 : Dk k68_9 6 (.getfield 22) 3 := own_k
theorem d68_9_9 : Dk k68_9 9 .ishr 1 := own_k
theorem d68_9_10 : Dk k68_9 10 (.istore_n 2) 1 := own_k
theorem d68_9_11 : Dk k68_9 11 (.iload_n 1) 1 := own_k
theorem d68_9_12 : Dk k68_9 12 (.iload_n 2) 1 := own_k
theorem d68_9_13 : Dk k68_9 13 .isub 1 := own_k
theorem d68_9_14 : Dk k68_9 14 (.ifCond .le 24) 3 := own_k
theorem d68_9_38 : Dk k68_9 38 .return_ 1 := own_k
theorem ef_rm_enn (m : MethodId) (x0 : Addr) (x1 : Int32) : entryFrame m #[(.ref x0), (.int x1)] 3 = mkF m 0 #[.val (.ref x0), .val (.int x1), .unset] [] := by
   first | (simp [entryFrame, mkF, argsToLocals, Value.category]; done) | rfl
set_option maxRecDepth 65536 in
set_option maxHeartbeats 40000000 in
theorem rm_enn (l : Launch) (Z : State) (a0 : Array Value) (hw : ∀ d ∈ tables_1, d.before a0 Z = true) (ws : List Jvm.Cond) (b v : Addr) (kv : ClassId) (cs : List Int32) (mm : Nat) (G1 : Int32) (G3 : Value) (h0 : Heap) (n0 : Nat) (O0 : Old Z n0 h0) (O2 : Sta Z Z.heap "java/lang/String" "COMPACT_STRINGS" "Z" (.int G1)) (P5 : ¬ (G1 = (0 : Int32))) (O4 : Sta Z Z.heap "jdk/internal/util/Preconditions" "SIOOBE_FORMATTER" "Ljava/util/function/BiFunction;" G3) (rG3 : G3.isRef = true) (OA : Sta Z Z.heap "java/lang/StringUTF16" "$assertionsDisabled" "Z" (.int (1 : Int32))) (OH : Sta Z Z.heap "java/lang/StringUTF16" "HI_BYTE_SHIFT" "I" (.int (0 : Int32))) (OL : Sta Z Z.heap "java/lang/StringUTF16" "LO_BYTE_SHIFT" "I" (.int (8 : Int32))) (E_b : Exa Z h0 b "java/lang/StringBuilder") (Fv_b : Fld Z h0 b "java/lang/AbstractStringBuilder" "value" "[B" (.ref v)) (Fc_b : Fld Z h0 b "java/lang/AbstractStringBuilder" "coder" "B" (.int (0 : Int32))) (Fn_b : Fld Z h0 b "java/lang/AbstractStringBuilder" "count" "I" (.int (Int32.ofNat cs.length))) (Fm_b : Fld Z h0 b "java/lang/AbstractStringBuilder" "maybeLatin1" "Z" (.int (0 : Int32))) (V_v : Arv Z h0 v kv .byte (Int32.ofNat 16) (own_sM 16 cs) (.int (0 : Int32))) (X_v : Exa Z h0 v "[B") (hall : ∀ c ∈ cs, ¬ (255 : Int32) < c) (hok : own_Ok cs) (hM : cs.length ≤ 16 ∧ 16 ≤ 34) (g_b : n0 ≤ b) (g_v : n0 ≤ v) (hm : mm ≤ 16) :
    MetFree l (⟨"java/lang/AbstractStringBuilder", "ensureCapacityInternal", "(I)V"⟩ : MethodName) (head1 (Jvm.Cond.code (⟨"java/lang/AbstractStringBuilder", "ensureCapacityInternal", "(I)V"⟩ : MethodName) jdk_68_method_9_code 3 none :: ws) ⟨0, 0, 0, 0⟩) (fun aA U => aA = #[(.ref b), (.int (Int32.ofNat mm))] ∧ Z.Warmed39 U.vm ∧ U.heap = h0) (fun _ _ _ _ _ => True) (fun _ U oO U' => ∃ rV rL, oO = .returned rV ∧ QPure (none) h0 n0 rV U'.heap rL ∧ FrameEnd U oO U' rL 0 0) := by
  refine MetFree.of_bodySF (plainFor_of_name pn_2) hisR ?_
  intro p e s m args below meth cC s₁ Bd hml0 hP hK
  obtain ⟨rfl, hZ, hh⟩ := hP
  have hx := Bd.exec
  have hby := Bd.bytes
  have hml : cC.maxLocals = 3 := hml0
  have hown : s.vm.findClass "java/lang/AbstractStringBuilder" = some m.cls := findClass_of_methodNamed Bd.named
  have hnm := (name_of_methodNamed Bd.named Bd.method).1
  have hrt := Bd.returns
  have hlk : meth.locks = false := Bd.notSynchronized
  have X0 : Stand p l e ⟨0, 0, 0, 0⟩ s m #[(.ref b), (.int (Int32.ofNat mm))] below meth cC s₁ [] 0 0 := Stand.of_body Bd
  have e0 : s₁.heap = h0 := by rw [← hh, Bd.state]; rfl
  have N0 := Fr.nil n0
  have Z0 : n0 ≤ h0.size := O0.1 ▸ O0.2.1
  show own_Go p e below (s₁.setTop (entryFrame m #[(.ref b), (.int (Int32.ofNat mm))] 3)) (fun oO U' => ∃ rV rL, oO = .returned rV ∧ QPure (none) h0 n0 rV U'.heap rL ∧ FrameEnd s oO U' rL 0 0)
  refine own_go (fun _ k => castTop (ef_rm_enn m b _) k) ?_
  have hlen : cs.length ≤ 4000 := hok.2
  obtain ⟨hcM, hM34⟩ := hM
  have hbv := Exa.neArv E_b V_v (tw hw 42 rfl)
  refine og (fun _ k => XS.aloadN X0.here hx rfl (hb hby d68_9_0) rfl rfl k) ?_
  obtain ⟨T131, X131, e131, st131⟩ := getF X0 hx hZ hown (host := "") (Or.inl (tw hw 55 rfl)) Via.refl e0 Fv_b (g := (mkF m 1 #[.val (.ref b), .val (.int (Int32.ofNat mm)), .unset] [(.ref b)])) rfl rfl (hb hby d68_9_1)
  refine own_go st131 ?_
  obtain ⟨c132, A132, q132, S132, M132, Hs132, Gs132⟩ := id V_v
  refine og (fun _ k => X131.arraylength hx (by rw [e131]; exact A132.1) (State.isArrayOf_alike hZ.alike A132.2.1) (g := (mkF m 4 #[.val (.ref b), .val (.int (Int32.ofNat mm)), .unset] [(.ref v)])) rfl rfl (hb hby d68_9_4) _ k) ?_
  rw [len_of S132 M132]
  refine og (fun _ k => XS.aloadN X131.here hx rfl (hb hby d68_9_5) rfl rfl k) ?_
  try dsimp only [mkF]
  obtain ⟨T133, X133, e133, st133⟩ := getF X131 hx hZ hown (host := "") (Or.inl (tw hw 57 rfl)) Via.refl e131 Fc_b (g := (mkF m 6 #[.val (.ref b), .val (.int (Int32.ofNat mm)), .unset] [(.ref b), (.int (16 : Int32))])) rfl rfl (hb hby d68_9_6)
  refine own_go st133 ?_
  refine og (fun _ k => XS.ishr X133.here hx rfl (hb hby d68_9_9) rfl k) ?_
  show own_Go p e below (T133.setTop (mkF m 10 #[.val (.ref b), .val (.int (Int32.ofNat mm)), .unset] [(.int (16 : Int32))])) _
  refine og (fun _ k => XS.istoreN X133.here hx rfl (hb hby d68_9_10) rfl (l' := #[.val (.ref b), .val (.int (Int32.ofNat mm)), .val (.int (16 : Int32))]) rfl k) ?_
  refine og (fun _ k => XS.iloadN X133.here hx rfl (hb hby d68_9_11) rfl k) ?_
  refine og (fun _ k => XS.iloadN X133.here hx rfl (hb hby d68_9_12) rfl k) ?_
  try dsimp only [mkF]
  refine og (fun _ k => XS.isub X133.here hx rfl (hb hby d68_9_13) rfl k) ?_
  refine og (fun _ k => XS.ifYes X133.here hx rfl (pc0 := 14) (pc' := 38) rfl (hb hby d68_9_14) rfl ((if0 _ _).trans (flt (own_sub16 hm)).2.2.2) (by decide) (by decide) k) ?_
  refine own_fin (v := none) X133 (fun _ => rfl) hlk (fun fs hr => X133.returnOut hx hrt (hb hby d68_9_38) hr) (QQ := QPure (none) h0 n0) ?_ (by decide) (by decide)
  rw [e133]
  exact ⟨rfl, N0, rfl⟩

def QGrow (Z : State) (b : Addr) (M : Nat) (cs : List Int32) (h0 : Heap) (n0 : Nat) (r : Option Value) (h : Heap) (L : List Loc) : Prop := ∃ (v : Addr) (kv : ClassId), r = none ∧ Fr n0 L ∧ Keep h0 h [b] ∧ h0.size ≤ v ∧ Fld Z h b "java/lang/AbstractStringBuilder" "value" "[B" (.ref v) ∧ Fld Z h b "java/lang/AbstractStringBuilder" "coder" "B" (.int (0 : Int32)) ∧ Fld Z h b "java/lang/AbstractStringBuilder" "count" "I" (.int (Int32.ofNat cs.length)) ∧ Fld Z h b "java/lang/AbstractStringBuilder" "maybeLatin1" "Z" (.int (0 : Int32)) ∧ Arv Z h v kv .byte (Int32.ofNat M) (own_sM M cs) (.int (0 : Int32)) ∧ Exa Z h v "[B"
theorem d68_9_17 : Dk k68_9 17 (.aload_n 0) 1 := own_k
theorem d68_9_18 : Dk k68_9 18 (.aload_n 0) 1 := own_k
theorem d68_9_19 : Dk k68_9 19 (.getfield 15) 3 := own_k
theorem d68_9_22 : Dk k68_9 22 (.aload_n 0) 1 := own_k
theorem d68_9_23 : Dk k68_9 23 (.iload_n 1) 1 := own_k
theorem d68_9_24 : Dk k68_9 24 (.invokevirtual 104) 3 := own_k
theorem d68_9_27 : Dk k68_9 27 (.aload_n 0) 1 := own_k
theorem d68_9_28 : Dk k68_9 28 (.getfield 22) 3 := own_k
theorem d68_9_31 : Dk k68_9 31 .ishl 1 := own_k
theorem d68_9_32 : Dk k68_9 32 (.invokestatic 108) 3 := own_k
theorem pd_16 : parseMethodDescriptor "([BI)[B" = some ⟨[(.array .byte), .int], some (.array .byte)⟩ := by decide +kernel
theorem d68_9_35 : Dk k68_9 35 (.putfield 15) 3 := own_k
theorem ef_rm_eng (m : MethodId) (x0 : Addr) (x1 : Int32) : entryFrame m #[(.ref x0), (.int x1)] 3 = mkF m 0 #[.val (.ref x0), .val (.int x1), .unset] [] := by
   first | (simp [entryFrame, mkF, argsToLocals, Value.category]; done) | rfl
set_option maxRecDepth 65536 in
set_option maxHeartbeats 40000000 in
theorem rm_eng (l : Launch) (Z : State) (a0 : Array Value) (hw : ∀ d ∈ tables_1, d.before a0 Z = true) (ws : List Jvm.Cond) (b v : Addr) (kv : ClassId) (cs : List Int32) (mm : Nat) (G1 : Int32) (G3 : Value) (h0 : Heap) (n0 : Nat) (O0 : Old Z n0 h0) (O2 : Sta Z Z.heap "java/lang/String" "COMPACT_STRINGS" "Z" (.int G1)) (P5 : ¬ (G1 = (0 : Int32))) (O4 : Sta Z Z.heap "jdk/internal/util/Preconditions" "SIOOBE_FORMATTER" "Ljava/util/function/BiFunction;" G3) (rG3 : G3.isRef = true) (OA : Sta Z Z.heap "java/lang/StringUTF16" "$assertionsDisabled" "Z" (.int (1 : Int32))) (OH : Sta Z Z.heap "java/lang/StringUTF16" "HI_BYTE_SHIFT" "I" (.int (0 : Int32))) (OL : Sta Z Z.heap "java/lang/StringUTF16" "LO_BYTE_SHIFT" "I" (.int (8 : Int32))) (E_b : Exa Z h0 b "java/lang/StringBuilder") (Fv_b : Fld Z h0 b "java/lang/AbstractStringBuilder" "value" "[B" (.ref v)) (Fc_b : Fld Z h0 b "java/lang/AbstractStringBuilder" "coder" "B" (.int (0 : Int32))) (Fn_b : Fld Z h0 b "java/lang/AbstractStringBuilder" "count" "I" (.int (Int32.ofNat cs.length))) (Fm_b : Fld Z h0 b "java/lang/AbstractStringBuilder" "maybeLatin1" "Z" (.int (0 : Int32))) (V_v : Arv Z h0 v kv .byte (Int32.ofNat 16) (own_sM 16 cs) (.int (0 : Int32))) (X_v : Exa Z h0 v "[B") (hall : ∀ c ∈ cs, ¬ (255 : Int32) < c) (hok : own_Ok cs) (hM : cs.length ≤ 16 ∧ 16 ≤ 34) (g_b : n0 ≤ b) (g_v : n0 ≤ v) (h16 : 16 < mm) (h34 : mm ≤ 34) :
    MetFree l (⟨"java/lang/AbstractStringBuilder", "ensureCapacityInternal", "(I)V"⟩ : MethodName) (head1 (Jvm.Cond.code (⟨"java/lang/AbstractStringBuilder", "ensureCapacityInternal", "(I)V"⟩ : MethodName) jdk_68_method_9_code 3 none :: ws) ⟨3, 1, 34, 48⟩) (fun aA U => aA = #[(.ref b), (.int (Int32.ofNat mm))] ∧ Z.Warmed39 U.vm ∧ U.heap = h0) (fun _ _ _ _ _ => True) (fun _ U oO U' => ∃ rV rL, oO = .returned rV ∧ QGrow Z b 34 cs h0 n0 rV U'.heap rL ∧ FrameEnd U oO U' rL 1 34) := by
  refine MetFree.of_bodySF (plainFor_of_name pn_2) hisR ?_
  intro p e s m args below meth cC s₁ Bd hml0 hP hK
  obtain ⟨rfl, hZ, hh⟩ := hP
  have hx := Bd.exec
  have hby := Bd.bytes
  have hml : cC.maxLocals = 3 := hml0
  have hown : s.vm.findClass "java/lang/AbstractStringBuilder" = some m.cls := findClass_of_methodNamed Bd.named
  have hnm := (name_of_methodNamed Bd.named Bd.method).1
  have hrt := Bd.returns
  have hlk : meth.locks = false := Bd.notSynchronized
  have X0 : Stand p l e ⟨3, 1, 34, 48⟩ s m #[(.ref b), (.int (Int32.ofNat mm))] below meth cC s₁ [] 0 0 := Stand.of_body Bd
  have e0 : s₁.heap = h0 := by rw [← hh, Bd.state]; rfl
  have N0 := Fr.nil n0
  have Z0 : n0 ≤ h0.size := O0.1 ▸ O0.2.1
  show own_Go p e below (s₁.setTop (entryFrame m #[(.ref b), (.int (Int32.ofNat mm))] 3)) (fun oO U' => ∃ rV rL, oO = .returned rV ∧ QGrow Z b 34 cs h0 n0 rV U'.heap rL ∧ FrameEnd s oO U' rL 1 34)
  refine own_go (fun _ k => castTop (ef_rm_eng m b _) k) ?_
  have hlen : cs.length ≤ 4000 := hok.2
  obtain ⟨hcM, hM34⟩ := hM
  have hbv := Exa.neArv E_b V_v (tw hw 42 rfl)
  refine og (fun _ k => XS.aloadN X0.here hx rfl (hb hby d68_9_0) rfl rfl k) ?_
  obtain ⟨T134, X134, e134, st134⟩ := getF X0 hx hZ hown (host := "") (Or.inl (tw hw 55 rfl)) Via.refl e0 Fv_b (g := (mkF m 1 #[.val (.ref b), .val (.int (Int32.ofNat mm)), .unset] [(.ref b)])) rfl rfl (hb hby d68_9_1)
  refine own_go st134 ?_
  obtain ⟨c135, A135, q135, S135, M135, Hs135, Gs135⟩ := id V_v
  refine og (fun _ k => X134.arraylength hx (by rw [e134]; exact A135.1) (State.isArrayOf_alike hZ.alike A135.2.1) (g := (mkF m 4 #[.val (.ref b), .val (.int (Int32.ofNat mm)), .unset] [(.ref v)])) rfl rfl (hb hby d68_9_4) _ k) ?_
  rw [len_of S135 M135]
  refine og (fun _ k => XS.aloadN X134.here hx rfl (hb hby d68_9_5) rfl rfl k) ?_
  try dsimp only [mkF]
  obtain ⟨T136, X136, e136, st136⟩ := getF X134 hx hZ hown (host := "") (Or.inl (tw hw 57 rfl)) Via.refl e134 Fc_b (g := (mkF m 6 #[.val (.ref b), .val (.int (Int32.ofNat mm)), .unset] [(.ref b), (.int (16 : Int32))])) rfl rfl (hb hby d68_9_6)
  refine own_go st136 ?_
  refine og (fun _ k => XS.ishr X136.here hx rfl (hb hby d68_9_9) rfl k) ?_
  show own_Go p e below (T136.setTop (mkF m 10 #[.val (.ref b), .val (.int (Int32.ofNat mm)), .unset] [(.int (16 : Int32))])) _
  refine og (fun _ k => XS.istoreN X136.here hx rfl (hb hby d68_9_10) rfl (l' := #[.val (.ref b), .val (.int (Int32.ofNat mm)), .val (.int (16 : Int32))]) rfl k) ?_
  refine og (fun _ k => XS.iloadN X136.here hx rfl (hb hby d68_9_11) rfl k) ?_
  refine og (fun _ k => XS.iloadN X136.here hx rfl (hb hby d68_9_12) rfl k) ?_
  try dsimp only [mkF]
  refine og (fun _ k => XS.isub X136.here hx rfl (hb hby d68_9_13) rfl k) ?_
  refine og (fun _ k => XS.ifNo X136.here hx rfl (hb hby d68_9_14) rfl ((if0 _ _).trans (tlt (own_g16 h16 h34)).2.2.2) k) ?_
  refine og (fun _ k => XS.aloadN X136.here hx rfl (hb hby d68_9_17) rfl rfl k) ?_
  refine og (fun _ k => XS.aloadN X136.here hx rfl (hb hby d68_9_18) rfl rfl k) ?_
  obtain ⟨T137, X137, e137, st137⟩ := getF X136 hx hZ hown (host := "") (Or.inl (tw hw 55 rfl)) Via.refl e136 Fv_b (g := (mkF m 19 #[.val (.ref b), .val (.int (Int32.ofNat mm)), .val (.int (16 : Int32))] [(.ref b), (.ref b)])) rfl rfl (hb hby d68_9_19)
  refine own_go st137 ?_
  try dsimp only [mkF]
  refine og (fun _ k => XS.aloadN X137.here hx rfl (hb hby d68_9_22) rfl rfl k) ?_
  refine og (fun _ k => XS.iloadN X137.here hx rfl (hb hby d68_9_23) rfl k) ?_
  obtain ⟨cq138, q138, q138'⟩ := E_b.cell
  obtain ⟨v138, _, ⟨T138, L138, k138, n138⟩, -, X138, ⟨Lc138, hQ138, l138, y138, z138⟩, st138⟩ := X137.privateBack hx (y := (⟨"java/lang/AbstractStringBuilder", "newCapacity", "(I)I"⟩ : MethodName)) hown (mvT hZ (tw hw 225 rfl)) (mvT hZ (tw hw 226 rfl)) (own_selQ hZ (tw hw 228 rfl) (tw hw 227 rfl) (tw hw 226 rfl) (by decide)) (Cond.privateMethod_at (mvP hZ (tw hw 227 rfl) (args := #[]))) (mvT hZ (tw hw 229 rfl)) (by decide) (backOf (W := 2) (rm_ncp l Z a0 hw [] b v kv cs mm h0 n0 O0 E_b Fv_b Fc_b V_v h16 h34) hZ (tw hw 229 rfl) (tw hw 51 rfl) (by decide) (by decide)) (g := (mkF m 24 #[.val (.ref b), .val (.int (Int32.ofNat mm)), .val (.int (16 : Int32))] [(.int (Int32.ofNat mm)), (.ref b), (.ref v), (.ref b)])) rfl (by rw [hml]; rfl) (Steps.refl _) (a := b) (by rw [e137]; exact q138) q138' (argsL := [(.int (Int32.ofNat mm))]) (rest := [(.ref v), (.ref b)]) (lenOf pd_1 rfl) rfl (by show 2 * 0 + _ ≤ _; exact Nat.le_of_eq rfl) (hb hby d68_9_24) (fun _ _ => ⟨rfl, e137, (by decide : 0 + 0 ≤ _), (by decide : 0 + 0 ≤ _)⟩)
  dsimp only [Pt.U, Pt.locs, Pt.cells, Pt.slots] at X138 l138 y138 z138 st138 hQ138
  subst l138 y138 z138
  refine own_gos st138 ?_
  obtain ⟨rfl, Nq138, e138⟩ := hQ138
  have N138 := Fr.app N0 Nq138
  refine og (fun _ k => XS.aloadN X138.here hx rfl (hb hby d68_9_27) rfl rfl k) ?_
  obtain ⟨T139, X139, e139, st139⟩ := getF X138 hx hZ hown (host := "") (Or.inl (tw hw 57 rfl)) Via.refl e138 Fc_b (g := (mkF m 28 #[.val (.ref b), .val (.int (Int32.ofNat mm)), .val (.int (16 : Int32))] [(.ref b), (.int (34 : Int32)), (.ref v), (.ref b)])) rfl rfl (hb hby d68_9_28)
  refine own_go st139 ?_
  try dsimp only [mkF]
  refine og (fun _ k => XS.ishl X139.here hx rfl (hb hby d68_9_31) rfl k) ?_
  show own_Go p e below (T139.setTop (mkF m 32 #[.val (.ref b), .val (.int (Int32.ofNat mm)), .val (.int (16 : Int32))] [(.int (34 : Int32)), (.ref v), (.ref b)])) _
  obtain ⟨v140, _, ⟨T140, L140, k140, n140⟩, -, X140, ⟨Lc140, hQ140, l140, y140, z140⟩, st140⟩ := Jvm.LawKit.callS X139 hx (y := (⟨"java/util/Arrays", "copyOf", "([BI)[B"⟩ : MethodName)) hown (mvT hZ (tw hw 239 rfl)) (mvT hZ (tw hw 240 rfl)) (mvT hZ (tw hw 139 rfl)) (mvT hZ (tw hw 241 rfl)) (by decide) (backOf (W := 1) (rm_cpo l Z a0 hw [] v kv cs h0 n0 O0 V_v hcM) hZ (tw hw 241 rfl) (tw hw 139 rfl) (by decide) (by decide)) (g := (mkF m 32 #[.val (.ref b), .val (.int (Int32.ofNat mm)), .val (.int (16 : Int32))] [(.int (34 : Int32)), (.ref v), (.ref b)])) rfl (by rw [hml]; rfl) (argsL := [(.ref v), (.int (34 : Int32))]) (rest := [(.ref b)]) (lenOf pd_16 rfl) rfl (by show 2 * 0 + _ ≤ _; exact Nat.le_of_eq rfl) (hb hby d68_9_32) (fun _ _ => ⟨rfl, e139, (by decide : 0 + 1 ≤ _), (by decide : 0 + 34 ≤ _)⟩)
  dsimp only [Pt.U, Pt.locs, Pt.cells, Pt.slots] at X140 l140 y140 z140 st140 hQ140
  subst l140 y140 z140
  refine own_go st140 ?_
  obtain ⟨t140, kt140, rfl, Nq140, K140, tg140, Vt140, Xt140⟩ := hQ140
  have N140 := Fr.app N138 Nq140
  obtain ⟨T141, h141, X141, e141, W141, st141⟩ := putF X140 hx hZ hown (host := "") (Or.inl (tw hw 55 rfl)) Via.refl (rfl : T140.heap = T140.heap) (Fv_b.keep K140 nin0) (E_b.keep K140) (Or.inl (tw hw 56 rfl)) (tw hw 42 rfl) (ty := (.array .byte)) (by decide) rfl rfl (g := (mkF m 35 #[.val (.ref b), .val (.int (Int32.ofNat mm)), .val (.int (16 : Int32))] [(.ref t140), (.ref b)])) rfl rfl (hb hby d68_9_35)
  refine own_go st141 ?_
  have N141 := Fr.snoc X141 N140 g_b
  have Fw141 := (Fv_b.keep K140 nin0).same W141
  have f142 := (((Keep.refl h0 [b]).trans K140 all0).wr W141 (Or.inl (List.mem_of_getElem? (i := 0) rfl)))
  have f143 := ((Fc_b.keep K140 nin0).other W141 (Or.inr (slot_ne (Or.inl (tw hw 58 rfl)) (Or.inl (tw hw 56 rfl)) (by decide) (t := .byte) (t' := (.array .byte)) (by decide) (by decide))))
  have f144 := ((Fn_b.keep K140 nin0).other W141 (Or.inr (slot_ne (Or.inl (tw hw 81 rfl)) (Or.inl (tw hw 56 rfl)) (by decide) (t := .int) (t' := (.array .byte)) (by decide) (by decide))))
  have f145 := ((Fm_b.keep K140 nin0).other W141 (Or.inr (slot_ne (Or.inl (tw hw 289 rfl)) (Or.inl (tw hw 56 rfl)) (by decide) (t := .boolean) (t' := (.array .byte)) (by decide) (by decide))))
  have ne146 : b ≠ t140 := Nat.ne_of_lt (Nat.lt_of_lt_of_le E_b.lt tg140)
  have f147 := (Vt140.other W141 (Ne.symm ne146))
  refine own_fin (v := none) X141 (fun _ => rfl) hlk (fun fs hr => X141.returnOut hx hrt (hb hby d68_9_38) hr) (QQ := QGrow Z b 34 cs h0 n0) ?_ (by decide) (by decide)
  rw [e141]
  exact ⟨t140, _, rfl, N141, f142, tg140, Fw141, f143, f144, f145, f147, (Xt140.wr W141)⟩

theorem own_lgd2 {cs : List Int32} {i : Nat} (h : i < cs.length) : (own_lat cs).getD i (.int (0 : Int32)) = .int (StrChars.lo8 (cs.getD i 0)) := by simp [own_lat, List.getD_eq_getElem?_getD, h]
theorem own_cdiA {cd : Int32} {cs ts : List Int32} (h : own_cdi cd cs) (q : ∀ c ∈ ts, ¬ (255 : Int32) < c) : own_cdi cd (cs ++ ts) := by
  rcases h with ⟨rfl, ha⟩ | ⟨rfl, hx⟩
  · exact own_cdi3 ha q
  · exact own_cdi2 hx
theorem own_wLen {Z : State} {a0 : Array Value} (hw : ∀ d ∈ tables_1, d.before a0 Z = true) : ∀ d ∈ StrChars.Road.wordsLen, d.before a0 Z = true := fun d hd => hw d ((by decide +kernel : ∀ d ∈ StrChars.Road.wordsLen, d ∈ tables_1) d hd)
abbrev k42_152 := jdk_42_method_152_code
theorem d42_152_0 : Dk k42_152 0 (.getstatic 38) 3 := own_k
theorem d42_152_3 : Dk k42_152 3 (.ifCond .eq 10) 3 := own_k
theorem d42_152_6 : Dk k42_152 6 (.aload_n 0) 1 := own_k
theorem d42_152_7 : Dk k42_152 7 (.getfield 15) 3 := own_k
theorem d42_152_10 : Dk k42_152 10 (.goto 4) 3 := own_k
theorem d42_152_14 : Dk k42_152 14 .ireturn 1 := own_k
theorem ef_rm_cod0 (m : MethodId) (x0 : Addr) : entryFrame m #[(.ref x0)] 1 = mkF m 0 #[.val (.ref x0)] [] := by
   first | (simp [entryFrame, mkF, argsToLocals, Value.category]; done) | rfl
set_option maxRecDepth 65536 in
set_option maxHeartbeats 40000000 in
theorem rm_cod0 (l : Launch) (Z : State) (a0 : Array Value) (hw : ∀ d ∈ tables_1, d.before a0 Z = true) (ws : List Jvm.Cond) (x : Addr) (G1 : Int32) (h0 : Heap) (n0 : Nat) (O0 : Old Z n0 h0) (E_x : Exa Z h0 x "java/lang/String") (Fc_x : Fld Z h0 x "java/lang/String" "coder" "B" (.int (0 : Int32))) (O2 : Sta Z Z.heap "java/lang/String" "COMPACT_STRINGS" "Z" (.int G1)) (P5 : ¬ (G1 = (0 : Int32))) :
    MetFree l (⟨"java/lang/String", "coder", "()B"⟩ : MethodName) (head1 (Jvm.Cond.code (⟨"java/lang/String", "coder", "()B"⟩ : MethodName) jdk_42_method_152_code 1 (some .byte) :: ws) ⟨0, 0, 0, 0⟩) (fun aA U => aA = #[(.ref x)] ∧ Z.Warmed39 U.vm ∧ U.heap = h0) (fun _ _ _ _ _ => True) (fun _ U oO U' => ∃ rV rL, oO = .returned rV ∧ QPure (some (.int (0 : Int32))) h0 n0 rV U'.heap rL ∧ FrameEnd U oO U' rL 0 0) := by
  refine MetFree.of_bodySF (plainFor_of_name pn_0) hisR ?_
  intro p e s m args below meth cC s₁ Bd hml0 hP hK
  obtain ⟨rfl, hZ, hh⟩ := hP
  have hx := Bd.exec
  have hby := Bd.bytes
  have hml : cC.maxLocals = 1 := hml0
  have hown : s.vm.findClass "java/lang/String" = some m.cls := findClass_of_methodNamed Bd.named
  have hnm := (name_of_methodNamed Bd.named Bd.method).1
  have hrt := Bd.returns
  have hlk : meth.locks = false := Bd.notSynchronized
  have X0 : Stand p l e ⟨0, 0, 0, 0⟩ s m #[(.ref x)] below meth cC s₁ [] 0 0 := Stand.of_body Bd
  have e0 : s₁.heap = h0 := by rw [← hh, Bd.state]; rfl
  have N0 := Fr.nil n0
  have Z0 : n0 ≤ h0.size := O0.1 ▸ O0.2.1
  show own_Go p e below (s₁.setTop (entryFrame m #[(.ref x)] 1)) (fun oO U' => ∃ rV rL, oO = .returned rV ∧ QPure (some (.int (0 : Int32))) h0 n0 rV U'.heap rL ∧ FrameEnd s oO U' rL 0 0)
  refine own_go (fun _ k => castTop (ef_rm_cod0 m x) k) ?_
  obtain ⟨T148, X148, e148, st148⟩ := getS2 X0 hx hZ hown (host := "") (Or.inl (tw hw 23 rfl)) Via.refl e0 (O2.ext O0.2) (g := (mkF m 0 #[.val (.ref x)] [])) rfl (hb hby d42_152_0)
  refine own_go st148 ?_
  refine og (fun _ k => XS.ifNo X148.here hx rfl (hb hby d42_152_3) rfl ((if0 _ _).trans (feq P5).1) k) ?_
  refine og (fun _ k => XS.aloadN X148.here hx rfl (hb hby d42_152_6) rfl rfl k) ?_
  obtain ⟨T149, X149, e149, st149⟩ := getF X148 hx hZ hown (host := "") (Or.inl (tw hw 22 rfl)) Via.refl e148 Fc_x (g := (mkF m 7 #[.val (.ref x)] [(.ref x)])) rfl rfl (hb hby d42_152_7)
  refine own_go st149 ?_
  try dsimp only [mkF]
  refine og (fun _ k => XS.goto X149.here hx rfl (pc0 := 10) (pc' := 14) rfl (hb hby d42_152_10) (by decide) (by decide) k) ?_
  refine own_fin (v := (some (.int (nar .byte (0 : Int32))))) X149 (fun h => by rw [hrt] at h; cases h) hlk (fun fs hr => retN X149 hx (t := .byte) hrt (by simp) (hb hby d42_152_14) hr) (QQ := QPure (some (.int (0 : Int32))) h0 n0) ?_ (by decide) (by decide)
  rw [e149]
  exact ⟨rfl, N0, rfl⟩

theorem ef_rm_cod1 (m : MethodId) (x0 : Addr) : entryFrame m #[(.ref x0)] 1 = mkF m 0 #[.val (.ref x0)] [] := by
   first | (simp [entryFrame, mkF, argsToLocals, Value.category]; done) | rfl
set_option maxRecDepth 65536 in
set_option maxHeartbeats 40000000 in
theorem rm_cod1 (l : Launch) (Z : State) (a0 : Array Value) (hw : ∀ d ∈ tables_1, d.before a0 Z = true) (ws : List Jvm.Cond) (x : Addr) (G1 : Int32) (h0 : Heap) (n0 : Nat) (O0 : Old Z n0 h0) (E_x : Exa Z h0 x "java/lang/String") (Fc_x : Fld Z h0 x "java/lang/String" "coder" "B" (.int (1 : Int32))) (O2 : Sta Z Z.heap "java/lang/String" "COMPACT_STRINGS" "Z" (.int G1)) (P5 : ¬ (G1 = (0 : Int32))) :
    MetFree l (⟨"java/lang/String", "coder", "()B"⟩ : MethodName) (head1 (Jvm.Cond.code (⟨"java/lang/String", "coder", "()B"⟩ : MethodName) jdk_42_method_152_code 1 (some .byte) :: ws) ⟨0, 0, 0, 0⟩) (fun aA U => aA = #[(.ref x)] ∧ Z.Warmed39 U.vm ∧ U.heap = h0) (fun _ _ _ _ _ => True) (fun _ U oO U' => ∃ rV rL, oO = .returned rV ∧ QPure (some (.int (1 : Int32))) h0 n0 rV U'.heap rL ∧ FrameEnd U oO U' rL 0 0) := by
  refine MetFree.of_bodySF (plainFor_of_name pn_0) hisR ?_
  intro p e s m args below meth cC s₁ Bd hml0 hP hK
  obtain ⟨rfl, hZ, hh⟩ := hP
  have hx := Bd.exec
  have hby := Bd.bytes
  have hml : cC.maxLocals = 1 := hml0
  have hown : s.vm.findClass "java/lang/String" = some m.cls := findClass_of_methodNamed Bd.named
  have hnm := (name_of_methodNamed Bd.named Bd.method).1
  have hrt := Bd.returns
  have hlk : meth.locks = false := Bd.notSynchronized
  have X0 : Stand p l e ⟨0, 0, 0, 0⟩ s m #[(.ref x)] below meth cC s₁ [] 0 0 := Stand.of_body Bd
  have e0 : s₁.heap = h0 := by rw [← hh, Bd.state]; rfl
  have N0 := Fr.nil n0
  have Z0 : n0 ≤ h0.size := O0.1 ▸ O0.2.1
  show own_Go p e below (s₁.setTop (entryFrame m #[(.ref x)] 1)) (fun oO U' => ∃ rV rL, oO = .returned rV ∧ QPure (some (.int (1 : Int32))) h0 n0 rV U'.heap rL ∧ FrameEnd s oO U' rL 0 0)
  refine own_go (fun _ k => castTop (ef_rm_cod1 m x) k) ?_
  obtain ⟨T150, X150, e150, st150⟩ := getS2 X0 hx hZ hown (host := "") (Or.inl (tw hw 23 rfl)) Via.refl e0 (O2.ext O0.2) (g := (mkF m 0 #[.val (.ref x)] [])) rfl (hb hby d42_152_0)
  refine own_go st150 ?_
  refine og (fun _ k => XS.ifNo X150.here hx rfl (hb hby d42_152_3) rfl ((if0 _ _).trans (feq P5).1) k) ?_
  refine og (fun _ k => XS.aloadN X150.here hx rfl (hb hby d42_152_6) rfl rfl k) ?_
  obtain ⟨T151, X151, e151, st151⟩ := getF X150 hx hZ hown (host := "") (Or.inl (tw hw 22 rfl)) Via.refl e150 Fc_x (g := (mkF m 7 #[.val (.ref x)] [(.ref x)])) rfl rfl (hb hby d42_152_7)
  refine own_go st151 ?_
  try dsimp only [mkF]
  refine og (fun _ k => XS.goto X151.here hx rfl (pc0 := 10) (pc' := 14) rfl (hb hby d42_152_10) (by decide) (by decide) k) ?_
  refine own_fin (v := (some (.int (nar .byte (1 : Int32))))) X151 (fun h => by rw [hrt] at h; cases h) hlk (fun fs hr => retN X151 hx (t := .byte) hrt (by simp) (hb hby d42_152_14) hr) (QQ := QPure (some (.int (1 : Int32))) h0 n0) ?_ (by decide) (by decide)
  rw [e151]
  exact ⟨rfl, N0, rfl⟩

theorem ef_rm_nbe (m : MethodId) (x0 : Int32) : entryFrame m #[(.int x0)] 1 = mkF m 0 #[.val (.int x0)] [] := by
   first | (simp [entryFrame, mkF, argsToLocals, Value.category]; done) | rfl
set_option maxRecDepth 65536 in
set_option maxHeartbeats 40000000 in
theorem rm_nbe (l : Launch) (Z : State) (a0 : Array Value) (hw : ∀ d ∈ tables_1, d.before a0 Z = true) (ws : List Jvm.Cond) (n : Nat) (h0 : Heap) (n0 : Nat) (O0 : Old Z n0 h0) (hn : n ≤ 34) :
    MetFree l (⟨"java/lang/StringUTF16", "newBytesFor", "(I)[B"⟩ : MethodName) (head1 (Jvm.Cond.code (⟨"java/lang/StringUTF16", "newBytesFor", "(I)[B"⟩ : MethodName) jdk_52_method_2_code 1 (some (.array .byte)) :: ws) ⟨1, 1, 68, 12⟩) (fun aA U => aA = #[(.int (Int32.ofNat n))] ∧ Z.Warmed39 U.vm ∧ U.heap = h0) (fun _ _ _ _ _ => True) (fun _ U oO U' => ∃ rV rL, oO = .returned rV ∧ QNewE Z (Int32.ofNat (2 * n)) (List.replicate (2 * n) (.int (0 : Int32))) h0 n0 rV U'.heap rL ∧ FrameEnd U oO U' rL 1 68) := by
  refine MetFree.of_bodySF (plainFor_of_name pn_1) hisR ?_
  intro p e s m args below meth cC s₁ Bd hml0 hP hK
  obtain ⟨rfl, hZ, hh⟩ := hP
  have hx := Bd.exec
  have hby := Bd.bytes
  have hml : cC.maxLocals = 1 := hml0
  have hown : s.vm.findClass "java/lang/StringUTF16" = some m.cls := findClass_of_methodNamed Bd.named
  have hnm := (name_of_methodNamed Bd.named Bd.method).1
  have hrt := Bd.returns
  have hlk : meth.locks = false := Bd.notSynchronized
  have X0 : Stand p l e ⟨1, 1, 68, 12⟩ s m #[(.int (Int32.ofNat n))] below meth cC s₁ [] 0 0 := Stand.of_body Bd
  have e0 : s₁.heap = h0 := by rw [← hh, Bd.state]; rfl
  have N0 := Fr.nil n0
  have Z0 : n0 ≤ h0.size := O0.1 ▸ O0.2.1
  show own_Go p e below (s₁.setTop (entryFrame m #[(.int (Int32.ofNat n))] 1)) (fun oO U' => ∃ rV rL, oO = .returned rV ∧ QNewE Z (Int32.ofNat (2 * n)) (List.replicate (2 * n) (.int (0 : Int32))) h0 n0 rV U'.heap rL ∧ FrameEnd s oO U' rL 1 68)
  refine own_go (fun _ k => castTop (ef_rm_nbe m _) k) ?_
  refine og (fun _ k => XS.iloadN X0.here hx rfl (hb hby d52_2_0) rfl k) ?_
  obtain ⟨v152, _, ⟨T152, L152, k152, n152⟩, -, X152, ⟨Lc152, hQ152, l152, y152, z152⟩, st152⟩ := Jvm.LawKit.callS X0 hx (y := (⟨"java/lang/StringUTF16", "newBytesLength", "(I)I"⟩ : MethodName)) hown (mvT hZ (tw hw 248 rfl)) (mvT hZ (tw hw 249 rfl)) (mvT hZ (tw hw 26 rfl)) (mvT hZ (tw hw 250 rfl)) (by decide) (backOf (W := 0) (rm_nbl l Z a0 hw [] n h0 n0 O0 (by omega)) hZ (tw hw 250 rfl) (tw hw 26 rfl) (by decide) (by decide)) (g := (mkF m 1 #[.val (.int (Int32.ofNat n))] [(.int (Int32.ofNat n))])) rfl (by rw [hml]; rfl) (argsL := [(.int (Int32.ofNat n))]) (rest := []) (lenOf pd_1 rfl) rfl (by show 2 * 0 + _ ≤ _; exact Nat.le_of_eq rfl) (hb hby d52_2_1) (fun _ _ => ⟨rfl, e0, (by decide : 0 + 0 ≤ _), (by decide : 0 + 0 ≤ _)⟩)
  dsimp only [Pt.U, Pt.locs, Pt.cells, Pt.slots] at X152 l152 y152 z152 st152 hQ152
  subst l152 y152 z152
  refine own_go st152 ?_
  obtain ⟨rfl, Nq152, e152⟩ := hQ152
  have N152 := Fr.app N0 Nq152
  obtain ⟨T153, h153, k153, X153, e153, E153, A153, Q153, st153⟩ := newPE X152 hx hZ (tw hw 16 rfl) e152 (g := (mkF m 4 #[.val (.int (Int32.ofNat n))] [(.int (Int32.ofNat (2 * n)))])) rfl (hb hby d52_2_4) rfl (own_nn0 (by omega)) (cap := 68) (by rw [own_tn (by omega)]; omega) (by decide) (by decide) (by decide) rfl
  obtain ⟨b153, g153⟩ : ∃ z, z = h0.size := ⟨_, rfl⟩
  rw [← g153] at A153 Q153 st153
  refine own_go st153 ?_
  have V153 : Arv Z h153 b153 k153 .byte (Int32.ofNat (2 * n)) (List.replicate ((Int32.ofNat (2 * n))).toNatClampNeg (.int (0 : Int32))) (.int (0 : Int32)) := (Arv.new A153 (own_nn0 (by omega))).pad (pad_rep [] (.int (0 : Int32)) _)
  have f154 := ((Keep.refl h0 []).ext E153)
  refine own_fin (v := (some (.ref b153))) X153 (fun h => by rw [hrt] at h; cases h) hlk (fun fs hr => retR X153 hx hrt (by rfl) rfl rfl (hb hby d52_2_6) hr) (QQ := QNewE Z (Int32.ofNat (2 * n)) (List.replicate (2 * n) (.int (0 : Int32))) h0 n0) ?_ (by decide) (by decide)
  rw [e153]
  exact ⟨b153, _, rfl, N152, f154, (Nat.le_of_eq g153.symm), by have q := V153; rw [own_tn (by omega)] at q; exact q, Q153⟩

def QWideM (Z : State) (b : Addr) (M : Nat) (cs ds : List Int32) (h0 : Heap) (n0 : Nat) (r : Option Value) (h : Heap) (L : List Loc) : Prop := ∃ (v : Addr) (kv : ClassId), r = none ∧ Fr n0 L ∧ Keep h0 h [b] ∧ h0.size ≤ v ∧ Fld Z h b "java/lang/AbstractStringBuilder" "value" "[B" (.ref v) ∧ Fld Z h b "java/lang/AbstractStringBuilder" "coder" "B" (.int (1 : Int32)) ∧ Fld Z h b "java/lang/AbstractStringBuilder" "count" "I" (.int (Int32.ofNat cs.length)) ∧ Fld Z h b "java/lang/AbstractStringBuilder" "maybeLatin1" "Z" (.int (0 : Int32)) ∧ Arv Z h v kv .byte (Int32.ofNat (2 * M)) (own_wM M ds) (.int (0 : Int32)) ∧ Exa Z h v "[B"
abbrev k68_11 := jdk_68_method_11_code
theorem d68_11_0 : Dk k68_11 0 (.aload_n 0) 1 := own_k
theorem d68_11_1 : Dk k68_11 1 (.invokevirtual 83) 3 := own_k
theorem pd_17 : parseMethodDescriptor "()Z" = some ⟨[], some .boolean⟩ := by decide +kernel
theorem d68_11_4 : Dk k68_11 4 (.ifCond .ne 4) 3 := own_k
theorem d68_11_8 : Dk k68_11 8 (.aload_n 0) 1 := own_k
theorem d68_11_9 : Dk k68_11 9 (.getfield 15) 3 := own_k
theorem d68_11_12 : Dk k68_11 12 .arraylength 1 := own_k
theorem d68_11_13 : Dk k68_11 13 (.invokestatic 26) 3 := own_k
theorem d68_11_16 : Dk k68_11 16 (.astore_n 1) 1 := own_k
theorem d68_11_17 : Dk k68_11 17 (.aload_n 0) 1 := own_k
theorem d68_11_18 : Dk k68_11 18 (.getfield 15) 3 := own_k
theorem d68_11_21 : Dk k68_11 21 (.iconst 0) 1 := own_k
theorem d68_11_22 : Dk k68_11 22 (.aload_n 1) 1 := own_k
theorem d68_11_23 : Dk k68_11 23 (.iconst 0) 1 := own_k
theorem d68_11_24 : Dk k68_11 24 (.aload_n 0) 1 := own_k
theorem d68_11_25 : Dk k68_11 25 (.getfield 79) 3 := own_k
theorem d68_11_28 : Dk k68_11 28 (.invokestatic 125) 3 := own_k
theorem d68_11_31 : Dk k68_11 31 (.aload_n 0) 1 := own_k
theorem d68_11_32 : Dk k68_11 32 (.aload_n 1) 1 := own_k
theorem d68_11_33 : Dk k68_11 33 (.putfield 15) 3 := own_k
theorem d68_11_36 : Dk k68_11 36 (.aload_n 0) 1 := own_k
theorem d68_11_37 : Dk k68_11 37 (.iconst 1) 1 := own_k
theorem d68_11_38 : Dk k68_11 38 (.putfield 22) 3 := own_k
theorem d68_11_41 : Dk k68_11 41 .return_ 1 := own_k
theorem ef_rm_aiM (m : MethodId) (x0 : Addr) : entryFrame m #[(.ref x0)] 2 = mkF m 0 #[.val (.ref x0), .unset] [] := by
   first | (simp [entryFrame, mkF, argsToLocals, Value.category]; done) | rfl
set_option maxRecDepth 65536 in
set_option maxHeartbeats 40000000 in
theorem rm_aiM (l : Launch) (Z : State) (a0 : Array Value) (hw : ∀ d ∈ tables_1, d.before a0 Z = true) (ws : List Jvm.Cond) (b v : Addr) (kv : ClassId) (M : Nat) (cs : List Int32) (G1 : Int32) (G3 : Value) (h0 : Heap) (n0 : Nat) (O0 : Old Z n0 h0) (O2 : Sta Z Z.heap "java/lang/String" "COMPACT_STRINGS" "Z" (.int G1)) (P5 : ¬ (G1 = (0 : Int32))) (O4 : Sta Z Z.heap "jdk/internal/util/Preconditions" "SIOOBE_FORMATTER" "Ljava/util/function/BiFunction;" G3) (rG3 : G3.isRef = true) (OA : Sta Z Z.heap "java/lang/StringUTF16" "$assertionsDisabled" "Z" (.int (1 : Int32))) (OH : Sta Z Z.heap "java/lang/StringUTF16" "HI_BYTE_SHIFT" "I" (.int (0 : Int32))) (OL : Sta Z Z.heap "java/lang/StringUTF16" "LO_BYTE_SHIFT" "I" (.int (8 : Int32))) (E_b : Exa Z h0 b "java/lang/StringBuilder") (Fv_b : Fld Z h0 b "java/lang/AbstractStringBuilder" "value" "[B" (.ref v)) (Fc_b : Fld Z h0 b "java/lang/AbstractStringBuilder" "coder" "B" (.int (0 : Int32))) (Fn_b : Fld Z h0 b "java/lang/AbstractStringBuilder" "count" "I" (.int (Int32.ofNat cs.length))) (Fm_b : Fld Z h0 b "java/lang/AbstractStringBuilder" "maybeLatin1" "Z" (.int (0 : Int32))) (V_v : Arv Z h0 v kv .byte (Int32.ofNat M) (own_sM M cs) (.int (0 : Int32))) (X_v : Exa Z h0 v "[B") (hall : ∀ c ∈ cs, ¬ (255 : Int32) < c) (hok : own_Ok cs) (hM : cs.length ≤ M ∧ M ≤ 34) (g_b : n0 ≤ b) (g_v : n0 ≤ v) :
    MetFree l (⟨"java/lang/AbstractStringBuilder", "inflate", "()V"⟩ : MethodName) (head1 (Jvm.Cond.code (⟨"java/lang/AbstractStringBuilder", "inflate", "()V"⟩ : MethodName) jdk_68_method_11_code 2 none :: ws) ⟨5, 1, 68, 76⟩) (fun aA U => aA = #[(.ref b)] ∧ Z.Warmed39 U.vm ∧ U.heap = h0) (fun _ _ _ _ _ => True) (fun _ U oO U' => ∃ rV rL, oO = .returned rV ∧ QWideM Z b M cs cs h0 n0 rV U'.heap rL ∧ FrameEnd U oO U' rL 1 68) := by
  refine MetFree.of_bodySF (plainFor_of_name pn_2) hisR ?_
  intro p e s m args below meth cC s₁ Bd hml0 hP hK
  obtain ⟨rfl, hZ, hh⟩ := hP
  have hx := Bd.exec
  have hby := Bd.bytes
  have hml : cC.maxLocals = 2 := hml0
  have hown : s.vm.findClass "java/lang/AbstractStringBuilder" = some m.cls := findClass_of_methodNamed Bd.named
  have hnm := (name_of_methodNamed Bd.named Bd.method).1
  have hrt := Bd.returns
  have hlk : meth.locks = false := Bd.notSynchronized
  have X0 : Stand p l e ⟨5, 1, 68, 76⟩ s m #[(.ref b)] below meth cC s₁ [] 0 0 := Stand.of_body Bd
  have e0 : s₁.heap = h0 := by rw [← hh, Bd.state]; rfl
  have N0 := Fr.nil n0
  have Z0 : n0 ≤ h0.size := O0.1 ▸ O0.2.1
  show own_Go p e below (s₁.setTop (entryFrame m #[(.ref b)] 2)) (fun oO U' => ∃ rV rL, oO = .returned rV ∧ QWideM Z b M cs cs h0 n0 rV U'.heap rL ∧ FrameEnd s oO U' rL 1 68)
  refine own_go (fun _ k => castTop (ef_rm_aiM m b) k) ?_
  have hlen : cs.length ≤ 4000 := hok.2
  obtain ⟨hcM, hM34⟩ := hM
  have hbv := Exa.neArv E_b V_v (tw hw 42 rfl)
  refine og (fun _ k => XS.aloadN X0.here hx rfl (hb hby d68_11_0) rfl rfl k) ?_
  obtain ⟨cq155, kq155, q155a, q155b, q155c⟩ := isOf hZ e0 E_b
  obtain ⟨v155, _, ⟨T155, L155, k155, n155⟩, -, X155, ⟨Lc155, hQ155, l155, y155, z155⟩, st155⟩ := X0.virtualBack hx (y := (⟨"java/lang/AbstractStringBuilder", "isLatin1", "()Z"⟩ : MethodName)) (z := (⟨"java/lang/AbstractStringBuilder", "isLatin1", "()Z"⟩ : MethodName)) hown (mvT hZ (tw hw 266 rfl)) (mvT hZ (tw hw 133 rfl)) (notFace_of_selects (args := #[]) (mvT hZ (tw hw 135 rfl))) (mvT hZ (tw hw 135 rfl)) (mvT hZ (tw hw 134 rfl)) (by decide) (backOf (W := 0) (rm_bl0 l Z a0 hw [] b G1 h0 n0 O0 E_b Fc_b O2 P5) hZ (tw hw 136 rfl) (tw hw 51 rfl) (by decide) (by decide)) q155a q155c (g := (mkF m 1 #[.val (.ref b), .unset] [(.ref b)])) rfl (by rw [hml]; rfl) (Steps.refl _) (argsL := []) (rest := []) (lenOf pd_17 rfl) rfl (by show 2 * 0 + _ ≤ _; exact Nat.le_of_eq rfl) (hb hby d68_11_1) (fun _ _ => ⟨rfl, e0, (by decide : 0 + 0 ≤ _), (by decide : 0 + 0 ≤ _)⟩)
  dsimp only [Pt.U, Pt.locs, Pt.cells, Pt.slots] at X155 l155 y155 z155 st155 hQ155
  subst l155 y155 z155
  refine own_gos st155 ?_
  obtain ⟨rfl, Nq155, e155⟩ := hQ155
  have N155 := Fr.app N0 Nq155
  refine og (fun _ k => XS.ifYes X155.here hx rfl (pc0 := 4) (pc' := 8) rfl (hb hby d68_11_4) rfl ((if0 _ _).trans (feq (by decide : ¬ ((1 : Int32) = (0 : Int32)))).2) (by decide) (by decide) k) ?_
  refine og (fun _ k => XS.aloadN X155.here hx rfl (hb hby d68_11_8) rfl rfl k) ?_
  try dsimp only [mkF]
  obtain ⟨T156, X156, e156, st156⟩ := getF X155 hx hZ hown (host := "") (Or.inl (tw hw 55 rfl)) Via.refl e155 Fv_b (g := (mkF m 9 #[.val (.ref b), .unset] [(.ref b)])) rfl rfl (hb hby d68_11_9)
  refine own_go st156 ?_
  obtain ⟨c157, A157, q157, S157, M157, Hs157, Gs157⟩ := id V_v
  refine og (fun _ k => X156.arraylength hx (by rw [e156]; exact A157.1) (State.isArrayOf_alike hZ.alike A157.2.1) (g := (mkF m 12 #[.val (.ref b), .unset] [(.ref v)])) rfl rfl (hb hby d68_11_12) _ k) ?_
  rw [len_of S157 M157]
  obtain ⟨v158, _, ⟨T158, L158, k158, n158⟩, -, X158, ⟨Lc158, hQ158, l158, y158, z158⟩, st158⟩ := Jvm.LawKit.callS X156 hx (y := (⟨"java/lang/StringUTF16", "newBytesFor", "(I)[B"⟩ : MethodName)) hown (mvT hZ (tw hw 267 rfl)) (mvT hZ (tw hw 246 rfl)) (mvT hZ (tw hw 26 rfl)) (mvT hZ (tw hw 247 rfl)) (by decide) (backOf (W := 0) (rm_nbe l Z a0 hw [] M h0 n0 O0 (by omega)) hZ (tw hw 247 rfl) (tw hw 26 rfl) (by decide) (by decide)) (g := (mkF m 13 #[.val (.ref b), .unset] [(.int (Int32.ofNat M))])) rfl (by rw [hml]; rfl) (argsL := [(.int (Int32.ofNat M))]) (rest := []) (lenOf pd_2 rfl) rfl (by show 2 * 0 + _ ≤ _; exact Nat.le_of_eq rfl) (hb hby d68_11_13) (fun _ _ => ⟨rfl, e156, (by decide : 0 + 1 ≤ _), (by decide : 0 + 68 ≤ _)⟩)
  dsimp only [Pt.U, Pt.locs, Pt.cells, Pt.slots] at X158 l158 y158 z158 st158 hQ158
  subst l158 y158 z158
  refine own_go st158 ?_
  obtain ⟨t158, kt158, rfl, Nq158, K158, tg158, Vt158, Xt158⟩ := hQ158
  have N158 := Fr.app N155 Nq158
  refine og (fun _ k => XS.astoreN X158.here hx rfl (hb hby d68_11_16) rfl rfl (l' := #[.val (.ref b), .val (.ref t158)]) rfl k) ?_
  refine og (fun _ k => XS.aloadN X158.here hx rfl (hb hby d68_11_17) rfl rfl k) ?_
  try dsimp only [mkF]
  obtain ⟨T159, X159, e159, st159⟩ := getF X158 hx hZ hown (host := "") (Or.inl (tw hw 55 rfl)) Via.refl (rfl : T158.heap = T158.heap) (Fv_b.keep K158 nin0) (g := (mkF m 18 #[.val (.ref b), .val (.ref t158)] [(.ref b)])) rfl rfl (hb hby d68_11_18)
  refine own_go st159 ?_
  refine og (fun _ k => XS.iconst X159.here hx rfl (hb hby d68_11_21) k) ?_
  refine og (fun _ k => XS.aloadN X159.here hx rfl (hb hby d68_11_22) rfl rfl k) ?_
  refine og (fun _ k => XS.iconst X159.here hx rfl (hb hby d68_11_23) k) ?_
  refine og (fun _ k => XS.aloadN X159.here hx rfl (hb hby d68_11_24) rfl rfl k) ?_
  try dsimp only [mkF]
  obtain ⟨T160, X160, e160, st160⟩ := getF X159 hx hZ hown (host := "") (Or.inl (tw hw 80 rfl)) Via.refl e159 (Fn_b.keep K158 nin0) (g := (mkF m 25 #[.val (.ref b), .val (.ref t158)] [(.ref b), (.int (0 : Int32)), (.ref t158), (.int (0 : Int32)), (.ref v)])) rfl rfl (hb hby d68_11_25)
  refine own_go st160 ?_
  have ne161 : v ≠ t158 := Nat.ne_of_lt (Nat.lt_of_lt_of_le V_v.lt tg158)
  obtain ⟨v162, _, ⟨T162, L162, k162, n162⟩, -, X162, ⟨Lc162, hQ162, l162, y162, z162⟩, st162⟩ := Jvm.LawKit.callS X160 hx (y := (⟨"java/lang/StringLatin1", "inflate", "([BI[BII)V"⟩ : MethodName)) hown (mvT hZ (tw hw 268 rfl)) (mvT hZ (tw hw 269 rfl)) (mvT hZ (tw hw 223 rfl)) (mvT hZ (tw hw 270 rfl)) (by decide) (backOf (W := 0) (rm_linf l Z a0 hw [] v kv M (own_sM M cs) t158 kt158 M ([] : List Int32) cs G3 T158.heap n0 (O0.keep K158 all0) O4 rG3 OA OH OL (V_v.keep K158 nin0) (own_wx0'.symm ▸ Vt158) hok hall (fun i hi => own_sMg hi) hcM (by omega) (by simp; omega) (by omega) (Nat.le_trans Z0 tg158) ne161) hZ (tw hw 270 rfl) (tw hw 223 rfl) (by decide) (by decide)) (g := (mkF m 28 #[.val (.ref b), .val (.ref t158)] [(.int (Int32.ofNat cs.length)), (.int (0 : Int32)), (.ref t158), (.int (0 : Int32)), (.ref v)])) rfl (by rw [hml]; rfl) (argsL := [(.ref v), (.int (0 : Int32)), (.ref t158), (.int (0 : Int32)), (.int (Int32.ofNat cs.length))]) (rest := []) (lenOf pd_14 rfl) rfl (by show 2 * 0 + _ ≤ _; exact Nat.le_of_eq rfl) (hb hby d68_11_28) (fun _ _ => ⟨rfl, e160, (by decide : 1 + 0 ≤ _), (by decide : 68 + 0 ≤ _)⟩)
  dsimp only [Pt.U, Pt.locs, Pt.cells, Pt.slots] at X162 l162 y162 z162 st162 hQ162
  subst l162 y162 z162
  refine own_go st162 ?_
  obtain ⟨rfl, Nq162, K162, Vd162⟩ := hQ162
  have N162 := Fr.app N158 Nq162
  refine og (fun _ k => XS.aloadN X162.here hx rfl (hb hby d68_11_31) rfl rfl k) ?_
  refine og (fun _ k => XS.aloadN X162.here hx rfl (hb hby d68_11_32) rfl rfl k) ?_
  have ne163 : b ≠ t158 := Nat.ne_of_lt (Nat.lt_of_lt_of_le E_b.lt tg158)
  have f164 := ((Fv_b.keep K158 nin0).keep K162 (ninS ne163 nin0))
  have f165 := ((E_b.keep K158).keep K162)
  obtain ⟨T166, h166, X166, e166, W166, st166⟩ := putF X162 hx hZ hown (host := "") (Or.inl (tw hw 55 rfl)) Via.refl (rfl : T162.heap = T162.heap) f164 f165 (Or.inl (tw hw 56 rfl)) (tw hw 42 rfl) (ty := (.array .byte)) (by decide) rfl rfl (g := (mkF m 33 #[.val (.ref b), .val (.ref t158)] [(.ref t158), (.ref b)])) rfl rfl (hb hby d68_11_33)
  refine own_go st166 ?_
  have N166 := Fr.snoc X166 N162 g_b
  have Fw166 := f164.same W166
  try dsimp only [mkF]
  refine og (fun _ k => XS.aloadN X166.here hx rfl (hb hby d68_11_36) rfl rfl k) ?_
  refine og (fun _ k => XS.iconst X166.here hx rfl (hb hby d68_11_37) k) ?_
  have f167 := (((Fc_b.keep K158 nin0).keep K162 (ninS ne163 nin0)).other W166 (Or.inr (slot_ne (Or.inl (tw hw 58 rfl)) (Or.inl (tw hw 56 rfl)) (by decide) (t := .byte) (t' := (.array .byte)) (by decide) (by decide))))
  obtain ⟨T168, h168, X168, e168, W168, st168⟩ := putFN X166 hx hZ hown (tw hw 57 rfl) Via.refl e166 f167 (f165.wr W166) (Or.inl (tw hw 58 rfl)) (tw hw 42 rfl) (ty := .byte) (v' := (.int (1 : Int32))) (by decide) rfl rfl (g := (mkF m 38 #[.val (.ref b), .val (.ref t158)] [(.int (1 : Int32)), (.ref b)])) rfl rfl (hb hby d68_11_38)
  refine own_go st168 ?_
  have N168 := Fr.snoc X168 N166 g_b
  have Fw168 := f167.same W168
  have f169 := (((((Keep.refl h0 [b]).trans K158 all0).trans K162 (allS (Or.inr tg158) all0)).wr W166 (Or.inl (List.mem_of_getElem? (i := 0) rfl))).wr W168 (Or.inl (List.mem_of_getElem? (i := 0) rfl)))
  have f170 := (Fw166.other W168 (Or.inr (slot_ne (Or.inl (tw hw 56 rfl)) (Or.inl (tw hw 58 rfl)) (by decide) (t := (.array .byte)) (t' := .byte) (by decide) (by decide))))
  have f171 := ((((Fn_b.keep K158 nin0).keep K162 (ninS ne163 nin0)).other W166 (Or.inr (slot_ne (Or.inl (tw hw 81 rfl)) (Or.inl (tw hw 56 rfl)) (by decide) (t := .int) (t' := (.array .byte)) (by decide) (by decide)))).other W168 (Or.inr (slot_ne (Or.inl (tw hw 81 rfl)) (Or.inl (tw hw 58 rfl)) (by decide) (t := .int) (t' := .byte) (by decide) (by decide))))
  have f172 := ((((Fm_b.keep K158 nin0).keep K162 (ninS ne163 nin0)).other W166 (Or.inr (slot_ne (Or.inl (tw hw 289 rfl)) (Or.inl (tw hw 56 rfl)) (by decide) (t := .boolean) (t' := (.array .byte)) (by decide) (by decide)))).other W168 (Or.inr (slot_ne (Or.inl (tw hw 289 rfl)) (Or.inl (tw hw 58 rfl)) (by decide) (t := .boolean) (t' := .byte) (by decide) (by decide))))
  have f173 := ((Vd162.other W166 (Ne.symm ne163)).other W168 (Ne.symm ne163))
  have f174 := (((Xt158.keep K162).wr W166).wr W168)
  refine own_fin (v := none) X168 (fun _ => rfl) hlk (fun fs hr => X168.returnOut hx hrt (hb hby d68_11_41) hr) (QQ := QWideM Z b M cs cs h0 n0) ?_ (by decide) (by decide)
  rw [e168]
  exact ⟨t158, _, rfl, N168, f169, tg158, f170, Fw168, f171, f172, by have q := f173; rw [own_wxn, List.nil_append] at q; exact q, f174⟩

abbrev k68_71 := jdk_68_method_71_code
theorem d68_71_0 : Dk k68_71 0 (.getstatic 18) 3 := own_k
theorem d68_71_3 : Dk k68_71 3 (.ifCond .eq 18) 3 := own_k
theorem d68_71_6 : Dk k68_71 6 (.aload_n 0) 1 := own_k
theorem d68_71_7 : Dk k68_71 7 (.getfield 22) 3 := own_k
theorem d68_71_10 : Dk k68_71 10 (.aload_n 1) 1 := own_k
theorem d68_71_11 : Dk k68_71 11 (.invokevirtual 40) 3 := own_k
theorem pd_18 : parseMethodDescriptor "()B" = some ⟨[], some .byte⟩ := by decide +kernel
theorem d68_71_14 : Dk k68_71 14 (.if_icmp .eq 7) 3 := own_k
theorem d68_71_21 : Dk k68_71 21 .return_ 1 := own_k
theorem ef_rm_ifl (m : MethodId) (x0 : Addr) (x1 : Addr) : entryFrame m #[(.ref x0), (.ref x1)] 2 = mkF m 0 #[.val (.ref x0), .val (.ref x1)] [] := by
   first | (simp [entryFrame, mkF, argsToLocals, Value.category]; done) | rfl
set_option maxRecDepth 65536 in
set_option maxHeartbeats 40000000 in
theorem rm_ifl (l : Launch) (Z : State) (a0 : Array Value) (hw : ∀ d ∈ tables_1, d.before a0 Z = true) (ws : List Jvm.Cond) (b v : Addr) (kv : ClassId) (M : Nat) (cs : List Int32) (x t : Addr) (kt : ClassId) (ts : List Int32) (G1 : Int32) (G3 : Value) (h0 : Heap) (n0 : Nat) (O0 : Old Z n0 h0) (O2 : Sta Z Z.heap "java/lang/String" "COMPACT_STRINGS" "Z" (.int G1)) (P5 : ¬ (G1 = (0 : Int32))) (O4 : Sta Z Z.heap "jdk/internal/util/Preconditions" "SIOOBE_FORMATTER" "Ljava/util/function/BiFunction;" G3) (rG3 : G3.isRef = true) (OA : Sta Z Z.heap "java/lang/StringUTF16" "$assertionsDisabled" "Z" (.int (1 : Int32))) (OH : Sta Z Z.heap "java/lang/StringUTF16" "HI_BYTE_SHIFT" "I" (.int (0 : Int32))) (OL : Sta Z Z.heap "java/lang/StringUTF16" "LO_BYTE_SHIFT" "I" (.int (8 : Int32))) (E_b : Exa Z h0 b "java/lang/StringBuilder") (Fv_b : Fld Z h0 b "java/lang/AbstractStringBuilder" "value" "[B" (.ref v)) (Fc_b : Fld Z h0 b "java/lang/AbstractStringBuilder" "coder" "B" (.int (0 : Int32))) (Fn_b : Fld Z h0 b "java/lang/AbstractStringBuilder" "count" "I" (.int (Int32.ofNat cs.length))) (Fm_b : Fld Z h0 b "java/lang/AbstractStringBuilder" "maybeLatin1" "Z" (.int (0 : Int32))) (V_v : Arv Z h0 v kv .byte (Int32.ofNat M) (own_sM M cs) (.int (0 : Int32))) (X_v : Exa Z h0 v "[B") (hall : ∀ c ∈ cs, ¬ (255 : Int32) < c) (hok : own_Ok cs) (hM : cs.length ≤ M ∧ M ≤ 34) (g_b : n0 ≤ b) (g_v : n0 ≤ v) (E_x : Exa Z h0 x "java/lang/String") (Fv_x : Fld Z h0 x "java/lang/String" "value" "[B" (.ref t)) (Fc_x : Fld Z h0 x "java/lang/String" "coder" "B" (.int (0 : Int32))) (V_t : Arv Z h0 t kt .byte (Int32.ofNat ts.length) (own_lat ts) (.int (0 : Int32))) (hts : ∀ c ∈ ts, ¬ (255 : Int32) < c) (hot : own_Ok ts) (hxb : x ≠ b) (htv : t ≠ v) :
    MetFree l (⟨"java/lang/AbstractStringBuilder", "inflateIfNeededFor", "(Ljava/lang/String;)V"⟩ : MethodName) (head1 (Jvm.Cond.code (⟨"java/lang/AbstractStringBuilder", "inflateIfNeededFor", "(Ljava/lang/String;)V"⟩ : MethodName) jdk_68_method_71_code 2 none :: ws) ⟨1, 0, 0, 13⟩) (fun aA U => aA = #[(.ref b), (.ref x)] ∧ Z.Warmed39 U.vm ∧ U.heap = h0) (fun _ _ _ _ _ => True) (fun _ U oO U' => ∃ rV rL, oO = .returned rV ∧ QPure (none) h0 n0 rV U'.heap rL ∧ FrameEnd U oO U' rL 0 0) := by
  refine MetFree.of_bodySF (plainFor_of_name pn_2) hisR ?_
  intro p e s m args below meth cC s₁ Bd hml0 hP hK
  obtain ⟨rfl, hZ, hh⟩ := hP
  have hx := Bd.exec
  have hby := Bd.bytes
  have hml : cC.maxLocals = 2 := hml0
  have hown : s.vm.findClass "java/lang/AbstractStringBuilder" = some m.cls := findClass_of_methodNamed Bd.named
  have hnm := (name_of_methodNamed Bd.named Bd.method).1
  have hrt := Bd.returns
  have hlk : meth.locks = false := Bd.notSynchronized
  have X0 : Stand p l e ⟨1, 0, 0, 13⟩ s m #[(.ref b), (.ref x)] below meth cC s₁ [] 0 0 := Stand.of_body Bd
  have e0 : s₁.heap = h0 := by rw [← hh, Bd.state]; rfl
  have N0 := Fr.nil n0
  have Z0 : n0 ≤ h0.size := O0.1 ▸ O0.2.1
  show own_Go p e below (s₁.setTop (entryFrame m #[(.ref b), (.ref x)] 2)) (fun oO U' => ∃ rV rL, oO = .returned rV ∧ QPure (none) h0 n0 rV U'.heap rL ∧ FrameEnd s oO U' rL 0 0)
  refine own_go (fun _ k => castTop (ef_rm_ifl m b x) k) ?_
  have hlen : cs.length ≤ 4000 := hok.2
  obtain ⟨hcM, hM34⟩ := hM
  have hbv := Exa.neArv E_b V_v (tw hw 42 rfl)
  have hlt4 : ts.length ≤ 4000 := hot.2
  have hxv := Exa.neArv E_x V_v (tw hw 2 rfl)
  have hbt := Exa.neArv E_b V_t (tw hw 42 rfl)
  obtain ⟨T175, X175, e175, st175⟩ := getS2 X0 hx hZ hown (host := "") (Or.inl (tw hw 54 rfl)) Via.refl e0 (O2.ext O0.2) (g := (mkF m 0 #[.val (.ref b), .val (.ref x)] [])) rfl (hb hby d68_71_0)
  refine own_go st175 ?_
  refine og (fun _ k => XS.ifNo X175.here hx rfl (hb hby d68_71_3) rfl ((if0 _ _).trans (feq P5).1) k) ?_
  refine og (fun _ k => XS.aloadN X175.here hx rfl (hb hby d68_71_6) rfl rfl k) ?_
  obtain ⟨T176, X176, e176, st176⟩ := getF X175 hx hZ hown (host := "") (Or.inl (tw hw 57 rfl)) Via.refl e175 Fc_b (g := (mkF m 7 #[.val (.ref b), .val (.ref x)] [(.ref b)])) rfl rfl (hb hby d68_71_7)
  refine own_go st176 ?_
  try dsimp only [mkF]
  refine og (fun _ k => XS.aloadN X176.here hx rfl (hb hby d68_71_10) rfl rfl k) ?_
  obtain ⟨cq177, kq177, q177a, q177b, q177c⟩ := isOf hZ e176 E_x
  obtain ⟨v177, _, ⟨T177, L177, k177, n177⟩, -, X177, ⟨Lc177, hQ177, l177, y177, z177⟩, st177⟩ := X176.virtualBack hx (y := (⟨"java/lang/String", "coder", "()B"⟩ : MethodName)) (z := (⟨"java/lang/String", "coder", "()B"⟩ : MethodName)) hown (mvT hZ (tw hw 97 rfl)) (mvT hZ (tw hw 76 rfl)) (notFace_of_selects (args := #[]) (mvT hZ (tw hw 78 rfl))) (mvT hZ (tw hw 78 rfl)) (mvT hZ (tw hw 77 rfl)) (by decide) (backOf (W := 1) (rm_cod0 l Z a0 hw [] x G1 h0 n0 O0 E_x Fc_x O2 P5) hZ (tw hw 79 rfl) (tw hw 3 rfl) (by decide) (by decide)) q177a q177c (g := (mkF m 11 #[.val (.ref b), .val (.ref x)] [(.ref x), (.int (0 : Int32))])) rfl (by rw [hml]; rfl) (Steps.refl _) (argsL := []) (rest := [(.int (0 : Int32))]) (lenOf pd_18 rfl) rfl (by show 2 * 0 + _ ≤ _; exact Nat.le_of_eq rfl) (hb hby d68_71_11) (fun _ _ => ⟨rfl, e176, (by decide : 0 + 0 ≤ _), (by decide : 0 + 0 ≤ _)⟩)
  dsimp only [Pt.U, Pt.locs, Pt.cells, Pt.slots] at X177 l177 y177 z177 st177 hQ177
  subst l177 y177 z177
  refine own_gos st177 ?_
  obtain ⟨rfl, Nq177, e177⟩ := hQ177
  have N177 := Fr.app N0 Nq177
  refine og (fun _ k => XS.icmpYes X177.here hx rfl (pc0 := 14) (pc' := 21) rfl (hb hby d68_71_14) rfl (teq (by decide : (0 : Int32) = (0 : Int32))).1 (by decide) (by decide) k) ?_
  refine own_fin (v := none) X177 (fun _ => rfl) hlk (fun fs hr => X177.returnOut hx hrt (hb hby d68_71_21) hr) (QQ := QPure (none) h0 n0) ?_ (by decide) (by decide)
  rw [e177]
  exact ⟨rfl, N177, rfl⟩

theorem d68_71_17 : Dk k68_71 17 (.aload_n 0) 1 := own_k
theorem d68_71_18 : Dk k68_71 18 (.invokevirtual 195) 3 := own_k
theorem pd_19 : parseMethodDescriptor "()V" = some ⟨[], none⟩ := by decide +kernel
theorem ef_rm_ifw (m : MethodId) (x0 : Addr) (x1 : Addr) : entryFrame m #[(.ref x0), (.ref x1)] 2 = mkF m 0 #[.val (.ref x0), .val (.ref x1)] [] := by
   first | (simp [entryFrame, mkF, argsToLocals, Value.category]; done) | rfl
set_option maxRecDepth 65536 in
set_option maxHeartbeats 40000000 in
theorem rm_ifw (l : Launch) (Z : State) (a0 : Array Value) (hw : ∀ d ∈ tables_1, d.before a0 Z = true) (ws : List Jvm.Cond) (b v : Addr) (kv : ClassId) (M : Nat) (cs : List Int32) (x t : Addr) (kt : ClassId) (ts : List Int32) (G1 : Int32) (G3 : Value) (h0 : Heap) (n0 : Nat) (O0 : Old Z n0 h0) (O2 : Sta Z Z.heap "java/lang/String" "COMPACT_STRINGS" "Z" (.int G1)) (P5 : ¬ (G1 = (0 : Int32))) (O4 : Sta Z Z.heap "jdk/internal/util/Preconditions" "SIOOBE_FORMATTER" "Ljava/util/function/BiFunction;" G3) (rG3 : G3.isRef = true) (OA : Sta Z Z.heap "java/lang/StringUTF16" "$assertionsDisabled" "Z" (.int (1 : Int32))) (OH : Sta Z Z.heap "java/lang/StringUTF16" "HI_BYTE_SHIFT" "I" (.int (0 : Int32))) (OL : Sta Z Z.heap "java/lang/StringUTF16" "LO_BYTE_SHIFT" "I" (.int (8 : Int32))) (E_b : Exa Z h0 b "java/lang/StringBuilder") (Fv_b : Fld Z h0 b "java/lang/AbstractStringBuilder" "value" "[B" (.ref v)) (Fc_b : Fld Z h0 b "java/lang/AbstractStringBuilder" "coder" "B" (.int (0 : Int32))) (Fn_b : Fld Z h0 b "java/lang/AbstractStringBuilder" "count" "I" (.int (Int32.ofNat cs.length))) (Fm_b : Fld Z h0 b "java/lang/AbstractStringBuilder" "maybeLatin1" "Z" (.int (0 : Int32))) (V_v : Arv Z h0 v kv .byte (Int32.ofNat M) (own_sM M cs) (.int (0 : Int32))) (X_v : Exa Z h0 v "[B") (hall : ∀ c ∈ cs, ¬ (255 : Int32) < c) (hok : own_Ok cs) (hM : cs.length ≤ M ∧ M ≤ 34) (g_b : n0 ≤ b) (g_v : n0 ≤ v) (E_x : Exa Z h0 x "java/lang/String") (Fv_x : Fld Z h0 x "java/lang/String" "value" "[B" (.ref t)) (Fc_x : Fld Z h0 x "java/lang/String" "coder" "B" (.int (1 : Int32))) (V_t : Arv Z h0 t kt .byte (Int32.ofNat (2 * ts.length)) (StrChars.Road.wideBytes ts) (.int (0 : Int32))) (hex : ∃ c ∈ ts, (255 : Int32) < c) (hot : own_Ok ts) (hxb : x ≠ b) (htv : t ≠ v) :
    MetFree l (⟨"java/lang/AbstractStringBuilder", "inflateIfNeededFor", "(Ljava/lang/String;)V"⟩ : MethodName) (head1 (Jvm.Cond.code (⟨"java/lang/AbstractStringBuilder", "inflateIfNeededFor", "(Ljava/lang/String;)V"⟩ : MethodName) jdk_68_method_71_code 2 none :: ws) ⟨6, 1, 68, 89⟩) (fun aA U => aA = #[(.ref b), (.ref x)] ∧ Z.Warmed39 U.vm ∧ U.heap = h0) (fun _ _ _ _ _ => True) (fun _ U oO U' => ∃ rV rL, oO = .returned rV ∧ QWideM Z b M cs cs h0 n0 rV U'.heap rL ∧ FrameEnd U oO U' rL 1 68) := by
  refine MetFree.of_bodySF (plainFor_of_name pn_2) hisR ?_
  intro p e s m args below meth cC s₁ Bd hml0 hP hK
  obtain ⟨rfl, hZ, hh⟩ := hP
  have hx := Bd.exec
  have hby := Bd.bytes
  have hml : cC.maxLocals = 2 := hml0
  have hown : s.vm.findClass "java/lang/AbstractStringBuilder" = some m.cls := findClass_of_methodNamed Bd.named
  have hnm := (name_of_methodNamed Bd.named Bd.method).1
  have hrt := Bd.returns
  have hlk : meth.locks = false := Bd.notSynchronized
  have X0 : Stand p l e ⟨6, 1, 68, 89⟩ s m #[(.ref b), (.ref x)] below meth cC s₁ [] 0 0 := Stand.of_body Bd
  have e0 : s₁.heap = h0 := by rw [← hh, Bd.state]; rfl
  have N0 := Fr.nil n0
  have Z0 : n0 ≤ h0.size := O0.1 ▸ O0.2.1
  show own_Go p e below (s₁.setTop (entryFrame m #[(.ref b), (.ref x)] 2)) (fun oO U' => ∃ rV rL, oO = .returned rV ∧ QWideM Z b M cs cs h0 n0 rV U'.heap rL ∧ FrameEnd s oO U' rL 1 68)
  refine own_go (fun _ k => castTop (ef_rm_ifw m b x) k) ?_
  have hlen : cs.length ≤ 4000 := hok.2
  obtain ⟨hcM, hM34⟩ := hM
  have hbv := Exa.neArv E_b V_v (tw hw 42 rfl)
  have hlt4 : ts.length ≤ 4000 := hot.2
  have hxv := Exa.neArv E_x V_v (tw hw 2 rfl)
  have hbt := Exa.neArv E_b V_t (tw hw 42 rfl)
  obtain ⟨T178, X178, e178, st178⟩ := getS2 X0 hx hZ hown (host := "") (Or.inl (tw hw 54 rfl)) Via.refl e0 (O2.ext O0.2) (g := (mkF m 0 #[.val (.ref b), .val (.ref x)] [])) rfl (hb hby d68_71_0)
  refine own_go st178 ?_
  refine og (fun _ k => XS.ifNo X178.here hx rfl (hb hby d68_71_3) rfl ((if0 _ _).trans (feq P5).1) k) ?_
  refine og (fun _ k => XS.aloadN X178.here hx rfl (hb hby d68_71_6) rfl rfl k) ?_
  obtain ⟨T179, X179, e179, st179⟩ := getF X178 hx hZ hown (host := "") (Or.inl (tw hw 57 rfl)) Via.refl e178 Fc_b (g := (mkF m 7 #[.val (.ref b), .val (.ref x)] [(.ref b)])) rfl rfl (hb hby d68_71_7)
  refine own_go st179 ?_
  try dsimp only [mkF]
  refine og (fun _ k => XS.aloadN X179.here hx rfl (hb hby d68_71_10) rfl rfl k) ?_
  obtain ⟨cq180, kq180, q180a, q180b, q180c⟩ := isOf hZ e179 E_x
  obtain ⟨v180, _, ⟨T180, L180, k180, n180⟩, -, X180, ⟨Lc180, hQ180, l180, y180, z180⟩, st180⟩ := X179.virtualBack hx (y := (⟨"java/lang/String", "coder", "()B"⟩ : MethodName)) (z := (⟨"java/lang/String", "coder", "()B"⟩ : MethodName)) hown (mvT hZ (tw hw 97 rfl)) (mvT hZ (tw hw 76 rfl)) (notFace_of_selects (args := #[]) (mvT hZ (tw hw 78 rfl))) (mvT hZ (tw hw 78 rfl)) (mvT hZ (tw hw 77 rfl)) (by decide) (backOf (W := 1) (rm_cod1 l Z a0 hw [] x G1 h0 n0 O0 E_x Fc_x O2 P5) hZ (tw hw 79 rfl) (tw hw 3 rfl) (by decide) (by decide)) q180a q180c (g := (mkF m 11 #[.val (.ref b), .val (.ref x)] [(.ref x), (.int (0 : Int32))])) rfl (by rw [hml]; rfl) (Steps.refl _) (argsL := []) (rest := [(.int (0 : Int32))]) (lenOf pd_18 rfl) rfl (by show 2 * 0 + _ ≤ _; exact Nat.le_of_eq rfl) (hb hby d68_71_11) (fun _ _ => ⟨rfl, e179, (by decide : 0 + 0 ≤ _), (by decide : 0 + 0 ≤ _)⟩)
  dsimp only [Pt.U, Pt.locs, Pt.cells, Pt.slots] at X180 l180 y180 z180 st180 hQ180
  subst l180 y180 z180
  refine own_gos st180 ?_
  obtain ⟨rfl, Nq180, e180⟩ := hQ180
  have N180 := Fr.app N0 Nq180
  refine og (fun _ k => XS.icmpNo X180.here hx rfl (hb hby d68_71_14) rfl (feq (by decide : ¬ ((0 : Int32) = (1 : Int32)))).1 k) ?_
  refine og (fun _ k => XS.aloadN X180.here hx rfl (hb hby d68_71_17) rfl rfl k) ?_
  obtain ⟨cq181, q181, q181'⟩ := E_b.cell
  obtain ⟨v181, _, ⟨T181, L181, k181, n181⟩, -, X181, ⟨Lc181, hQ181, l181, y181, z181⟩, st181⟩ := X180.privateBack hx (y := (⟨"java/lang/AbstractStringBuilder", "inflate", "()V"⟩ : MethodName)) hown (mvT hZ (tw hw 261 rfl)) (mvT hZ (tw hw 262 rfl)) (own_selQ hZ (tw hw 264 rfl) (tw hw 263 rfl) (tw hw 262 rfl) (by decide)) (Cond.privateMethod_at (mvP hZ (tw hw 263 rfl) (args := #[]))) (mvT hZ (tw hw 265 rfl)) (by decide) (backOf (W := 0) (rm_aiM l Z a0 hw [] b v kv M cs G1 G3 h0 n0 O0 O2 P5 O4 rG3 OA OH OL E_b Fv_b Fc_b Fn_b Fm_b V_v X_v hall hok ⟨hcM, hM34⟩ g_b g_v) hZ (tw hw 265 rfl) (tw hw 51 rfl) (by decide) (by decide)) (g := (mkF m 18 #[.val (.ref b), .val (.ref x)] [(.ref b)])) rfl (by rw [hml]; rfl) (Steps.refl _) (a := b) (by rw [e180]; exact q181) q181' (argsL := []) (rest := []) (lenOf pd_19 rfl) rfl (by show 2 * 0 + _ ≤ _; exact Nat.le_of_eq rfl) (hb hby d68_71_18) (fun _ _ => ⟨rfl, e180, (by decide : 0 + 1 ≤ _), (by decide : 0 + 68 ≤ _)⟩)
  dsimp only [Pt.U, Pt.locs, Pt.cells, Pt.slots] at X181 l181 y181 z181 st181 hQ181
  subst l181 y181 z181
  refine own_gos st181 ?_
  obtain ⟨v181, kv181, rfl, Nq181, K181, vg181, Fv181, Fc181, Fn181, Fm181, Vv181, Xv181⟩ := hQ181
  have N181 := Fr.app N180 Nq181
  try dsimp only [mkF]
  have f182 := ((Keep.refl h0 [b]).trans K181 (allS (Or.inl (List.mem_of_getElem? (i := 0) rfl)) all0))
  refine own_fin (v := none) X181 (fun _ => rfl) hlk (fun fs hr => X181.returnOut hx hrt (hb hby d68_71_21) hr) (QQ := QWideM Z b M cs cs h0 n0) ?_ (by decide) (by decide)
  exact ⟨v181, _, rfl, N181, f182, vg181, Fv181, Fc181, Fn181, Fm181, Vv181, Xv181⟩

abbrev k42_147 := jdk_42_method_147_code
theorem d42_147_0 : Dk k42_147 0 (.aload_n 0) 1 := own_k
theorem d42_147_1 : Dk k42_147 1 (.invokevirtual 335) 3 := own_k
theorem d42_147_4 : Dk k42_147 4 (.iload_n 3) 1 := own_k
theorem d42_147_5 : Dk k42_147 5 (.if_icmp .ne 23) 3 := own_k
theorem d42_147_8 : Dk k42_147 8 (.aload_n 0) 1 := own_k
theorem d42_147_9 : Dk k42_147 9 (.getfield 9) 3 := own_k
theorem d42_147_12 : Dk k42_147 12 (.iconst 0) 1 := own_k
theorem d42_147_13 : Dk k42_147 13 (.aload_n 1) 1 := own_k
theorem d42_147_14 : Dk k42_147 14 (.iload_n 2) 1 := own_k
theorem d42_147_15 : Dk k42_147 15 (.iload_n 3) 1 := own_k
theorem d42_147_16 : Dk k42_147 16 .ishl 1 := own_k
theorem d42_147_17 : Dk k42_147 17 (.aload_n 0) 1 := own_k
theorem d42_147_18 : Dk k42_147 18 (.getfield 9) 3 := own_k
theorem d42_147_21 : Dk k42_147 21 .arraylength 1 := own_k
theorem d42_147_22 : Dk k42_147 22 (.invokestatic 212) 3 := own_k
theorem d42_147_25 : Dk k42_147 25 (.goto 18) 3 := own_k
theorem d42_147_43 : Dk k42_147 43 .return_ 1 := own_k
theorem ef_rm_gbM0 (m : MethodId) (x0 : Addr) (x1 : Addr) (x2 : Int32) (x3 : Int32) : entryFrame m #[(.ref x0), (.ref x1), (.int x2), (.int x3)] 4 = mkF m 0 #[.val (.ref x0), .val (.ref x1), .val (.int x2), .val (.int x3)] [] := by
   first | (simp [entryFrame, mkF, argsToLocals, Value.category]; done) | rfl
set_option maxRecDepth 65536 in
set_option maxHeartbeats 40000000 in
theorem rm_gbM0 (l : Launch) (Z : State) (a0 : Array Value) (hw : ∀ d ∈ tables_1, d.before a0 Z = true) (ws : List Jvm.Cond) (x t : Addr) (kt : ClassId) (ts : List Int32) (v : Addr) (kv : ClassId) (M : Nat) (cs : List Int32) (G1 : Int32) (G3 : Value) (h0 : Heap) (n0 : Nat) (O0 : Old Z n0 h0) (O2 : Sta Z Z.heap "java/lang/String" "COMPACT_STRINGS" "Z" (.int G1)) (P5 : ¬ (G1 = (0 : Int32))) (O4 : Sta Z Z.heap "jdk/internal/util/Preconditions" "SIOOBE_FORMATTER" "Ljava/util/function/BiFunction;" G3) (rG3 : G3.isRef = true) (OA : Sta Z Z.heap "java/lang/StringUTF16" "$assertionsDisabled" "Z" (.int (1 : Int32))) (OH : Sta Z Z.heap "java/lang/StringUTF16" "HI_BYTE_SHIFT" "I" (.int (0 : Int32))) (OL : Sta Z Z.heap "java/lang/StringUTF16" "LO_BYTE_SHIFT" "I" (.int (8 : Int32))) (E_x : Exa Z h0 x "java/lang/String") (Fv_x : Fld Z h0 x "java/lang/String" "value" "[B" (.ref t)) (Fc_x : Fld Z h0 x "java/lang/String" "coder" "B" (.int (0 : Int32))) (V_t : Arv Z h0 t kt .byte (Int32.ofNat ts.length) (own_lat ts) (.int (0 : Int32))) (hts : ∀ c ∈ ts, ¬ (255 : Int32) < c) (hot : own_Ok ts) (V_v : Arv Z h0 v kv .byte (Int32.ofNat M) (own_sM M cs) (.int (0 : Int32))) (g_v : n0 ≤ v) (htv : t ≠ v) (hle : cs.length + ts.length ≤ M) (hM34 : M ≤ 34) :
    MetFree l (⟨"java/lang/String", "getBytes", "([BIB)V"⟩ : MethodName) (head1 (Jvm.Cond.code (⟨"java/lang/String", "getBytes", "([BIB)V"⟩ : MethodName) jdk_42_method_147_code 4 none :: ws) ⟨1, 0, 0, 18⟩) (fun aA U => aA = #[(.ref x), (.ref v), (.int (Int32.ofNat cs.length)), (.int (0 : Int32))] ∧ Z.Warmed39 U.vm ∧ U.heap = h0) (fun _ _ _ _ _ => True) (fun _ U oO U' => ∃ rV rL, oO = .returned rV ∧ QInf Z v kv (Int32.ofNat M) (own_sM M (cs ++ ts)) h0 n0 rV U'.heap rL ∧ FrameEnd U oO U' rL 0 0) := by
  refine MetFree.of_bodySF (plainFor_of_name pn_0) hisR ?_
  intro p e s m args below meth cC s₁ Bd hml0 hP hK
  obtain ⟨rfl, hZ, hh⟩ := hP
  have hx := Bd.exec
  have hby := Bd.bytes
  have hml : cC.maxLocals = 4 := hml0
  have hown : s.vm.findClass "java/lang/String" = some m.cls := findClass_of_methodNamed Bd.named
  have hnm := (name_of_methodNamed Bd.named Bd.method).1
  have hrt := Bd.returns
  have hlk : meth.locks = false := Bd.notSynchronized
  have X0 : Stand p l e ⟨1, 0, 0, 18⟩ s m #[(.ref x), (.ref v), (.int (Int32.ofNat cs.length)), (.int (0 : Int32))] below meth cC s₁ [] 0 0 := Stand.of_body Bd
  have e0 : s₁.heap = h0 := by rw [← hh, Bd.state]; rfl
  have N0 := Fr.nil n0
  have Z0 : n0 ≤ h0.size := O0.1 ▸ O0.2.1
  show own_Go p e below (s₁.setTop (entryFrame m #[(.ref x), (.ref v), (.int (Int32.ofNat cs.length)), (.int (0 : Int32))] 4)) (fun oO U' => ∃ rV rL, oO = .returned rV ∧ QInf Z v kv (Int32.ofNat M) (own_sM M (cs ++ ts)) h0 n0 rV U'.heap rL ∧ FrameEnd s oO U' rL 0 0)
  refine own_go (fun _ k => castTop (ef_rm_gbM0 m x v _ _) k) ?_
  have hlt4 : ts.length ≤ 4000 := hot.2
  have hxv := Exa.neArv E_x V_v (tw hw 2 rfl)
  refine og (fun _ k => XS.aloadN X0.here hx rfl (hb hby d42_147_0) rfl rfl k) ?_
  obtain ⟨cq183, kq183, q183a, q183b, q183c⟩ := isOf hZ e0 E_x
  obtain ⟨v183, _, ⟨T183, L183, k183, n183⟩, -, X183, ⟨Lc183, hQ183, l183, y183, z183⟩, st183⟩ := X0.virtualBack hx (y := (⟨"java/lang/String", "coder", "()B"⟩ : MethodName)) (z := (⟨"java/lang/String", "coder", "()B"⟩ : MethodName)) hown (mvT hZ (tw hw 75 rfl)) (mvT hZ (tw hw 76 rfl)) (notFace_of_selects (args := #[]) (mvT hZ (tw hw 78 rfl))) (mvT hZ (tw hw 78 rfl)) (mvT hZ (tw hw 77 rfl)) (by decide) (backOf (W := 0) (rm_cod0 l Z a0 hw [] x G1 h0 n0 O0 E_x Fc_x O2 P5) hZ (tw hw 79 rfl) (tw hw 3 rfl) (by decide) (by decide)) q183a q183c (g := (mkF m 1 #[.val (.ref x), .val (.ref v), .val (.int (Int32.ofNat cs.length)), .val (.int (0 : Int32))] [(.ref x)])) rfl (by rw [hml]; rfl) (Steps.refl _) (argsL := []) (rest := []) (lenOf pd_18 rfl) rfl (by show 2 * 0 + _ ≤ _; exact Nat.le_of_eq rfl) (hb hby d42_147_1) (fun _ _ => ⟨rfl, e0, (by decide : 0 + 0 ≤ _), (by decide : 0 + 0 ≤ _)⟩)
  dsimp only [Pt.U, Pt.locs, Pt.cells, Pt.slots] at X183 l183 y183 z183 st183 hQ183
  subst l183 y183 z183
  refine own_gos st183 ?_
  obtain ⟨rfl, Nq183, e183⟩ := hQ183
  have N183 := Fr.app N0 Nq183
  refine og (fun _ k => XS.iloadN X183.here hx rfl (hb hby d42_147_4) rfl k) ?_
  refine og (fun _ k => XS.icmpNo X183.here hx rfl (hb hby d42_147_5) rfl (teq (by decide : (0 : Int32) = (0 : Int32))).2 k) ?_
  try dsimp only [mkF]
  refine og (fun _ k => XS.aloadN X183.here hx rfl (hb hby d42_147_8) rfl rfl k) ?_
  obtain ⟨T184, X184, e184, st184⟩ := getF X183 hx hZ hown (host := "") (Or.inl (tw hw 21 rfl)) Via.refl e183 Fv_x (g := (mkF m 9 #[.val (.ref x), .val (.ref v), .val (.int (Int32.ofNat cs.length)), .val (.int (0 : Int32))] [(.ref x)])) rfl rfl (hb hby d42_147_9)
  refine own_go st184 ?_
  refine og (fun _ k => XS.iconst X184.here hx rfl (hb hby d42_147_12) k) ?_
  refine og (fun _ k => XS.aloadN X184.here hx rfl (hb hby d42_147_13) rfl rfl k) ?_
  refine og (fun _ k => XS.iloadN X184.here hx rfl (hb hby d42_147_14) rfl k) ?_
  try dsimp only [mkF]
  refine og (fun _ k => XS.iloadN X184.here hx rfl (hb hby d42_147_15) rfl k) ?_
  refine og (fun _ k => XS.ishl X184.here hx rfl (hb hby d42_147_16) rfl k) ?_
  show own_Go p e below (T184.setTop (mkF m 17 #[.val (.ref x), .val (.ref v), .val (.int (Int32.ofNat cs.length)), .val (.int (0 : Int32))] [(.int ((Int32.ofNat cs.length) <<< ((0 : Int32) &&& 31))), (.ref v), (.int (0 : Int32)), (.ref t)])) _
  rw [own_shl0]
  refine og (fun _ k => XS.aloadN X184.here hx rfl (hb hby d42_147_17) rfl rfl k) ?_
  obtain ⟨T185, X185, e185, st185⟩ := getF X184 hx hZ hown (host := "") (Or.inl (tw hw 21 rfl)) Via.refl e184 Fv_x (g := (mkF m 18 #[.val (.ref x), .val (.ref v), .val (.int (Int32.ofNat cs.length)), .val (.int (0 : Int32))] [(.ref x), (.int (Int32.ofNat cs.length)), (.ref v), (.int (0 : Int32)), (.ref t)])) rfl rfl (hb hby d42_147_18)
  refine own_go st185 ?_
  try dsimp only [mkF]
  obtain ⟨c186, A186, q186, S186, M186, Hs186, Gs186⟩ := id V_t
  refine og (fun _ k => X185.arraylength hx (by rw [e185]; exact A186.1) (State.isArrayOf_alike hZ.alike A186.2.1) (g := (mkF m 21 #[.val (.ref x), .val (.ref v), .val (.int (Int32.ofNat cs.length)), .val (.int (0 : Int32))] [(.ref t), (.int (Int32.ofNat cs.length)), (.ref v), (.int (0 : Int32)), (.ref t)])) rfl rfl (hb hby d42_147_21) _ k) ?_
  rw [len_of S186 M186]
  have ci187 := own_tn (i := 0) (by omega)
  have cj187 := own_tn (i := cs.length) (by omega)
  have cm187 := own_tn (i := ts.length) (by omega)
  have ca187 := own_tn (i := ts.length) (by omega)
  have cb187 := own_tn (i := M) (by omega)
  have cl187 : ((own_sM M cs) : List Value).length = M := (own_sMl (by omega))
  obtain ⟨T187, h187, Lc187, X187, e187, N187, K187, Vc187, st187⟩ := cpA (sp := Int32.ofNat 0) (dp := Int32.ofNat cs.length) (nn := Int32.ofNat ts.length) X185 hx hZ hown (tw hw 103 rfl) (tw hw 106 rfl) (tw hw 104 rfl) (tw hw 105 rfl) e185 (z := Int32.ofNat ts.length) (z' := Int32.ofNat M) V_t V_v (Or.inl ⟨rfl, rfl⟩) (own_nn0 (by omega)) (own_nn0 (by omega)) (own_nn0 (by omega)) (by omega) (by omega) (us := (own_lat ts)) (by rw [cm187, ci187]; exact (own_latr ts)) (by omega) N183 g_v (g := (mkF m 22 #[.val (.ref x), .val (.ref v), .val (.int (Int32.ofNat cs.length)), .val (.int (0 : Int32))] [(.int (Int32.ofNat ts.length)), (.int (Int32.ofNat cs.length)), (.ref v), (.int (0 : Int32)), (.ref t)])) rfl (by rw [hml]; rfl) rfl (hb hby d42_147_22) (by decide) (W := 0) (by show 2 * 0 + _ ≤ _; exact Nat.le_of_eq rfl) (by decide)
  refine own_go st187 ?_
  have Vt187 : Arv Z h187 v kv .byte (Int32.ofNat M) (own_sM M (cs ++ ts)) (.int (0 : Int32)) := by simp only [cj187, cm187] at Vc187; exact (own_apM hle) ▸ Vc187
  refine og (fun _ k => XS.goto X187.here hx rfl (pc0 := 25) (pc' := 43) rfl (hb hby d42_147_25) (by decide) (by decide) k) ?_
  have f188 := ((Keep.refl h0 [v]).trans K187 (allS (Or.inl (List.mem_of_getElem? (i := 0) rfl)) all0))
  refine own_fin (v := none) X187 (fun _ => rfl) hlk (fun fs hr => X187.returnOut hx hrt (hb hby d42_147_43) hr) (QQ := QInf Z v kv (Int32.ofNat M) (own_sM M (cs ++ ts)) h0 n0) ?_ (by decide) (by decide)
  rw [e187]
  exact ⟨rfl, N187, f188, Vt187⟩

theorem ef_rm_gbM1 (m : MethodId) (x0 : Addr) (x1 : Addr) (x2 : Int32) (x3 : Int32) : entryFrame m #[(.ref x0), (.ref x1), (.int x2), (.int x3)] 4 = mkF m 0 #[.val (.ref x0), .val (.ref x1), .val (.int x2), .val (.int x3)] [] := by
   first | (simp [entryFrame, mkF, argsToLocals, Value.category]; done) | rfl
set_option maxRecDepth 65536 in
set_option maxHeartbeats 40000000 in
theorem rm_gbM1 (l : Launch) (Z : State) (a0 : Array Value) (hw : ∀ d ∈ tables_1, d.before a0 Z = true) (ws : List Jvm.Cond) (x t : Addr) (kt : ClassId) (ts : List Int32) (v : Addr) (kv : ClassId) (M : Nat) (cs : List Int32) (G1 : Int32) (G3 : Value) (h0 : Heap) (n0 : Nat) (O0 : Old Z n0 h0) (O2 : Sta Z Z.heap "java/lang/String" "COMPACT_STRINGS" "Z" (.int G1)) (P5 : ¬ (G1 = (0 : Int32))) (O4 : Sta Z Z.heap "jdk/internal/util/Preconditions" "SIOOBE_FORMATTER" "Ljava/util/function/BiFunction;" G3) (rG3 : G3.isRef = true) (OA : Sta Z Z.heap "java/lang/StringUTF16" "$assertionsDisabled" "Z" (.int (1 : Int32))) (OH : Sta Z Z.heap "java/lang/StringUTF16" "HI_BYTE_SHIFT" "I" (.int (0 : Int32))) (OL : Sta Z Z.heap "java/lang/StringUTF16" "LO_BYTE_SHIFT" "I" (.int (8 : Int32))) (E_x : Exa Z h0 x "java/lang/String") (Fv_x : Fld Z h0 x "java/lang/String" "value" "[B" (.ref t)) (Fc_x : Fld Z h0 x "java/lang/String" "coder" "B" (.int (1 : Int32))) (V_t : Arv Z h0 t kt .byte (Int32.ofNat (2 * ts.length)) (StrChars.Road.wideBytes ts) (.int (0 : Int32))) (hex : ∃ c ∈ ts, (255 : Int32) < c) (hot : own_Ok ts) (V_v : Arv Z h0 v kv .byte (Int32.ofNat (2 * M)) (own_wM M cs) (.int (0 : Int32))) (g_v : n0 ≤ v) (htv : t ≠ v) (hle : cs.length + ts.length ≤ M) (hM34 : M ≤ 34) :
    MetFree l (⟨"java/lang/String", "getBytes", "([BIB)V"⟩ : MethodName) (head1 (Jvm.Cond.code (⟨"java/lang/String", "getBytes", "([BIB)V"⟩ : MethodName) jdk_42_method_147_code 4 none :: ws) ⟨1, 0, 0, 18⟩) (fun aA U => aA = #[(.ref x), (.ref v), (.int (Int32.ofNat cs.length)), (.int (1 : Int32))] ∧ Z.Warmed39 U.vm ∧ U.heap = h0) (fun _ _ _ _ _ => True) (fun _ U oO U' => ∃ rV rL, oO = .returned rV ∧ QInf Z v kv (Int32.ofNat (2 * M)) (own_wM M (cs ++ ts)) h0 n0 rV U'.heap rL ∧ FrameEnd U oO U' rL 0 0) := by
  refine MetFree.of_bodySF (plainFor_of_name pn_0) hisR ?_
  intro p e s m args below meth cC s₁ Bd hml0 hP hK
  obtain ⟨rfl, hZ, hh⟩ := hP
  have hx := Bd.exec
  have hby := Bd.bytes
  have hml : cC.maxLocals = 4 := hml0
  have hown : s.vm.findClass "java/lang/String" = some m.cls := findClass_of_methodNamed Bd.named
  have hnm := (name_of_methodNamed Bd.named Bd.method).1
  have hrt := Bd.returns
  have hlk : meth.locks = false := Bd.notSynchronized
  have X0 : Stand p l e ⟨1, 0, 0, 18⟩ s m #[(.ref x), (.ref v), (.int (Int32.ofNat cs.length)), (.int (1 : Int32))] below meth cC s₁ [] 0 0 := Stand.of_body Bd
  have e0 : s₁.heap = h0 := by rw [← hh, Bd.state]; rfl
  have N0 := Fr.nil n0
  have Z0 : n0 ≤ h0.size := O0.1 ▸ O0.2.1
  show own_Go p e below (s₁.setTop (entryFrame m #[(.ref x), (.ref v), (.int (Int32.ofNat cs.length)), (.int (1 : Int32))] 4)) (fun oO U' => ∃ rV rL, oO = .returned rV ∧ QInf Z v kv (Int32.ofNat (2 * M)) (own_wM M (cs ++ ts)) h0 n0 rV U'.heap rL ∧ FrameEnd s oO U' rL 0 0)
  refine own_go (fun _ k => castTop (ef_rm_gbM1 m x v _ _) k) ?_
  have hlt4 : ts.length ≤ 4000 := hot.2
  have hxv := Exa.neArv E_x V_v (tw hw 2 rfl)
  refine og (fun _ k => XS.aloadN X0.here hx rfl (hb hby d42_147_0) rfl rfl k) ?_
  obtain ⟨cq189, kq189, q189a, q189b, q189c⟩ := isOf hZ e0 E_x
  obtain ⟨v189, _, ⟨T189, L189, k189, n189⟩, -, X189, ⟨Lc189, hQ189, l189, y189, z189⟩, st189⟩ := X0.virtualBack hx (y := (⟨"java/lang/String", "coder", "()B"⟩ : MethodName)) (z := (⟨"java/lang/String", "coder", "()B"⟩ : MethodName)) hown (mvT hZ (tw hw 75 rfl)) (mvT hZ (tw hw 76 rfl)) (notFace_of_selects (args := #[]) (mvT hZ (tw hw 78 rfl))) (mvT hZ (tw hw 78 rfl)) (mvT hZ (tw hw 77 rfl)) (by decide) (backOf (W := 0) (rm_cod1 l Z a0 hw [] x G1 h0 n0 O0 E_x Fc_x O2 P5) hZ (tw hw 79 rfl) (tw hw 3 rfl) (by decide) (by decide)) q189a q189c (g := (mkF m 1 #[.val (.ref x), .val (.ref v), .val (.int (Int32.ofNat cs.length)), .val (.int (1 : Int32))] [(.ref x)])) rfl (by rw [hml]; rfl) (Steps.refl _) (argsL := []) (rest := []) (lenOf pd_18 rfl) rfl (by show 2 * 0 + _ ≤ _; exact Nat.le_of_eq rfl) (hb hby d42_147_1) (fun _ _ => ⟨rfl, e0, (by decide : 0 + 0 ≤ _), (by decide : 0 + 0 ≤ _)⟩)
  dsimp only [Pt.U, Pt.locs, Pt.cells, Pt.slots] at X189 l189 y189 z189 st189 hQ189
  subst l189 y189 z189
  refine own_gos st189 ?_
  obtain ⟨rfl, Nq189, e189⟩ := hQ189
  have N189 := Fr.app N0 Nq189
  refine og (fun _ k => XS.iloadN X189.here hx rfl (hb hby d42_147_4) rfl k) ?_
  refine og (fun _ k => XS.icmpNo X189.here hx rfl (hb hby d42_147_5) rfl (teq (by decide : (1 : Int32) = (1 : Int32))).2 k) ?_
  try dsimp only [mkF]
  refine og (fun _ k => XS.aloadN X189.here hx rfl (hb hby d42_147_8) rfl rfl k) ?_
  obtain ⟨T190, X190, e190, st190⟩ := getF X189 hx hZ hown (host := "") (Or.inl (tw hw 21 rfl)) Via.refl e189 Fv_x (g := (mkF m 9 #[.val (.ref x), .val (.ref v), .val (.int (Int32.ofNat cs.length)), .val (.int (1 : Int32))] [(.ref x)])) rfl rfl (hb hby d42_147_9)
  refine own_go st190 ?_
  refine og (fun _ k => XS.iconst X190.here hx rfl (hb hby d42_147_12) k) ?_
  refine og (fun _ k => XS.aloadN X190.here hx rfl (hb hby d42_147_13) rfl rfl k) ?_
  refine og (fun _ k => XS.iloadN X190.here hx rfl (hb hby d42_147_14) rfl k) ?_
  try dsimp only [mkF]
  refine og (fun _ k => XS.iloadN X190.here hx rfl (hb hby d42_147_15) rfl k) ?_
  refine og (fun _ k => XS.ishl X190.here hx rfl (hb hby d42_147_16) rfl k) ?_
  show own_Go p e below (T190.setTop (mkF m 17 #[.val (.ref x), .val (.ref v), .val (.int (Int32.ofNat cs.length)), .val (.int (1 : Int32))] [(.int ((Int32.ofNat cs.length) <<< ((1 : Int32) &&& 31))), (.ref v), (.int (0 : Int32)), (.ref t)])) _
  rw [own_shl1 (by omega : cs.length ≤ 4000)]
  refine og (fun _ k => XS.aloadN X190.here hx rfl (hb hby d42_147_17) rfl rfl k) ?_
  obtain ⟨T191, X191, e191, st191⟩ := getF X190 hx hZ hown (host := "") (Or.inl (tw hw 21 rfl)) Via.refl e190 Fv_x (g := (mkF m 18 #[.val (.ref x), .val (.ref v), .val (.int (Int32.ofNat cs.length)), .val (.int (1 : Int32))] [(.ref x), (.int (Int32.ofNat (2 * cs.length))), (.ref v), (.int (0 : Int32)), (.ref t)])) rfl rfl (hb hby d42_147_18)
  refine own_go st191 ?_
  try dsimp only [mkF]
  obtain ⟨c192, A192, q192, S192, M192, Hs192, Gs192⟩ := id V_t
  refine og (fun _ k => X191.arraylength hx (by rw [e191]; exact A192.1) (State.isArrayOf_alike hZ.alike A192.2.1) (g := (mkF m 21 #[.val (.ref x), .val (.ref v), .val (.int (Int32.ofNat cs.length)), .val (.int (1 : Int32))] [(.ref t), (.int (Int32.ofNat (2 * cs.length))), (.ref v), (.int (0 : Int32)), (.ref t)])) rfl rfl (hb hby d42_147_21) _ k) ?_
  rw [len_of S192 M192]
  have ci193 := own_tn (i := 0) (by omega)
  have cj193 := own_tn (i := (2 * cs.length)) (by omega)
  have cm193 := own_tn (i := (2 * ts.length)) (by omega)
  have ca193 := own_tn (i := (2 * ts.length)) (by omega)
  have cb193 := own_tn (i := (2 * M)) (by omega)
  have cl193 : ((own_wM M cs) : List Value).length = (2 * M) := (own_wMl (by omega))
  obtain ⟨T193, h193, Lc193, X193, e193, N193, K193, Vc193, st193⟩ := cpA (sp := Int32.ofNat 0) (dp := Int32.ofNat (2 * cs.length)) (nn := Int32.ofNat (2 * ts.length)) X191 hx hZ hown (tw hw 103 rfl) (tw hw 106 rfl) (tw hw 104 rfl) (tw hw 105 rfl) e191 (z := Int32.ofNat (2 * ts.length)) (z' := Int32.ofNat (2 * M)) V_t V_v (Or.inl ⟨rfl, rfl⟩) (own_nn0 (by omega)) (own_nn0 (by omega)) (own_nn0 (by omega)) (by omega) (by omega) (us := (StrChars.Road.wideBytes ts)) (by rw [cm193, ci193]; exact (own_widr ts)) (by omega) N189 g_v (g := (mkF m 22 #[.val (.ref x), .val (.ref v), .val (.int (Int32.ofNat cs.length)), .val (.int (1 : Int32))] [(.int (Int32.ofNat (2 * ts.length))), (.int (Int32.ofNat (2 * cs.length))), (.ref v), (.int (0 : Int32)), (.ref t)])) rfl (by rw [hml]; rfl) rfl (hb hby d42_147_22) (by decide) (W := 0) (by show 2 * 0 + _ ≤ _; exact Nat.le_of_eq rfl) (by decide)
  refine own_go st193 ?_
  have Vt193 : Arv Z h193 v kv .byte (Int32.ofNat (2 * M)) (own_wM M (cs ++ ts)) (.int (0 : Int32)) := by simp only [cj193, cm193] at Vc193; exact (own_apW hle) ▸ Vc193
  refine og (fun _ k => XS.goto X193.here hx rfl (pc0 := 25) (pc' := 43) rfl (hb hby d42_147_25) (by decide) (by decide) k) ?_
  have f194 := ((Keep.refl h0 [v]).trans K193 (allS (Or.inl (List.mem_of_getElem? (i := 0) rfl)) all0))
  refine own_fin (v := none) X193 (fun _ => rfl) hlk (fun fs hr => X193.returnOut hx hrt (hb hby d42_147_43) hr) (QQ := QInf Z v kv (Int32.ofNat (2 * M)) (own_wM M (cs ++ ts)) h0 n0) ?_ (by decide) (by decide)
  rw [e193]
  exact ⟨rfl, N193, f194, Vt193⟩

def QPutL (Z : State) (v : Addr) (kv : ClassId) (M : Nat) (ds : List Int32) (h0 : Heap) (n0 : Nat) (r : Option Value) (h : Heap) (L : List Loc) : Prop := r = none ∧ Fr n0 L ∧ Keep h0 h [v] ∧ Arv Z h v kv .byte (Int32.ofNat M) (own_sM M ds) (.int (0 : Int32))
abbrev k68_73 := jdk_68_method_73_code
theorem d68_73_0 : Dk k68_73 0 (.aload_n 0) 1 := own_k
theorem d68_73_1 : Dk k68_73 1 (.aload_n 2) 1 := own_k
theorem d68_73_2 : Dk k68_73 2 (.invokevirtual 397) 3 := own_k
theorem pd_20 : parseMethodDescriptor "(Ljava/lang/String;)V" = some ⟨[(.object "java/lang/String")], none⟩ := by decide +kernel
theorem d68_73_5 : Dk k68_73 5 (.aload_n 2) 1 := own_k
theorem d68_73_6 : Dk k68_73 6 (.aload_n 0) 1 := own_k
theorem d68_73_7 : Dk k68_73 7 (.getfield 15) 3 := own_k
theorem d68_73_10 : Dk k68_73 10 (.iload_n 1) 1 := own_k
theorem d68_73_11 : Dk k68_73 11 (.aload_n 0) 1 := own_k
theorem d68_73_12 : Dk k68_73 12 (.getfield 22) 3 := own_k
theorem d68_73_15 : Dk k68_73 15 (.invokevirtual 399) 3 := own_k
theorem pd_21 : parseMethodDescriptor "([BIB)V" = some ⟨[(.array .byte), .int, .byte], none⟩ := by decide +kernel
theorem d68_73_18 : Dk k68_73 18 .return_ 1 := own_k
theorem ef_rm_psL (m : MethodId) (x0 : Addr) (x1 : Int32) (x2 : Addr) : entryFrame m #[(.ref x0), (.int x1), (.ref x2)] 3 = mkF m 0 #[.val (.ref x0), .val (.int x1), .val (.ref x2)] [] := by
   first | (simp [entryFrame, mkF, argsToLocals, Value.category]; done) | rfl
set_option maxRecDepth 65536 in
set_option maxHeartbeats 40000000 in
theorem rm_psL (l : Launch) (Z : State) (a0 : Array Value) (hw : ∀ d ∈ tables_1, d.before a0 Z = true) (ws : List Jvm.Cond) (b v : Addr) (kv : ClassId) (M : Nat) (cs : List Int32) (x t : Addr) (kt : ClassId) (ts : List Int32) (G1 : Int32) (G3 : Value) (h0 : Heap) (n0 : Nat) (O0 : Old Z n0 h0) (O2 : Sta Z Z.heap "java/lang/String" "COMPACT_STRINGS" "Z" (.int G1)) (P5 : ¬ (G1 = (0 : Int32))) (O4 : Sta Z Z.heap "jdk/internal/util/Preconditions" "SIOOBE_FORMATTER" "Ljava/util/function/BiFunction;" G3) (rG3 : G3.isRef = true) (OA : Sta Z Z.heap "java/lang/StringUTF16" "$assertionsDisabled" "Z" (.int (1 : Int32))) (OH : Sta Z Z.heap "java/lang/StringUTF16" "HI_BYTE_SHIFT" "I" (.int (0 : Int32))) (OL : Sta Z Z.heap "java/lang/StringUTF16" "LO_BYTE_SHIFT" "I" (.int (8 : Int32))) (E_b : Exa Z h0 b "java/lang/StringBuilder") (Fv_b : Fld Z h0 b "java/lang/AbstractStringBuilder" "value" "[B" (.ref v)) (Fc_b : Fld Z h0 b "java/lang/AbstractStringBuilder" "coder" "B" (.int (0 : Int32))) (Fn_b : Fld Z h0 b "java/lang/AbstractStringBuilder" "count" "I" (.int (Int32.ofNat cs.length))) (Fm_b : Fld Z h0 b "java/lang/AbstractStringBuilder" "maybeLatin1" "Z" (.int (0 : Int32))) (V_v : Arv Z h0 v kv .byte (Int32.ofNat M) (own_sM M cs) (.int (0 : Int32))) (X_v : Exa Z h0 v "[B") (hall : ∀ c ∈ cs, ¬ (255 : Int32) < c) (hok : own_Ok cs) (hM : cs.length ≤ M ∧ M ≤ 34) (g_b : n0 ≤ b) (g_v : n0 ≤ v) (E_x : Exa Z h0 x "java/lang/String") (Fv_x : Fld Z h0 x "java/lang/String" "value" "[B" (.ref t)) (Fc_x : Fld Z h0 x "java/lang/String" "coder" "B" (.int (0 : Int32))) (V_t : Arv Z h0 t kt .byte (Int32.ofNat ts.length) (own_lat ts) (.int (0 : Int32))) (hts : ∀ c ∈ ts, ¬ (255 : Int32) < c) (hot : own_Ok ts) (hxb : x ≠ b) (htv : t ≠ v) (hle : cs.length + ts.length ≤ M) :
    MetFree l (⟨"java/lang/AbstractStringBuilder", "putStringAt", "(ILjava/lang/String;)V"⟩ : MethodName) (head1 (Jvm.Cond.code (⟨"java/lang/AbstractStringBuilder", "putStringAt", "(ILjava/lang/String;)V"⟩ : MethodName) jdk_68_method_73_code 3 none :: ws) ⟨2, 0, 0, 33⟩) (fun aA U => aA = #[(.ref b), (.int (Int32.ofNat cs.length)), (.ref x)] ∧ Z.Warmed39 U.vm ∧ U.heap = h0) (fun _ _ _ _ _ => True) (fun _ U oO U' => ∃ rV rL, oO = .returned rV ∧ QPutL Z v kv M (cs ++ ts) h0 n0 rV U'.heap rL ∧ FrameEnd U oO U' rL 0 0) := by
  refine MetFree.of_bodySF (plainFor_of_name pn_2) hisR ?_
  intro p e s m args below meth cC s₁ Bd hml0 hP hK
  obtain ⟨rfl, hZ, hh⟩ := hP
  have hx := Bd.exec
  have hby := Bd.bytes
  have hml : cC.maxLocals = 3 := hml0
  have hown : s.vm.findClass "java/lang/AbstractStringBuilder" = some m.cls := findClass_of_methodNamed Bd.named
  have hnm := (name_of_methodNamed Bd.named Bd.method).1
  have hrt := Bd.returns
  have hlk : meth.locks = false := Bd.notSynchronized
  have X0 : Stand p l e ⟨2, 0, 0, 33⟩ s m #[(.ref b), (.int (Int32.ofNat cs.length)), (.ref x)] below meth cC s₁ [] 0 0 := Stand.of_body Bd
  have e0 : s₁.heap = h0 := by rw [← hh, Bd.state]; rfl
  have N0 := Fr.nil n0
  have Z0 : n0 ≤ h0.size := O0.1 ▸ O0.2.1
  show own_Go p e below (s₁.setTop (entryFrame m #[(.ref b), (.int (Int32.ofNat cs.length)), (.ref x)] 3)) (fun oO U' => ∃ rV rL, oO = .returned rV ∧ QPutL Z v kv M (cs ++ ts) h0 n0 rV U'.heap rL ∧ FrameEnd s oO U' rL 0 0)
  refine own_go (fun _ k => castTop (ef_rm_psL m b _ x) k) ?_
  have hlen : cs.length ≤ 4000 := hok.2
  obtain ⟨hcM, hM34⟩ := hM
  have hbv := Exa.neArv E_b V_v (tw hw 42 rfl)
  have hlt4 : ts.length ≤ 4000 := hot.2
  have hxv := Exa.neArv E_x V_v (tw hw 2 rfl)
  have hbt := Exa.neArv E_b V_t (tw hw 42 rfl)
  refine og (fun _ k => XS.aloadN X0.here hx rfl (hb hby d68_73_0) rfl rfl k) ?_
  refine og (fun _ k => XS.aloadN X0.here hx rfl (hb hby d68_73_1) rfl rfl k) ?_
  obtain ⟨cq195, q195, q195'⟩ := E_b.cell
  obtain ⟨v195, _, ⟨T195, L195, k195, n195⟩, -, X195, ⟨Lc195, hQ195, l195, y195, z195⟩, st195⟩ := X0.privateBack hx (y := (⟨"java/lang/AbstractStringBuilder", "inflateIfNeededFor", "(Ljava/lang/String;)V"⟩ : MethodName)) hown (mvT hZ (tw hw 92 rfl)) (mvT hZ (tw hw 93 rfl)) (own_selQ hZ (tw hw 95 rfl) (tw hw 94 rfl) (tw hw 93 rfl) (by decide)) (Cond.privateMethod_at (mvP hZ (tw hw 94 rfl) (args := #[]))) (mvT hZ (tw hw 96 rfl)) (by decide) (backOf (W := 0) (rm_ifl l Z a0 hw [] b v kv M cs x t kt ts G1 G3 h0 n0 O0 O2 P5 O4 rG3 OA OH OL E_b Fv_b Fc_b Fn_b Fm_b V_v X_v hall hok ⟨hcM, hM34⟩ g_b g_v E_x Fv_x Fc_x V_t hts hot hxb htv) hZ (tw hw 96 rfl) (tw hw 51 rfl) (by decide) (by decide)) (g := (mkF m 2 #[.val (.ref b), .val (.int (Int32.ofNat cs.length)), .val (.ref x)] [(.ref x), (.ref b)])) rfl (by rw [hml]; rfl) (Steps.refl _) (a := b) (by rw [e0]; exact q195) q195' (argsL := [(.ref x)]) (rest := []) (lenOf pd_20 rfl) rfl (by show 2 * 0 + _ ≤ _; exact Nat.le_of_eq rfl) (hb hby d68_73_2) (fun _ _ => ⟨rfl, e0, (by decide : 0 + 0 ≤ _), (by decide : 0 + 0 ≤ _)⟩)
  dsimp only [Pt.U, Pt.locs, Pt.cells, Pt.slots] at X195 l195 y195 z195 st195 hQ195
  subst l195 y195 z195
  refine own_gos st195 ?_
  obtain ⟨rfl, Nq195, e195⟩ := hQ195
  have N195 := Fr.app N0 Nq195
  refine og (fun _ k => XS.aloadN X195.here hx rfl (hb hby d68_73_5) rfl rfl k) ?_
  try dsimp only [mkF]
  refine og (fun _ k => XS.aloadN X195.here hx rfl (hb hby d68_73_6) rfl rfl k) ?_
  obtain ⟨T196, X196, e196, st196⟩ := getF X195 hx hZ hown (host := "") (Or.inl (tw hw 55 rfl)) Via.refl e195 Fv_b (g := (mkF m 7 #[.val (.ref b), .val (.int (Int32.ofNat cs.length)), .val (.ref x)] [(.ref b), (.ref x)])) rfl rfl (hb hby d68_73_7)
  refine own_go st196 ?_
  refine og (fun _ k => XS.iloadN X196.here hx rfl (hb hby d68_73_10) rfl k) ?_
  refine og (fun _ k => XS.aloadN X196.here hx rfl (hb hby d68_73_11) rfl rfl k) ?_
  obtain ⟨T197, X197, e197, st197⟩ := getF X196 hx hZ hown (host := "") (Or.inl (tw hw 57 rfl)) Via.refl e196 Fc_b (g := (mkF m 12 #[.val (.ref b), .val (.int (Int32.ofNat cs.length)), .val (.ref x)] [(.ref b), (.int (Int32.ofNat cs.length)), (.ref v), (.ref x)])) rfl rfl (hb hby d68_73_12)
  refine own_go st197 ?_
  try dsimp only [mkF]
  obtain ⟨cq198, kq198, q198a, q198b, q198c⟩ := isOf hZ e197 E_x
  obtain ⟨v198, _, ⟨T198, L198, k198, n198⟩, -, X198, ⟨Lc198, hQ198, l198, y198, z198⟩, st198⟩ := X197.virtualBack hx (y := (⟨"java/lang/String", "getBytes", "([BIB)V"⟩ : MethodName)) (z := (⟨"java/lang/String", "getBytes", "([BIB)V"⟩ : MethodName)) hown (mvT hZ (tw hw 98 rfl)) (mvT hZ (tw hw 99 rfl)) (notFace_of_selects (args := #[]) (mvT hZ (tw hw 101 rfl))) (mvT hZ (tw hw 101 rfl)) (mvT hZ (tw hw 100 rfl)) (by decide) (backOf (W := 0) (rm_gbM0 l Z a0 hw [] x t kt ts v kv M cs G1 G3 h0 n0 O0 O2 P5 O4 rG3 OA OH OL E_x Fv_x Fc_x V_t hts hot V_v g_v htv hle hM34) hZ (tw hw 102 rfl) (tw hw 3 rfl) (by decide) (by decide)) q198a q198c (g := (mkF m 15 #[.val (.ref b), .val (.int (Int32.ofNat cs.length)), .val (.ref x)] [(.int (0 : Int32)), (.int (Int32.ofNat cs.length)), (.ref v), (.ref x)])) rfl (by rw [hml]; rfl) (Steps.refl _) (argsL := [(.ref v), (.int (Int32.ofNat cs.length)), (.int (0 : Int32))]) (rest := []) (lenOf pd_21 rfl) rfl (by show 2 * 0 + _ ≤ _; exact Nat.le_of_eq rfl) (hb hby d68_73_15) (fun _ _ => ⟨rfl, e197, (by decide : 0 + 0 ≤ _), (by decide : 0 + 0 ≤ _)⟩)
  dsimp only [Pt.U, Pt.locs, Pt.cells, Pt.slots] at X198 l198 y198 z198 st198 hQ198
  subst l198 y198 z198
  refine own_gos st198 ?_
  obtain ⟨rfl, Nq198, K198, Vv198⟩ := hQ198
  have N198 := Fr.app N195 Nq198
  have f199 := ((Keep.refl h0 [v]).trans K198 (allS (Or.inl (List.mem_of_getElem? (i := 0) rfl)) all0))
  refine own_fin (v := none) X198 (fun _ => rfl) hlk (fun fs hr => X198.returnOut hx hrt (hb hby d68_73_18) hr) (QQ := QPutL Z v kv M (cs ++ ts) h0 n0) ?_ (by decide) (by decide)
  exact ⟨rfl, N198, f199, Vv198⟩

theorem ef_rm_psW (m : MethodId) (x0 : Addr) (x1 : Int32) (x2 : Addr) : entryFrame m #[(.ref x0), (.int x1), (.ref x2)] 3 = mkF m 0 #[.val (.ref x0), .val (.int x1), .val (.ref x2)] [] := by
   first | (simp [entryFrame, mkF, argsToLocals, Value.category]; done) | rfl
set_option maxRecDepth 65536 in
set_option maxHeartbeats 40000000 in
theorem rm_psW (l : Launch) (Z : State) (a0 : Array Value) (hw : ∀ d ∈ tables_1, d.before a0 Z = true) (ws : List Jvm.Cond) (b v : Addr) (kv : ClassId) (M : Nat) (cs : List Int32) (x t : Addr) (kt : ClassId) (ts : List Int32) (G1 : Int32) (G3 : Value) (h0 : Heap) (n0 : Nat) (O0 : Old Z n0 h0) (O2 : Sta Z Z.heap "java/lang/String" "COMPACT_STRINGS" "Z" (.int G1)) (P5 : ¬ (G1 = (0 : Int32))) (O4 : Sta Z Z.heap "jdk/internal/util/Preconditions" "SIOOBE_FORMATTER" "Ljava/util/function/BiFunction;" G3) (rG3 : G3.isRef = true) (OA : Sta Z Z.heap "java/lang/StringUTF16" "$assertionsDisabled" "Z" (.int (1 : Int32))) (OH : Sta Z Z.heap "java/lang/StringUTF16" "HI_BYTE_SHIFT" "I" (.int (0 : Int32))) (OL : Sta Z Z.heap "java/lang/StringUTF16" "LO_BYTE_SHIFT" "I" (.int (8 : Int32))) (E_b : Exa Z h0 b "java/lang/StringBuilder") (Fv_b : Fld Z h0 b "java/lang/AbstractStringBuilder" "value" "[B" (.ref v)) (Fc_b : Fld Z h0 b "java/lang/AbstractStringBuilder" "coder" "B" (.int (0 : Int32))) (Fn_b : Fld Z h0 b "java/lang/AbstractStringBuilder" "count" "I" (.int (Int32.ofNat cs.length))) (Fm_b : Fld Z h0 b "java/lang/AbstractStringBuilder" "maybeLatin1" "Z" (.int (0 : Int32))) (V_v : Arv Z h0 v kv .byte (Int32.ofNat M) (own_sM M cs) (.int (0 : Int32))) (X_v : Exa Z h0 v "[B") (hall : ∀ c ∈ cs, ¬ (255 : Int32) < c) (hok : own_Ok cs) (hM : cs.length ≤ M ∧ M ≤ 34) (g_b : n0 ≤ b) (g_v : n0 ≤ v) (E_x : Exa Z h0 x "java/lang/String") (Fv_x : Fld Z h0 x "java/lang/String" "value" "[B" (.ref t)) (Fc_x : Fld Z h0 x "java/lang/String" "coder" "B" (.int (1 : Int32))) (V_t : Arv Z h0 t kt .byte (Int32.ofNat (2 * ts.length)) (StrChars.Road.wideBytes ts) (.int (0 : Int32))) (hex : ∃ c ∈ ts, (255 : Int32) < c) (hot : own_Ok ts) (hxb : x ≠ b) (htv : t ≠ v) (hle : cs.length + ts.length ≤ M) :
    MetFree l (⟨"java/lang/AbstractStringBuilder", "putStringAt", "(ILjava/lang/String;)V"⟩ : MethodName) (head1 (Jvm.Cond.code (⟨"java/lang/AbstractStringBuilder", "putStringAt", "(ILjava/lang/String;)V"⟩ : MethodName) jdk_68_method_73_code 3 none :: ws) ⟨7, 1, 68, 102⟩) (fun aA U => aA = #[(.ref b), (.int (Int32.ofNat cs.length)), (.ref x)] ∧ Z.Warmed39 U.vm ∧ U.heap = h0) (fun _ _ _ _ _ => True) (fun _ U oO U' => ∃ rV rL, oO = .returned rV ∧ QWideM Z b M cs (cs ++ ts) h0 n0 rV U'.heap rL ∧ FrameEnd U oO U' rL 1 68) := by
  refine MetFree.of_bodySF (plainFor_of_name pn_2) hisR ?_
  intro p e s m args below meth cC s₁ Bd hml0 hP hK
  obtain ⟨rfl, hZ, hh⟩ := hP
  have hx := Bd.exec
  have hby := Bd.bytes
  have hml : cC.maxLocals = 3 := hml0
  have hown : s.vm.findClass "java/lang/AbstractStringBuilder" = some m.cls := findClass_of_methodNamed Bd.named
  have hnm := (name_of_methodNamed Bd.named Bd.method).1
  have hrt := Bd.returns
  have hlk : meth.locks = false := Bd.notSynchronized
  have X0 : Stand p l e ⟨7, 1, 68, 102⟩ s m #[(.ref b), (.int (Int32.ofNat cs.length)), (.ref x)] below meth cC s₁ [] 0 0 := Stand.of_body Bd
  have e0 : s₁.heap = h0 := by rw [← hh, Bd.state]; rfl
  have N0 := Fr.nil n0
  have Z0 : n0 ≤ h0.size := O0.1 ▸ O0.2.1
  show own_Go p e below (s₁.setTop (entryFrame m #[(.ref b), (.int (Int32.ofNat cs.length)), (.ref x)] 3)) (fun oO U' => ∃ rV rL, oO = .returned rV ∧ QWideM Z b M cs (cs ++ ts) h0 n0 rV U'.heap rL ∧ FrameEnd s oO U' rL 1 68)
  refine own_go (fun _ k => castTop (ef_rm_psW m b _ x) k) ?_
  have hlen : cs.length ≤ 4000 := hok.2
  obtain ⟨hcM, hM34⟩ := hM
  have hbv := Exa.neArv E_b V_v (tw hw 42 rfl)
  have hlt4 : ts.length ≤ 4000 := hot.2
  have hxv := Exa.neArv E_x V_v (tw hw 2 rfl)
  have hbt := Exa.neArv E_b V_t (tw hw 42 rfl)
  refine og (fun _ k => XS.aloadN X0.here hx rfl (hb hby d68_73_0) rfl rfl k) ?_
  refine og (fun _ k => XS.aloadN X0.here hx rfl (hb hby d68_73_1) rfl rfl k) ?_
  obtain ⟨cq200, q200, q200'⟩ := E_b.cell
  obtain ⟨v200, _, ⟨T200, L200, k200, n200⟩, -, X200, ⟨Lc200, hQ200, l200, y200, z200⟩, st200⟩ := X0.privateBack hx (y := (⟨"java/lang/AbstractStringBuilder", "inflateIfNeededFor", "(Ljava/lang/String;)V"⟩ : MethodName)) hown (mvT hZ (tw hw 92 rfl)) (mvT hZ (tw hw 93 rfl)) (own_selQ hZ (tw hw 95 rfl) (tw hw 94 rfl) (tw hw 93 rfl) (by decide)) (Cond.privateMethod_at (mvP hZ (tw hw 94 rfl) (args := #[]))) (mvT hZ (tw hw 96 rfl)) (by decide) (backOf (W := 0) (rm_ifw l Z a0 hw [] b v kv M cs x t kt ts G1 G3 h0 n0 O0 O2 P5 O4 rG3 OA OH OL E_b Fv_b Fc_b Fn_b Fm_b V_v X_v hall hok ⟨hcM, hM34⟩ g_b g_v E_x Fv_x Fc_x V_t hex hot hxb htv) hZ (tw hw 96 rfl) (tw hw 51 rfl) (by decide) (by decide)) (g := (mkF m 2 #[.val (.ref b), .val (.int (Int32.ofNat cs.length)), .val (.ref x)] [(.ref x), (.ref b)])) rfl (by rw [hml]; rfl) (Steps.refl _) (a := b) (by rw [e0]; exact q200) q200' (argsL := [(.ref x)]) (rest := []) (lenOf pd_20 rfl) rfl (by show 2 * 0 + _ ≤ _; exact Nat.le_of_eq rfl) (hb hby d68_73_2) (fun _ _ => ⟨rfl, e0, (by decide : 0 + 1 ≤ _), (by decide : 0 + 68 ≤ _)⟩)
  dsimp only [Pt.U, Pt.locs, Pt.cells, Pt.slots] at X200 l200 y200 z200 st200 hQ200
  subst l200 y200 z200
  refine own_gos st200 ?_
  obtain ⟨v200, kv200, rfl, Nq200, K200, vg200, Fv200, Fc200, Fn200, Fm200, Vv200, Xv200⟩ := hQ200
  have N200 := Fr.app N0 Nq200
  refine og (fun _ k => XS.aloadN X200.here hx rfl (hb hby d68_73_5) rfl rfl k) ?_
  try dsimp only [mkF]
  refine og (fun _ k => XS.aloadN X200.here hx rfl (hb hby d68_73_6) rfl rfl k) ?_
  obtain ⟨T201, X201, e201, st201⟩ := getF X200 hx hZ hown (host := "") (Or.inl (tw hw 55 rfl)) Via.refl (rfl : T200.heap = T200.heap) Fv200 (g := (mkF m 7 #[.val (.ref b), .val (.int (Int32.ofNat cs.length)), .val (.ref x)] [(.ref b), (.ref x)])) rfl rfl (hb hby d68_73_7)
  refine own_go st201 ?_
  refine og (fun _ k => XS.iloadN X201.here hx rfl (hb hby d68_73_10) rfl k) ?_
  refine og (fun _ k => XS.aloadN X201.here hx rfl (hb hby d68_73_11) rfl rfl k) ?_
  obtain ⟨T202, X202, e202, st202⟩ := getF X201 hx hZ hown (host := "") (Or.inl (tw hw 57 rfl)) Via.refl e201 Fc200 (g := (mkF m 12 #[.val (.ref b), .val (.int (Int32.ofNat cs.length)), .val (.ref x)] [(.ref b), (.int (Int32.ofNat cs.length)), (.ref v200), (.ref x)])) rfl rfl (hb hby d68_73_12)
  refine own_go st202 ?_
  try dsimp only [mkF]
  have f203 := (Fv_x.keep K200 (ninS hxb nin0))
  have f204 := (Fc_x.keep K200 (ninS hxb nin0))
  have f205 := (V_t.keep K200 (ninS (Ne.symm hbt) nin0))
  have ne206 : t ≠ v200 := Nat.ne_of_lt (Nat.lt_of_lt_of_le V_t.lt vg200)
  have f207 := (O0.keep K200 (allS g_b all0))
  obtain ⟨cq208, kq208, q208a, q208b, q208c⟩ := isOf hZ e202 (E_x.keep K200)
  obtain ⟨v208, _, ⟨T208, L208, k208, n208⟩, -, X208, ⟨Lc208, hQ208, l208, y208, z208⟩, st208⟩ := X202.virtualBack hx (y := (⟨"java/lang/String", "getBytes", "([BIB)V"⟩ : MethodName)) (z := (⟨"java/lang/String", "getBytes", "([BIB)V"⟩ : MethodName)) hown (mvT hZ (tw hw 98 rfl)) (mvT hZ (tw hw 99 rfl)) (notFace_of_selects (args := #[]) (mvT hZ (tw hw 101 rfl))) (mvT hZ (tw hw 101 rfl)) (mvT hZ (tw hw 100 rfl)) (by decide) (backOf (W := 0) (rm_gbM1 l Z a0 hw [] x t kt ts v200 kv200 M cs G1 G3 T200.heap n0 f207 O2 P5 O4 rG3 OA OH OL (E_x.keep K200) f203 f204 f205 hex hot Vv200 (Nat.le_trans Z0 vg200) ne206 hle hM34) hZ (tw hw 102 rfl) (tw hw 3 rfl) (by decide) (by decide)) q208a q208c (g := (mkF m 15 #[.val (.ref b), .val (.int (Int32.ofNat cs.length)), .val (.ref x)] [(.int (1 : Int32)), (.int (Int32.ofNat cs.length)), (.ref v200), (.ref x)])) rfl (by rw [hml]; rfl) (Steps.refl _) (argsL := [(.ref v200), (.int (Int32.ofNat cs.length)), (.int (1 : Int32))]) (rest := []) (lenOf pd_21 rfl) rfl (by show 2 * 0 + _ ≤ _; exact Nat.le_of_eq rfl) (hb hby d68_73_15) (fun _ _ => ⟨rfl, e202, (by decide : 1 + 0 ≤ _), (by decide : 68 + 0 ≤ _)⟩)
  dsimp only [Pt.U, Pt.locs, Pt.cells, Pt.slots] at X208 l208 y208 z208 st208 hQ208
  subst l208 y208 z208
  refine own_gos st208 ?_
  obtain ⟨rfl, Nq208, K208, Vv208⟩ := hQ208
  have N208 := Fr.app N200 Nq208
  have f209 := (((Keep.refl h0 [b]).trans K200 (allS (Or.inl (List.mem_of_getElem? (i := 0) rfl)) all0)).trans K208 (allS (Or.inr vg200) all0))
  have ne210 : b ≠ v200 := Nat.ne_of_lt (Nat.lt_of_lt_of_le E_b.lt vg200)
  have f211 := (Fv200.keep K208 (ninS ne210 nin0))
  have f212 := (Fc200.keep K208 (ninS ne210 nin0))
  have f213 := (Fn200.keep K208 (ninS ne210 nin0))
  have f214 := (Fm200.keep K208 (ninS ne210 nin0))
  refine own_fin (v := none) X208 (fun _ => rfl) hlk (fun fs hr => X208.returnOut hx hrt (hb hby d68_73_18) hr) (QQ := QWideM Z b M cs (cs ++ ts) h0 n0) ?_ (by decide) (by decide)
  exact ⟨v200, _, rfl, N208, f209, vg200, f211, f212, f213, f214, Vv208, (Xv200.keep K208)⟩

def QSBg (Z : State) (b v0 : Addr) (cs : List Int32) (h0 : Heap) (n0 : Nat) (r : Option Value) (h : Heap) (L : List Loc) : Prop := ∃ (v : Addr) (kv : ClassId) (M : Nat) (cd : Int32), r = some (.ref b) ∧ Fr n0 L ∧ Keep h0 h [b, v0] ∧ (v = v0 ∨ h0.size ≤ v) ∧ Fld Z h b "java/lang/AbstractStringBuilder" "value" "[B" (.ref v) ∧ Fld Z h b "java/lang/AbstractStringBuilder" "coder" "B" (.int cd) ∧ Fld Z h b "java/lang/AbstractStringBuilder" "count" "I" (.int (Int32.ofNat cs.length)) ∧ Fld Z h b "java/lang/AbstractStringBuilder" "maybeLatin1" "Z" (.int (0 : Int32)) ∧ Arv Z h v kv .byte (own_zN cd M) (own_zV cd M cs) (.int (0 : Int32)) ∧ Exa Z h v "[B" ∧ own_cdi cd cs ∧ cs.length ≤ M ∧ M ≤ 34
def QSBl (Z : State) (b v : Addr) (kv : ClassId) (cs : List Int32) (h0 : Heap) (n0 : Nat) (r : Option Value) (h : Heap) (L : List Loc) : Prop := r = some (.ref b) ∧ Fr n0 L ∧ Keep h0 h [b, v] ∧ Fld Z h b "java/lang/AbstractStringBuilder" "value" "[B" (.ref v) ∧ Fld Z h b "java/lang/AbstractStringBuilder" "coder" "B" (.int (0 : Int32)) ∧ Fld Z h b "java/lang/AbstractStringBuilder" "count" "I" (.int (Int32.ofNat cs.length)) ∧ Fld Z h b "java/lang/AbstractStringBuilder" "maybeLatin1" "Z" (.int (0 : Int32)) ∧ Arv Z h v kv .byte (Int32.ofNat 16) (own_sM 16 cs) (.int (0 : Int32))
abbrev k68_22 := jdk_68_method_22_code
theorem d68_22_0 : Dk k68_22 0 (.aload_n 1) 1 := own_k
theorem d68_22_1 : Dk k68_22 1 (.ifnonnull 8) 3 := own_k
theorem d68_22_9 : Dk k68_22 9 (.aload_n 1) 1 := own_k
theorem d68_22_10 : Dk k68_22 10 (.invokevirtual 32) 3 := own_k
theorem d68_22_13 : Dk k68_22 13 (.istore_n 2) 1 := own_k
theorem d68_22_14 : Dk k68_22 14 (.aload_n 0) 1 := own_k
theorem d68_22_15 : Dk k68_22 15 (.aload_n 0) 1 := own_k
theorem d68_22_16 : Dk k68_22 16 (.getfield 79) 3 := own_k
theorem d68_22_19 : Dk k68_22 19 (.iload_n 2) 1 := own_k
theorem d68_22_20 : Dk k68_22 20 .iadd 1 := own_k
theorem d68_22_21 : Dk k68_22 21 (.invokevirtual 100) 3 := own_k
theorem d68_22_24 : Dk k68_22 24 (.aload_n 0) 1 := own_k
theorem d68_22_25 : Dk k68_22 25 (.aload_n 0) 1 := own_k
theorem d68_22_26 : Dk k68_22 26 (.getfield 79) 3 := own_k
theorem d68_22_29 : Dk k68_22 29 (.aload_n 1) 1 := own_k
theorem d68_22_30 : Dk k68_22 30 (.invokevirtual 208) 3 := own_k
theorem pd_22 : parseMethodDescriptor "(ILjava/lang/String;)V" = some ⟨[.int, (.object "java/lang/String")], none⟩ := by decide +kernel
theorem d68_22_33 : Dk k68_22 33 (.aload_n 0) 1 := own_k
theorem d68_22_34 : Dk k68_22 34 .dup 1 := own_k
theorem d68_22_35 : Dk k68_22 35 (.getfield 79) 3 := own_k
theorem d68_22_38 : Dk k68_22 38 (.iload_n 2) 1 := own_k
theorem d68_22_39 : Dk k68_22 39 .iadd 1 := own_k
theorem d68_22_40 : Dk k68_22 40 (.putfield 79) 3 := own_k
theorem d68_22_43 : Dk k68_22 43 (.aload_n 0) 1 := own_k
theorem d68_22_44 : Dk k68_22 44 .areturn 1 := own_k
theorem ef_rm_apl (m : MethodId) (x0 : Addr) (x1 : Addr) : entryFrame m #[(.ref x0), (.ref x1)] 3 = mkF m 0 #[.val (.ref x0), .val (.ref x1), .unset] [] := by
   first | (simp [entryFrame, mkF, argsToLocals, Value.category]; done) | rfl
set_option maxRecDepth 65536 in
set_option maxHeartbeats 40000000 in
theorem rm_apl (l : Launch) (Z : State) (a0 : Array Value) (hw : ∀ d ∈ tables_1, d.before a0 Z = true) (ws : List Jvm.Cond) (b v : Addr) (kv : ClassId) (cs : List Int32) (x t : Addr) (kt : ClassId) (ts : List Int32) (G1 : Int32) (G3 : Value) (h0 : Heap) (n0 : Nat) (O0 : Old Z n0 h0) (O2 : Sta Z Z.heap "java/lang/String" "COMPACT_STRINGS" "Z" (.int G1)) (P5 : ¬ (G1 = (0 : Int32))) (O4 : Sta Z Z.heap "jdk/internal/util/Preconditions" "SIOOBE_FORMATTER" "Ljava/util/function/BiFunction;" G3) (rG3 : G3.isRef = true) (OA : Sta Z Z.heap "java/lang/StringUTF16" "$assertionsDisabled" "Z" (.int (1 : Int32))) (OH : Sta Z Z.heap "java/lang/StringUTF16" "HI_BYTE_SHIFT" "I" (.int (0 : Int32))) (OL : Sta Z Z.heap "java/lang/StringUTF16" "LO_BYTE_SHIFT" "I" (.int (8 : Int32))) (E_b : Exa Z h0 b "java/lang/StringBuilder") (Fv_b : Fld Z h0 b "java/lang/AbstractStringBuilder" "value" "[B" (.ref v)) (Fc_b : Fld Z h0 b "java/lang/AbstractStringBuilder" "coder" "B" (.int (0 : Int32))) (Fn_b : Fld Z h0 b "java/lang/AbstractStringBuilder" "count" "I" (.int (Int32.ofNat cs.length))) (Fm_b : Fld Z h0 b "java/lang/AbstractStringBuilder" "maybeLatin1" "Z" (.int (0 : Int32))) (V_v : Arv Z h0 v kv .byte (Int32.ofNat 16) (own_sM 16 cs) (.int (0 : Int32))) (X_v : Exa Z h0 v "[B") (hall : ∀ c ∈ cs, ¬ (255 : Int32) < c) (hok : own_Ok cs) (hM : cs.length ≤ 16 ∧ 16 ≤ 34) (g_b : n0 ≤ b) (g_v : n0 ≤ v) (E_x : Exa Z h0 x "java/lang/String") (Fv_x : Fld Z h0 x "java/lang/String" "value" "[B" (.ref t)) (Fc_x : Fld Z h0 x "java/lang/String" "coder" "B" (.int (0 : Int32))) (V_t : Arv Z h0 t kt .byte (Int32.ofNat ts.length) (own_lat ts) (.int (0 : Int32))) (hts : ∀ c ∈ ts, ¬ (255 : Int32) < c) (hot : own_Ok ts) (hxb : x ≠ b) (htv : t ≠ v) (hgr : cs.length + ts.length ≤ 16) :
    MetFree l (⟨"java/lang/AbstractStringBuilder", "append", "(Ljava/lang/String;)Ljava/lang/AbstractStringBuilder;"⟩ : MethodName) (head1 (Jvm.Cond.code (⟨"java/lang/AbstractStringBuilder", "append", "(Ljava/lang/String;)Ljava/lang/AbstractStringBuilder;"⟩ : MethodName) jdk_68_method_22_code 3 (some (.object "java/lang/AbstractStringBuilder")) :: ws) ⟨3, 0, 0, 47⟩) (fun aA U => aA = #[(.ref b), (.ref x)] ∧ Z.Warmed39 U.vm ∧ U.heap = h0) (fun _ _ _ _ _ => True) (fun _ U oO U' => ∃ rV rL, oO = .returned rV ∧ QSBl Z b v kv (cs ++ ts) h0 n0 rV U'.heap rL ∧ FrameEnd U oO U' rL 0 0) := by
  refine MetFree.of_bodySF (plainFor_of_name pn_2) hisR ?_
  intro p e s m args below meth cC s₁ Bd hml0 hP hK
  obtain ⟨rfl, hZ, hh⟩ := hP
  have hx := Bd.exec
  have hby := Bd.bytes
  have hml : cC.maxLocals = 3 := hml0
  have hown : s.vm.findClass "java/lang/AbstractStringBuilder" = some m.cls := findClass_of_methodNamed Bd.named
  have hnm := (name_of_methodNamed Bd.named Bd.method).1
  have hrt := Bd.returns
  have hlk : meth.locks = false := Bd.notSynchronized
  have X0 : Stand p l e ⟨3, 0, 0, 47⟩ s m #[(.ref b), (.ref x)] below meth cC s₁ [] 0 0 := Stand.of_body Bd
  have e0 : s₁.heap = h0 := by rw [← hh, Bd.state]; rfl
  have N0 := Fr.nil n0
  have Z0 : n0 ≤ h0.size := O0.1 ▸ O0.2.1
  show own_Go p e below (s₁.setTop (entryFrame m #[(.ref b), (.ref x)] 3)) (fun oO U' => ∃ rV rL, oO = .returned rV ∧ QSBl Z b v kv (cs ++ ts) h0 n0 rV U'.heap rL ∧ FrameEnd s oO U' rL 0 0)
  refine own_go (fun _ k => castTop (ef_rm_apl m b x) k) ?_
  have hlen : cs.length ≤ 4000 := hok.2
  obtain ⟨hcM, hM34⟩ := hM
  have hbv := Exa.neArv E_b V_v (tw hw 42 rfl)
  have hlt4 : ts.length ≤ 4000 := hot.2
  have hxv := Exa.neArv E_x V_v (tw hw 2 rfl)
  have hbt := Exa.neArv E_b V_t (tw hw 42 rfl)
  refine og (fun _ k => XS.aloadN X0.here hx rfl (hb hby d68_22_0) rfl rfl k) ?_
  refine og (fun _ k => XS.ifnonnullYes X0.here hx rfl (pc0 := 1) (pc' := 9) rfl (hb hby d68_22_1) rfl (by decide) (by decide) k) ?_
  refine og (fun _ k => XS.aloadN X0.here hx rfl (hb hby d68_22_9) rfl rfl k) ?_
  obtain ⟨cq215, kq215, q215a, q215b, q215c⟩ := isOf hZ e0 E_x
  obtain ⟨v215, _, ⟨T215, L215, k215, n215⟩, -, X215, ⟨Lc215, hQ215, l215, y215, z215⟩, st215⟩ := X0.virtualBack hx (y := (⟨"java/lang/String", "length", "()I"⟩ : MethodName)) (z := (⟨"java/lang/String", "length", "()I"⟩ : MethodName)) hown (mvT hZ (tw hw 70 rfl)) (mvT hZ (tw hw 71 rfl)) (notFace_of_selects (args := #[]) (mvT hZ (tw hw 73 rfl))) (mvT hZ (tw hw 73 rfl)) (mvT hZ (tw hw 72 rfl)) (by decide) (StrChars.Road.lenW (W := 0) hZ (own_wLen hw) (kI := 4) (tw hw 2 rfl) E_x Fv_x Fc_x V_t (Or.inl ⟨rfl, rfl, rfl, hts⟩) (hot.1) (O2.ext O0.2) P5 hot.2 (by decide) (by decide)) q215a q215c (g := (mkF m 10 #[.val (.ref b), .val (.ref x), .unset] [(.ref x)])) rfl (by rw [hml]; rfl) (Steps.refl _) (argsL := []) (rest := []) (lenOf pd_9 rfl) rfl (by show 2 * 0 + _ ≤ _; exact Nat.le_of_eq rfl) (hb hby d68_22_10) (fun _ _ => ⟨rfl, e0, (by decide : 0 + 0 ≤ _), (by decide : 0 + 0 ≤ _)⟩)
  dsimp only [Pt.U, Pt.locs, Pt.cells, Pt.slots] at X215 l215 y215 z215 st215 hQ215
  subst l215 y215 z215
  refine own_gos st215 ?_
  obtain ⟨rfl, rfl, e215⟩ := hQ215
  have Nq215 : Fr n0 ([] : List Loc) := Fr.nil n0
  have N215 := Fr.app N0 Nq215
  try dsimp only [mkF]
  refine og (fun _ k => XS.istoreN X215.here hx rfl (hb hby d68_22_13) rfl (l' := #[.val (.ref b), .val (.ref x), .val (.int (Int32.ofNat ts.length))]) rfl k) ?_
  refine og (fun _ k => XS.aloadN X215.here hx rfl (hb hby d68_22_14) rfl rfl k) ?_
  refine og (fun _ k => XS.aloadN X215.here hx rfl (hb hby d68_22_15) rfl rfl k) ?_
  obtain ⟨T216, X216, e216, st216⟩ := getF X215 hx hZ hown (host := "") (Or.inl (tw hw 80 rfl)) Via.refl e215 Fn_b (g := (mkF m 16 #[.val (.ref b), .val (.ref x), .val (.int (Int32.ofNat ts.length))] [(.ref b), (.ref b)])) rfl rfl (hb hby d68_22_16)
  refine own_go st216 ?_
  refine og (fun _ k => XS.iloadN X216.here hx rfl (hb hby d68_22_19) rfl k) ?_
  try dsimp only [mkF]
  refine og (fun _ k => XS.iadd X216.here hx rfl (hb hby d68_22_20) rfl k) ?_
  show own_Go p e below (T216.setTop (mkF m 21 #[.val (.ref b), .val (.ref x), .val (.int (Int32.ofNat ts.length))] [(.int ((Int32.ofNat cs.length) + (Int32.ofNat ts.length))), (.ref b)])) _
  rw [own_ofadd]
  obtain ⟨cq217, q217, q217'⟩ := E_b.cell
  obtain ⟨v217, _, ⟨T217, L217, k217, n217⟩, -, X217, ⟨Lc217, hQ217, l217, y217, z217⟩, st217⟩ := X216.privateBack hx (y := (⟨"java/lang/AbstractStringBuilder", "ensureCapacityInternal", "(I)V"⟩ : MethodName)) hown (mvT hZ (tw hw 82 rfl)) (mvT hZ (tw hw 83 rfl)) (own_selQ hZ (tw hw 85 rfl) (tw hw 84 rfl) (tw hw 83 rfl) (by decide)) (Cond.privateMethod_at (mvP hZ (tw hw 84 rfl) (args := #[]))) (mvT hZ (tw hw 86 rfl)) (by decide) (backOf (W := 0) (rm_enn l Z a0 hw [] b v kv cs (cs.length + ts.length) G1 G3 h0 n0 O0 O2 P5 O4 rG3 OA OH OL E_b Fv_b Fc_b Fn_b Fm_b V_v X_v hall hok ⟨hcM, hM34⟩ g_b g_v hgr) hZ (tw hw 86 rfl) (tw hw 51 rfl) (by decide) (by decide)) (g := (mkF m 21 #[.val (.ref b), .val (.ref x), .val (.int (Int32.ofNat ts.length))] [(.int (Int32.ofNat (cs.length + ts.length))), (.ref b)])) rfl (by rw [hml]; rfl) (Steps.refl _) (a := b) (by rw [e216]; exact q217) q217' (argsL := [(.int (Int32.ofNat (cs.length + ts.length)))]) (rest := []) (lenOf pd_8 rfl) rfl (by show 2 * 0 + _ ≤ _; exact Nat.le_of_eq rfl) (hb hby d68_22_21) (fun _ _ => ⟨rfl, e216, (by decide : 0 + 0 ≤ _), (by decide : 0 + 0 ≤ _)⟩)
  dsimp only [Pt.U, Pt.locs, Pt.cells, Pt.slots] at X217 l217 y217 z217 st217 hQ217
  subst l217 y217 z217
  refine own_gos st217 ?_
  obtain ⟨rfl, Nq217, e217⟩ := hQ217
  have N217 := Fr.app N215 Nq217
  refine og (fun _ k => XS.aloadN X217.here hx rfl (hb hby d68_22_24) rfl rfl k) ?_
  refine og (fun _ k => XS.aloadN X217.here hx rfl (hb hby d68_22_25) rfl rfl k) ?_
  try dsimp only [mkF]
  obtain ⟨T218, X218, e218, st218⟩ := getF X217 hx hZ hown (host := "") (Or.inl (tw hw 80 rfl)) Via.refl e217 Fn_b (g := (mkF m 26 #[.val (.ref b), .val (.ref x), .val (.int (Int32.ofNat ts.length))] [(.ref b), (.ref b)])) rfl rfl (hb hby d68_22_26)
  refine own_go st218 ?_
  refine og (fun _ k => XS.aloadN X218.here hx rfl (hb hby d68_22_29) rfl rfl k) ?_
  obtain ⟨cq219, q219, q219'⟩ := E_b.cell
  obtain ⟨v219, _, ⟨T219, L219, k219, n219⟩, -, X219, ⟨Lc219, hQ219, l219, y219, z219⟩, st219⟩ := X218.privateBack hx (y := (⟨"java/lang/AbstractStringBuilder", "putStringAt", "(ILjava/lang/String;)V"⟩ : MethodName)) hown (mvT hZ (tw hw 87 rfl)) (mvT hZ (tw hw 88 rfl)) (own_selQ hZ (tw hw 90 rfl) (tw hw 89 rfl) (tw hw 88 rfl) (by decide)) (Cond.privateMethod_at (mvP hZ (tw hw 89 rfl) (args := #[]))) (mvT hZ (tw hw 91 rfl)) (by decide) (backOf (W := 0) (rm_psL l Z a0 hw [] b v kv 16 cs x t kt ts G1 G3 h0 n0 O0 O2 P5 O4 rG3 OA OH OL E_b Fv_b Fc_b Fn_b Fm_b V_v X_v hall hok ⟨hcM, hM34⟩ g_b g_v E_x Fv_x Fc_x V_t hts hot hxb htv hgr) hZ (tw hw 91 rfl) (tw hw 51 rfl) (by decide) (by decide)) (g := (mkF m 30 #[.val (.ref b), .val (.ref x), .val (.int (Int32.ofNat ts.length))] [(.ref x), (.int (Int32.ofNat cs.length)), (.ref b)])) rfl (by rw [hml]; rfl) (Steps.refl _) (a := b) (by rw [e218]; exact q219) q219' (argsL := [(.int (Int32.ofNat cs.length)), (.ref x)]) (rest := []) (lenOf pd_22 rfl) rfl (by show 2 * 0 + _ ≤ _; exact Nat.le_of_eq rfl) (hb hby d68_22_30) (fun _ _ => ⟨rfl, e218, (by decide : 0 + 0 ≤ _), (by decide : 0 + 0 ≤ _)⟩)
  dsimp only [Pt.U, Pt.locs, Pt.cells, Pt.slots] at X219 l219 y219 z219 st219 hQ219
  subst l219 y219 z219
  refine own_gos st219 ?_
  obtain ⟨rfl, Nq219, K219, Vv219⟩ := hQ219
  have N219 := Fr.app N217 Nq219
  refine og (fun _ k => XS.aloadN X219.here hx rfl (hb hby d68_22_33) rfl rfl k) ?_
  refine og (fun _ k => XS.dup X219.here hx rfl (hb hby d68_22_34) rfl rfl k) ?_
  try dsimp only [mkF]
  have f220 := (Fn_b.keep K219 (ninS hbv nin0))
  obtain ⟨T221, X221, e221, st221⟩ := getF X219 hx hZ hown (host := "") (Or.inl (tw hw 80 rfl)) Via.refl (rfl : T219.heap = T219.heap) f220 (g := (mkF m 35 #[.val (.ref b), .val (.ref x), .val (.int (Int32.ofNat ts.length))] [(.ref b), (.ref b)])) rfl rfl (hb hby d68_22_35)
  refine own_go st221 ?_
  refine og (fun _ k => XS.iloadN X221.here hx rfl (hb hby d68_22_38) rfl k) ?_
  refine og (fun _ k => XS.iadd X221.here hx rfl (hb hby d68_22_39) rfl k) ?_
  obtain ⟨T222, h222, X222, e222, W222, st222⟩ := putF X221 hx hZ hown (host := "") (Or.inl (tw hw 80 rfl)) Via.refl e221 f220 (E_b.keep K219) (Or.inl (tw hw 81 rfl)) (tw hw 42 rfl) (ty := .int) (by decide) rfl rfl (g := (mkF m 40 #[.val (.ref b), .val (.ref x), .val (.int (Int32.ofNat ts.length))] [(.int ((Int32.ofNat cs.length) + (Int32.ofNat ts.length))), (.ref b)])) rfl rfl (hb hby d68_22_40)
  refine own_go st222 ?_
  have N222 := Fr.snoc X222 N219 g_b
  have Fw222 := f220.same W222
  refine og (fun _ k => XS.aloadN X222.here hx rfl (hb hby d68_22_43) rfl rfl k) ?_
  try dsimp only [mkF]
  have f223 := (((Keep.refl h0 [b, v]).trans K219 (allS (Or.inl (List.mem_of_getElem? (i := 1) rfl)) all0)).wr W222 (Or.inl (List.mem_of_getElem? (i := 0) rfl)))
  have f224 := ((Fv_b.keep K219 (ninS hbv nin0)).other W222 (Or.inr (slot_ne (Or.inl (tw hw 56 rfl)) (Or.inl (tw hw 81 rfl)) (by decide) (t := (.array .byte)) (t' := .int) (by decide) (by decide))))
  have f225 := ((Fc_b.keep K219 (ninS hbv nin0)).other W222 (Or.inr (slot_ne (Or.inl (tw hw 58 rfl)) (Or.inl (tw hw 81 rfl)) (by decide) (t := .byte) (t' := .int) (by decide) (by decide))))
  have f226 := ((Fm_b.keep K219 (ninS hbv nin0)).other W222 (Or.inr (slot_ne (Or.inl (tw hw 289 rfl)) (Or.inl (tw hw 81 rfl)) (by decide) (t := .boolean) (t' := .int) (by decide) (by decide))))
  have f227 := (Vv219.other W222 (Ne.symm hbv))
  refine own_fin (v := (some (.ref b))) X222 (fun h => by rw [hrt] at h; cases h) hlk (fun fs hr => retR X222 hx hrt (by rfl) rfl rfl (hb hby d68_22_44) hr) (QQ := QSBl Z b v kv (cs ++ ts) h0 n0) ?_ (by decide) (by decide)
  rw [e222]
  exact ⟨rfl, N222, f223, f224, f225, (own_lenA cs ts ▸ Fw222), f226, f227⟩

abbrev k67_7 := jdk_67_method_7_code
theorem d67_7_0 : Dk k67_7 0 (.aload_n 0) 1 := own_k
theorem d67_7_1 : Dk k67_7 1 (.aload_n 1) 1 := own_k
theorem d67_7_2 : Dk k67_7 2 (.invokespecial 29) 3 := own_k
theorem pd_23 : parseMethodDescriptor "(Ljava/lang/String;)Ljava/lang/AbstractStringBuilder;" = some ⟨[(.object "java/lang/String")], some (.object "java/lang/AbstractStringBuilder")⟩ := by decide +kernel
theorem d67_7_5 : Dk k67_7 5 .pop 1 := own_k
theorem d67_7_6 : Dk k67_7 6 (.aload_n 0) 1 := own_k
theorem d67_7_7 : Dk k67_7 7 .areturn 1 := own_k
theorem ef_rm_apL (m : MethodId) (x0 : Addr) (x1 : Addr) : entryFrame m #[(.ref x0), (.ref x1)] 2 = mkF m 0 #[.val (.ref x0), .val (.ref x1)] [] := by
   first | (simp [entryFrame, mkF, argsToLocals, Value.category]; done) | rfl
set_option maxRecDepth 65536 in
set_option maxHeartbeats 40000000 in
theorem rm_apL (l : Launch) (Z : State) (a0 : Array Value) (hw : ∀ d ∈ tables_1, d.before a0 Z = true) (ws : List Jvm.Cond) (b v : Addr) (kv : ClassId) (cs : List Int32) (x t : Addr) (kt : ClassId) (ts : List Int32) (G1 : Int32) (G3 : Value) (h0 : Heap) (n0 : Nat) (O0 : Old Z n0 h0) (O2 : Sta Z Z.heap "java/lang/String" "COMPACT_STRINGS" "Z" (.int G1)) (P5 : ¬ (G1 = (0 : Int32))) (O4 : Sta Z Z.heap "jdk/internal/util/Preconditions" "SIOOBE_FORMATTER" "Ljava/util/function/BiFunction;" G3) (rG3 : G3.isRef = true) (OA : Sta Z Z.heap "java/lang/StringUTF16" "$assertionsDisabled" "Z" (.int (1 : Int32))) (OH : Sta Z Z.heap "java/lang/StringUTF16" "HI_BYTE_SHIFT" "I" (.int (0 : Int32))) (OL : Sta Z Z.heap "java/lang/StringUTF16" "LO_BYTE_SHIFT" "I" (.int (8 : Int32))) (E_b : Exa Z h0 b "java/lang/StringBuilder") (Fv_b : Fld Z h0 b "java/lang/AbstractStringBuilder" "value" "[B" (.ref v)) (Fc_b : Fld Z h0 b "java/lang/AbstractStringBuilder" "coder" "B" (.int (0 : Int32))) (Fn_b : Fld Z h0 b "java/lang/AbstractStringBuilder" "count" "I" (.int (Int32.ofNat cs.length))) (Fm_b : Fld Z h0 b "java/lang/AbstractStringBuilder" "maybeLatin1" "Z" (.int (0 : Int32))) (V_v : Arv Z h0 v kv .byte (Int32.ofNat 16) (own_sM 16 cs) (.int (0 : Int32))) (X_v : Exa Z h0 v "[B") (hall : ∀ c ∈ cs, ¬ (255 : Int32) < c) (hok : own_Ok cs) (hM : cs.length ≤ 16 ∧ 16 ≤ 34) (g_b : n0 ≤ b) (g_v : n0 ≤ v) (E_x : Exa Z h0 x "java/lang/String") (Fv_x : Fld Z h0 x "java/lang/String" "value" "[B" (.ref t)) (Fc_x : Fld Z h0 x "java/lang/String" "coder" "B" (.int (0 : Int32))) (V_t : Arv Z h0 t kt .byte (Int32.ofNat ts.length) (own_lat ts) (.int (0 : Int32))) (hts : ∀ c ∈ ts, ¬ (255 : Int32) < c) (hot : own_Ok ts) (hxb : x ≠ b) (htv : t ≠ v) (hgr : cs.length + ts.length ≤ 16) :
    MetFree l (⟨"java/lang/StringBuilder", "append", "(Ljava/lang/String;)Ljava/lang/StringBuilder;"⟩ : MethodName) (head1 (Jvm.Cond.code (⟨"java/lang/StringBuilder", "append", "(Ljava/lang/String;)Ljava/lang/StringBuilder;"⟩ : MethodName) jdk_67_method_7_code 2 (some (.object "java/lang/StringBuilder")) :: ws) ⟨4, 0, 0, 61⟩) (fun aA U => aA = #[(.ref b), (.ref x)] ∧ Z.Warmed39 U.vm ∧ U.heap = h0) (fun _ _ _ _ _ => True) (fun _ U oO U' => ∃ rV rL, oO = .returned rV ∧ QSBl Z b v kv (cs ++ ts) h0 n0 rV U'.heap rL ∧ FrameEnd U oO U' rL 0 0) := by
  refine MetFree.of_bodySF (plainFor_of_name pn_3) hisR ?_
  intro p e s m args below meth cC s₁ Bd hml0 hP hK
  obtain ⟨rfl, hZ, hh⟩ := hP
  have hx := Bd.exec
  have hby := Bd.bytes
  have hml : cC.maxLocals = 2 := hml0
  have hown : s.vm.findClass "java/lang/StringBuilder" = some m.cls := findClass_of_methodNamed Bd.named
  have hnm := (name_of_methodNamed Bd.named Bd.method).1
  have hrt := Bd.returns
  have hlk : meth.locks = false := Bd.notSynchronized
  have X0 : Stand p l e ⟨4, 0, 0, 61⟩ s m #[(.ref b), (.ref x)] below meth cC s₁ [] 0 0 := Stand.of_body Bd
  have e0 : s₁.heap = h0 := by rw [← hh, Bd.state]; rfl
  have N0 := Fr.nil n0
  have Z0 : n0 ≤ h0.size := O0.1 ▸ O0.2.1
  show own_Go p e below (s₁.setTop (entryFrame m #[(.ref b), (.ref x)] 2)) (fun oO U' => ∃ rV rL, oO = .returned rV ∧ QSBl Z b v kv (cs ++ ts) h0 n0 rV U'.heap rL ∧ FrameEnd s oO U' rL 0 0)
  refine own_go (fun _ k => castTop (ef_rm_apL m b x) k) ?_
  have hlen : cs.length ≤ 4000 := hok.2
  obtain ⟨hcM, hM34⟩ := hM
  have hbv := Exa.neArv E_b V_v (tw hw 42 rfl)
  have hlt4 : ts.length ≤ 4000 := hot.2
  have hxv := Exa.neArv E_x V_v (tw hw 2 rfl)
  have hbt := Exa.neArv E_b V_t (tw hw 42 rfl)
  refine og (fun _ k => XS.aloadN X0.here hx rfl (hb hby d67_7_0) rfl rfl k) ?_
  refine og (fun _ k => XS.aloadN X0.here hx rfl (hb hby d67_7_1) rfl rfl k) ?_
  obtain ⟨v228, _, ⟨T228, L228, k228, n228⟩, -, X228, ⟨Lc228, hQ228, l228, y228, z228⟩, st228⟩ := superBack X0 hx hZ (y := (⟨"java/lang/AbstractStringBuilder", "append", "(Ljava/lang/String;)Ljava/lang/AbstractStringBuilder;"⟩ : MethodName)) hown (tw hw 65 rfl) (own_same (tw hw 66 rfl) (tw hw 85 rfl) rfl (by decide)) (tw hw 66 rfl) (tw hw 67 rfl) (by decide) (backOf (W := 0) (rm_apl l Z a0 hw [] b v kv cs x t kt ts G1 G3 h0 n0 O0 O2 P5 O4 rG3 OA OH OL E_b Fv_b Fc_b Fn_b Fm_b V_v X_v hall hok ⟨hcM, hM34⟩ g_b g_v E_x Fv_x Fc_x V_t hts hot hxb htv hgr) hZ (tw hw 69 rfl) (tw hw 51 rfl) (by decide) (by decide)) e0 (Ins.self E_b) (g := (mkF m 2 #[.val (.ref b), .val (.ref x)] [(.ref x), (.ref b)])) rfl (by rw [hml]; rfl) (tw hw 69 rfl) (argsL := [(.ref x)]) (rest := []) (lenOf pd_23 rfl) rfl (by show 2 * 0 + _ ≤ _; exact Nat.le_of_eq rfl) (hb hby d67_7_2) (fun _ _ => ⟨rfl, e0, (by decide : 0 + 0 ≤ _), (by decide : 0 + 0 ≤ _)⟩)
  dsimp only [Pt.U, Pt.locs, Pt.cells, Pt.slots] at X228 l228 y228 z228 st228 hQ228
  subst l228 y228 z228
  refine own_gos st228 ?_
  obtain ⟨rfl, Nq228, K228, Fv228, Fc228, Fn228, Fm228, Vv228⟩ := hQ228
  have N228 := Fr.app N0 Nq228
  refine og (fun _ k => XS.pop X228.here hx rfl (hb hby d67_7_5) rfl rfl k) ?_
  try dsimp only [mkF]
  refine og (fun _ k => XS.aloadN X228.here hx rfl (hb hby d67_7_6) rfl rfl k) ?_
  have f229 := ((Keep.refl h0 [b, v]).trans K228 (allS (Or.inl (List.mem_of_getElem? (i := 0) rfl)) (allS (Or.inl (List.mem_of_getElem? (i := 1) rfl)) all0)))
  refine own_fin (v := (some (.ref b))) X228 (fun h => by rw [hrt] at h; cases h) hlk (fun fs hr => retR X228 hx hrt (by rfl) rfl rfl (hb hby d67_7_7) hr) (QQ := QSBl Z b v kv (cs ++ ts) h0 n0) ?_ (by decide) (by decide)
  exact ⟨rfl, N228, f229, Fv228, Fc228, Fn228, Fm228, Vv228⟩

theorem ef_rm_aps (m : MethodId) (x0 : Addr) (x1 : Addr) : entryFrame m #[(.ref x0), (.ref x1)] 3 = mkF m 0 #[.val (.ref x0), .val (.ref x1), .unset] [] := by
   first | (simp [entryFrame, mkF, argsToLocals, Value.category]; done) | rfl
set_option maxRecDepth 65536 in
set_option maxHeartbeats 40000000 in
theorem rm_aps (l : Launch) (Z : State) (a0 : Array Value) (hw : ∀ d ∈ tables_1, d.before a0 Z = true) (ws : List Jvm.Cond) (b v : Addr) (kv : ClassId) (cs : List Int32) (x t : Addr) (kt : ClassId) (ts : List Int32) (cx Nx : Int32) (vx : List Value) (G1 : Int32) (G3 : Value) (h0 : Heap) (n0 : Nat) (O0 : Old Z n0 h0) (O2 : Sta Z Z.heap "java/lang/String" "COMPACT_STRINGS" "Z" (.int G1)) (P5 : ¬ (G1 = (0 : Int32))) (O4 : Sta Z Z.heap "jdk/internal/util/Preconditions" "SIOOBE_FORMATTER" "Ljava/util/function/BiFunction;" G3) (rG3 : G3.isRef = true) (OA : Sta Z Z.heap "java/lang/StringUTF16" "$assertionsDisabled" "Z" (.int (1 : Int32))) (OH : Sta Z Z.heap "java/lang/StringUTF16" "HI_BYTE_SHIFT" "I" (.int (0 : Int32))) (OL : Sta Z Z.heap "java/lang/StringUTF16" "LO_BYTE_SHIFT" "I" (.int (8 : Int32))) (E_b : Exa Z h0 b "java/lang/StringBuilder") (Fv_b : Fld Z h0 b "java/lang/AbstractStringBuilder" "value" "[B" (.ref v)) (Fc_b : Fld Z h0 b "java/lang/AbstractStringBuilder" "coder" "B" (.int (0 : Int32))) (Fn_b : Fld Z h0 b "java/lang/AbstractStringBuilder" "count" "I" (.int (Int32.ofNat cs.length))) (Fm_b : Fld Z h0 b "java/lang/AbstractStringBuilder" "maybeLatin1" "Z" (.int (0 : Int32))) (V_v : Arv Z h0 v kv .byte (Int32.ofNat 16) (own_sM 16 cs) (.int (0 : Int32))) (X_v : Exa Z h0 v "[B") (hall : ∀ c ∈ cs, ¬ (255 : Int32) < c) (hok : own_Ok cs) (hM : cs.length ≤ 16 ∧ 16 ≤ 34) (g_b : n0 ≤ b) (g_v : n0 ≤ v) (E_x : Exa Z h0 x "java/lang/String") (Fv_x : Fld Z h0 x "java/lang/String" "value" "[B" (.ref t)) (Fc_x : Fld Z h0 x "java/lang/String" "coder" "B" (.int cx)) (V_t : Arv Z h0 t kt .byte Nx vx (.int (0 : Int32))) (hCx : StrChars.Road.CodA ts cx Nx vx) (hot : own_Ok ts) (hxb : x ≠ b) (htv : t ≠ v) (hs : cs.length + ts.length ≤ 34) :
    MetFree l (⟨"java/lang/AbstractStringBuilder", "append", "(Ljava/lang/String;)Ljava/lang/AbstractStringBuilder;"⟩ : MethodName) (head1 (Jvm.Cond.code (⟨"java/lang/AbstractStringBuilder", "append", "(Ljava/lang/String;)Ljava/lang/AbstractStringBuilder;"⟩ : MethodName) jdk_68_method_22_code 3 (some (.object "java/lang/AbstractStringBuilder")) :: ws) ⟨8, 2, 102, 116⟩) (fun aA U => aA = #[(.ref b), (.ref x)] ∧ Z.Warmed39 U.vm ∧ U.heap = h0) (fun _ _ _ _ _ => True) (fun _ U oO U' => ∃ rV rL, oO = .returned rV ∧ QSBg Z b v (cs ++ ts) h0 n0 rV U'.heap rL ∧ FrameEnd U oO U' rL 2 102) := by
  refine MetFree.of_bodySF (plainFor_of_name pn_2) hisR ?_
  intro p e s m args below meth cC s₁ Bd hml0 hP hK
  obtain ⟨rfl, hZ, hh⟩ := hP
  have hx := Bd.exec
  have hby := Bd.bytes
  have hml : cC.maxLocals = 3 := hml0
  have hown : s.vm.findClass "java/lang/AbstractStringBuilder" = some m.cls := findClass_of_methodNamed Bd.named
  have hnm := (name_of_methodNamed Bd.named Bd.method).1
  have hrt := Bd.returns
  have hlk : meth.locks = false := Bd.notSynchronized
  have X0 : Stand p l e ⟨8, 2, 102, 116⟩ s m #[(.ref b), (.ref x)] below meth cC s₁ [] 0 0 := Stand.of_body Bd
  have e0 : s₁.heap = h0 := by rw [← hh, Bd.state]; rfl
  have N0 := Fr.nil n0
  have Z0 : n0 ≤ h0.size := O0.1 ▸ O0.2.1
  show own_Go p e below (s₁.setTop (entryFrame m #[(.ref b), (.ref x)] 3)) (fun oO U' => ∃ rV rL, oO = .returned rV ∧ QSBg Z b v (cs ++ ts) h0 n0 rV U'.heap rL ∧ FrameEnd s oO U' rL 2 102)
  refine own_go (fun _ k => castTop (ef_rm_aps m b x) k) ?_
  have hlen : cs.length ≤ 4000 := hok.2
  obtain ⟨hcM, hM34⟩ := hM
  have hbv := Exa.neArv E_b V_v (tw hw 42 rfl)
  have hxv := Exa.neArv E_x V_v (tw hw 2 rfl)
  have hbt := Exa.neArv E_b V_t (tw hw 42 rfl)
  have hlt4 : ts.length ≤ 4000 := hot.2
  rcases id hCx with ⟨c1, c2, c3, hts⟩ | ⟨c1, c2, c3, hex⟩
  · subst c1 c2 c3
    refine og (fun _ k => XS.aloadN X0.here hx rfl (hb hby d68_22_0) rfl rfl k) ?_
    refine og (fun _ k => XS.ifnonnullYes X0.here hx rfl (pc0 := 1) (pc' := 9) rfl (hb hby d68_22_1) rfl (by decide) (by decide) k) ?_
    refine og (fun _ k => XS.aloadN X0.here hx rfl (hb hby d68_22_9) rfl rfl k) ?_
    try dsimp only [mkF]
    obtain ⟨cq230, kq230, q230a, q230b, q230c⟩ := isOf hZ e0 E_x
    obtain ⟨v230, _, ⟨T230, L230, k230, n230⟩, -, X230, ⟨Lc230, hQ230, l230, y230, z230⟩, st230⟩ := X0.virtualBack hx (y := (⟨"java/lang/String", "length", "()I"⟩ : MethodName)) (z := (⟨"java/lang/String", "length", "()I"⟩ : MethodName)) hown (mvT hZ (tw hw 70 rfl)) (mvT hZ (tw hw 71 rfl)) (notFace_of_selects (args := #[]) (mvT hZ (tw hw 73 rfl))) (mvT hZ (tw hw 73 rfl)) (mvT hZ (tw hw 72 rfl)) (by decide) (StrChars.Road.lenW (W := 0) hZ (own_wLen hw) (kI := 4) (tw hw 2 rfl) E_x Fv_x Fc_x V_t hCx (hot.1) (O2.ext O0.2) P5 hot.2 (by decide) (by decide)) q230a q230c (g := (mkF m 10 #[.val (.ref b), .val (.ref x), .unset] [(.ref x)])) rfl (by rw [hml]; rfl) (Steps.refl _) (argsL := []) (rest := []) (lenOf pd_9 rfl) rfl (by show 2 * 0 + _ ≤ _; exact Nat.le_of_eq rfl) (hb hby d68_22_10) (fun _ _ => ⟨rfl, e0, (by decide : 0 + 0 ≤ _), (by decide : 0 + 0 ≤ _)⟩)
    dsimp only [Pt.U, Pt.locs, Pt.cells, Pt.slots] at X230 l230 y230 z230 st230 hQ230
    subst l230 y230 z230
    refine own_gos st230 ?_
    obtain ⟨rfl, rfl, e230⟩ := hQ230
    have Nq230 : Fr n0 ([] : List Loc) := Fr.nil n0
    have N230 := Fr.app N0 Nq230
    refine og (fun _ k => XS.istoreN X230.here hx rfl (hb hby d68_22_13) rfl (l' := #[.val (.ref b), .val (.ref x), .val (.int (Int32.ofNat ts.length))]) rfl k) ?_
    refine og (fun _ k => XS.aloadN X230.here hx rfl (hb hby d68_22_14) rfl rfl k) ?_
    refine og (fun _ k => XS.aloadN X230.here hx rfl (hb hby d68_22_15) rfl rfl k) ?_
    obtain ⟨T231, X231, e231, st231⟩ := getF X230 hx hZ hown (host := "") (Or.inl (tw hw 80 rfl)) Via.refl e230 Fn_b (g := (mkF m 16 #[.val (.ref b), .val (.ref x), .val (.int (Int32.ofNat ts.length))] [(.ref b), (.ref b)])) rfl rfl (hb hby d68_22_16)
    refine own_go st231 ?_
    try dsimp only [mkF]
    refine og (fun _ k => XS.iloadN X231.here hx rfl (hb hby d68_22_19) rfl k) ?_
    refine og (fun _ k => XS.iadd X231.here hx rfl (hb hby d68_22_20) rfl k) ?_
    show own_Go p e below (T231.setTop (mkF m 21 #[.val (.ref b), .val (.ref x), .val (.int (Int32.ofNat ts.length))] [(.int ((Int32.ofNat cs.length) + (Int32.ofNat ts.length))), (.ref b)])) _
    rw [own_ofadd]
    by_cases hgr : cs.length + ts.length ≤ 16
    · skip
      obtain ⟨cq232, q232, q232'⟩ := E_b.cell
      obtain ⟨v232, _, ⟨T232, L232, k232, n232⟩, -, X232, ⟨Lc232, hQ232, l232, y232, z232⟩, st232⟩ := X231.privateBack hx (y := (⟨"java/lang/AbstractStringBuilder", "ensureCapacityInternal", "(I)V"⟩ : MethodName)) hown (mvT hZ (tw hw 82 rfl)) (mvT hZ (tw hw 83 rfl)) (own_selQ hZ (tw hw 85 rfl) (tw hw 84 rfl) (tw hw 83 rfl) (by decide)) (Cond.privateMethod_at (mvP hZ (tw hw 84 rfl) (args := #[]))) (mvT hZ (tw hw 86 rfl)) (by decide) (backOf (W := 0) (rm_enn l Z a0 hw [] b v kv cs (cs.length + ts.length) G1 G3 h0 n0 O0 O2 P5 O4 rG3 OA OH OL E_b Fv_b Fc_b Fn_b Fm_b V_v X_v hall hok ⟨hcM, hM34⟩ g_b g_v hgr) hZ (tw hw 86 rfl) (tw hw 51 rfl) (by decide) (by decide)) (g := (mkF m 21 #[.val (.ref b), .val (.ref x), .val (.int (Int32.ofNat ts.length))] [(.int (Int32.ofNat (cs.length + ts.length))), (.ref b)])) rfl (by rw [hml]; rfl) (Steps.refl _) (a := b) (by rw [e231]; exact q232) q232' (argsL := [(.int (Int32.ofNat (cs.length + ts.length)))]) (rest := []) (lenOf pd_8 rfl) rfl (by show 2 * 0 + _ ≤ _; exact Nat.le_of_eq rfl) (hb hby d68_22_21) (fun _ _ => ⟨rfl, e231, (by decide : 0 + 0 ≤ _), (by decide : 0 + 0 ≤ _)⟩)
      dsimp only [Pt.U, Pt.locs, Pt.cells, Pt.slots] at X232 l232 y232 z232 st232 hQ232
      subst l232 y232 z232
      refine own_gos st232 ?_
      obtain ⟨rfl, Nq232, e232⟩ := hQ232
      have N232 := Fr.app N230 Nq232
      try dsimp only [mkF]
      refine og (fun _ k => XS.aloadN X232.here hx rfl (hb hby d68_22_24) rfl rfl k) ?_
      refine og (fun _ k => XS.aloadN X232.here hx rfl (hb hby d68_22_25) rfl rfl k) ?_
      obtain ⟨T233, X233, e233, st233⟩ := getF X232 hx hZ hown (host := "") (Or.inl (tw hw 80 rfl)) Via.refl e232 Fn_b (g := (mkF m 26 #[.val (.ref b), .val (.ref x), .val (.int (Int32.ofNat ts.length))] [(.ref b), (.ref b)])) rfl rfl (hb hby d68_22_26)
      refine own_go st233 ?_
      refine og (fun _ k => XS.aloadN X233.here hx rfl (hb hby d68_22_29) rfl rfl k) ?_
      obtain ⟨cq234, q234, q234'⟩ := E_b.cell
      obtain ⟨v234, _, ⟨T234, L234, k234, n234⟩, -, X234, ⟨Lc234, hQ234, l234, y234, z234⟩, st234⟩ := X233.privateBack hx (y := (⟨"java/lang/AbstractStringBuilder", "putStringAt", "(ILjava/lang/String;)V"⟩ : MethodName)) hown (mvT hZ (tw hw 87 rfl)) (mvT hZ (tw hw 88 rfl)) (own_selQ hZ (tw hw 90 rfl) (tw hw 89 rfl) (tw hw 88 rfl) (by decide)) (Cond.privateMethod_at (mvP hZ (tw hw 89 rfl) (args := #[]))) (mvT hZ (tw hw 91 rfl)) (by decide) (backOf (W := 0) (rm_psL l Z a0 hw [] b v kv 16 cs x t kt ts G1 G3 h0 n0 O0 O2 P5 O4 rG3 OA OH OL E_b Fv_b Fc_b Fn_b Fm_b V_v X_v hall hok ⟨hcM, hM34⟩ g_b g_v E_x Fv_x Fc_x V_t hts hot hxb htv (by omega)) hZ (tw hw 91 rfl) (tw hw 51 rfl) (by decide) (by decide)) (g := (mkF m 30 #[.val (.ref b), .val (.ref x), .val (.int (Int32.ofNat ts.length))] [(.ref x), (.int (Int32.ofNat cs.length)), (.ref b)])) rfl (by rw [hml]; rfl) (Steps.refl _) (a := b) (by rw [e233]; exact q234) q234' (argsL := [(.int (Int32.ofNat cs.length)), (.ref x)]) (rest := []) (lenOf pd_22 rfl) rfl (by show 2 * 0 + _ ≤ _; exact Nat.le_of_eq rfl) (hb hby d68_22_30) (fun _ _ => ⟨rfl, e233, (by decide : 0 + 0 ≤ _), (by decide : 0 + 0 ≤ _)⟩)
      dsimp only [Pt.U, Pt.locs, Pt.cells, Pt.slots] at X234 l234 y234 z234 st234 hQ234
      subst l234 y234 z234
      refine own_gos st234 ?_
      obtain ⟨rfl, Nq234, K234, Vv234⟩ := hQ234
      have N234 := Fr.app N232 Nq234
      try dsimp only [mkF]
      refine og (fun _ k => XS.aloadN X234.here hx rfl (hb hby d68_22_33) rfl rfl k) ?_
      refine og (fun _ k => XS.dup X234.here hx rfl (hb hby d68_22_34) rfl rfl k) ?_
      have f235 := (Fn_b.keep K234 (ninS hbv nin0))
      obtain ⟨T236, X236, e236, st236⟩ := getF X234 hx hZ hown (host := "") (Or.inl (tw hw 80 rfl)) Via.refl (rfl : T234.heap = T234.heap) f235 (g := (mkF m 35 #[.val (.ref b), .val (.ref x), .val (.int (Int32.ofNat ts.length))] [(.ref b), (.ref b)])) rfl rfl (hb hby d68_22_35)
      refine own_go st236 ?_
      refine og (fun _ k => XS.iloadN X236.here hx rfl (hb hby d68_22_38) rfl k) ?_
      refine og (fun _ k => XS.iadd X236.here hx rfl (hb hby d68_22_39) rfl k) ?_
      try dsimp only [mkF]
      obtain ⟨T237, h237, X237, e237, W237, st237⟩ := putF X236 hx hZ hown (host := "") (Or.inl (tw hw 80 rfl)) Via.refl e236 f235 (E_b.keep K234) (Or.inl (tw hw 81 rfl)) (tw hw 42 rfl) (ty := .int) (by decide) rfl rfl (g := (mkF m 40 #[.val (.ref b), .val (.ref x), .val (.int (Int32.ofNat ts.length))] [(.int ((Int32.ofNat cs.length) + (Int32.ofNat ts.length))), (.ref b)])) rfl rfl (hb hby d68_22_40)
      refine own_go st237 ?_
      have N237 := Fr.snoc X237 N234 g_b
      have Fw237 := f235.same W237
      refine og (fun _ k => XS.aloadN X237.here hx rfl (hb hby d68_22_43) rfl rfl k) ?_
      have f238 := (((Keep.refl h0 [b, v]).trans K234 (allS (Or.inl (List.mem_of_getElem? (i := 1) rfl)) all0)).wr W237 (Or.inl (List.mem_of_getElem? (i := 0) rfl)))
      have f239 := ((Fv_b.keep K234 (ninS hbv nin0)).other W237 (Or.inr (slot_ne (Or.inl (tw hw 56 rfl)) (Or.inl (tw hw 81 rfl)) (by decide) (t := (.array .byte)) (t' := .int) (by decide) (by decide))))
      have f240 := ((Fc_b.keep K234 (ninS hbv nin0)).other W237 (Or.inr (slot_ne (Or.inl (tw hw 58 rfl)) (Or.inl (tw hw 81 rfl)) (by decide) (t := .byte) (t' := .int) (by decide) (by decide))))
      have f241 := ((Fm_b.keep K234 (ninS hbv nin0)).other W237 (Or.inr (slot_ne (Or.inl (tw hw 289 rfl)) (Or.inl (tw hw 81 rfl)) (by decide) (t := .boolean) (t' := .int) (by decide) (by decide))))
      have f242 := (Vv234.other W237 (Ne.symm hbv))
      have f243 := ((X_v.keep K234).wr W237)
      refine own_fin (v := (some (.ref b))) X237 (fun h => by rw [hrt] at h; cases h) hlk (fun fs hr => retR X237 hx hrt (by rfl) rfl rfl (hb hby d68_22_44) hr) (QQ := QSBg Z b v (cs ++ ts) h0 n0) ?_ (by decide) (by decide)
      rw [e237]
      exact ⟨v, _, 16, (0 : Int32), rfl, N237, f238, Or.inl rfl, f239, f240, (own_lenA cs ts ▸ Fw237), f241, f242, f243, own_cdi3 hall hts, (by rw [List.length_append]; omega), (by decide)⟩
    · skip
      obtain ⟨cq244, q244, q244'⟩ := E_b.cell
      obtain ⟨v244, _, ⟨T244, L244, k244, n244⟩, -, X244, ⟨Lc244, hQ244, l244, y244, z244⟩, st244⟩ := X231.privateBack hx (y := (⟨"java/lang/AbstractStringBuilder", "ensureCapacityInternal", "(I)V"⟩ : MethodName)) hown (mvT hZ (tw hw 82 rfl)) (mvT hZ (tw hw 83 rfl)) (own_selQ hZ (tw hw 85 rfl) (tw hw 84 rfl) (tw hw 83 rfl) (by decide)) (Cond.privateMethod_at (mvP hZ (tw hw 84 rfl) (args := #[]))) (mvT hZ (tw hw 86 rfl)) (by decide) (backOf (W := 0) (rm_eng l Z a0 hw [] b v kv cs (cs.length + ts.length) G1 G3 h0 n0 O0 O2 P5 O4 rG3 OA OH OL E_b Fv_b Fc_b Fn_b Fm_b V_v X_v hall hok ⟨hcM, hM34⟩ g_b g_v (by omega) (by omega)) hZ (tw hw 86 rfl) (tw hw 51 rfl) (by decide) (by decide)) (g := (mkF m 21 #[.val (.ref b), .val (.ref x), .val (.int (Int32.ofNat ts.length))] [(.int (Int32.ofNat (cs.length + ts.length))), (.ref b)])) rfl (by rw [hml]; rfl) (Steps.refl _) (a := b) (by rw [e231]; exact q244) q244' (argsL := [(.int (Int32.ofNat (cs.length + ts.length)))]) (rest := []) (lenOf pd_8 rfl) rfl (by show 2 * 0 + _ ≤ _; exact Nat.le_of_eq rfl) (hb hby d68_22_21) (fun _ _ => ⟨rfl, e231, (by decide : 0 + 1 ≤ _), (by decide : 0 + 34 ≤ _)⟩)
      dsimp only [Pt.U, Pt.locs, Pt.cells, Pt.slots] at X244 l244 y244 z244 st244 hQ244
      subst l244 y244 z244
      refine own_gos st244 ?_
      obtain ⟨v244, kv244, rfl, Nq244, K244, vg244, Fv244, Fc244, Fn244, Fm244, Vv244, Xv244⟩ := hQ244
      have N244 := Fr.app N230 Nq244
      try dsimp only [mkF]
      refine og (fun _ k => XS.aloadN X244.here hx rfl (hb hby d68_22_24) rfl rfl k) ?_
      refine og (fun _ k => XS.aloadN X244.here hx rfl (hb hby d68_22_25) rfl rfl k) ?_
      obtain ⟨T245, X245, e245, st245⟩ := getF X244 hx hZ hown (host := "") (Or.inl (tw hw 80 rfl)) Via.refl (rfl : T244.heap = T244.heap) Fn244 (g := (mkF m 26 #[.val (.ref b), .val (.ref x), .val (.int (Int32.ofNat ts.length))] [(.ref b), (.ref b)])) rfl rfl (hb hby d68_22_26)
      refine own_go st245 ?_
      refine og (fun _ k => XS.aloadN X245.here hx rfl (hb hby d68_22_29) rfl rfl k) ?_
      have f246 := (Fv_x.keep K244 (ninS hxb nin0))
      have f247 := (Fc_x.keep K244 (ninS hxb nin0))
      have f248 := (V_t.keep K244 (ninS (Ne.symm hbt) nin0))
      have ne249 : t ≠ v244 := Nat.ne_of_lt (Nat.lt_of_lt_of_le V_t.lt vg244)
      have f250 := (O0.keep K244 (allS g_b all0))
      obtain ⟨cq251, q251, q251'⟩ := (E_b.keep K244).cell
      obtain ⟨v251, _, ⟨T251, L251, k251, n251⟩, -, X251, ⟨Lc251, hQ251, l251, y251, z251⟩, st251⟩ := X245.privateBack hx (y := (⟨"java/lang/AbstractStringBuilder", "putStringAt", "(ILjava/lang/String;)V"⟩ : MethodName)) hown (mvT hZ (tw hw 87 rfl)) (mvT hZ (tw hw 88 rfl)) (own_selQ hZ (tw hw 90 rfl) (tw hw 89 rfl) (tw hw 88 rfl) (by decide)) (Cond.privateMethod_at (mvP hZ (tw hw 89 rfl) (args := #[]))) (mvT hZ (tw hw 91 rfl)) (by decide) (backOf (W := 0) (rm_psL l Z a0 hw [] b v244 kv244 34 cs x t kt ts G1 G3 T244.heap n0 f250 O2 P5 O4 rG3 OA OH OL (E_b.keep K244) Fv244 Fc244 Fn244 Fm244 Vv244 Xv244 hall hok ⟨by omega, by decide⟩ g_b (Nat.le_trans Z0 vg244) (E_x.keep K244) f246 f247 f248 hts hot hxb ne249 (by omega)) hZ (tw hw 91 rfl) (tw hw 51 rfl) (by decide) (by decide)) (g := (mkF m 30 #[.val (.ref b), .val (.ref x), .val (.int (Int32.ofNat ts.length))] [(.ref x), (.int (Int32.ofNat cs.length)), (.ref b)])) rfl (by rw [hml]; rfl) (Steps.refl _) (a := b) (by rw [e245]; exact q251) q251' (argsL := [(.int (Int32.ofNat cs.length)), (.ref x)]) (rest := []) (lenOf pd_22 rfl) rfl (by show 2 * 0 + _ ≤ _; exact Nat.le_of_eq rfl) (hb hby d68_22_30) (fun _ _ => ⟨rfl, e245, (by decide : 1 + 0 ≤ _), (by decide : 34 + 0 ≤ _)⟩)
      dsimp only [Pt.U, Pt.locs, Pt.cells, Pt.slots] at X251 l251 y251 z251 st251 hQ251
      subst l251 y251 z251
      refine own_gos st251 ?_
      obtain ⟨rfl, Nq251, K251, Vv251⟩ := hQ251
      have N251 := Fr.app N244 Nq251
      try dsimp only [mkF]
      refine og (fun _ k => XS.aloadN X251.here hx rfl (hb hby d68_22_33) rfl rfl k) ?_
      refine og (fun _ k => XS.dup X251.here hx rfl (hb hby d68_22_34) rfl rfl k) ?_
      have ne252 : b ≠ v244 := Nat.ne_of_lt (Nat.lt_of_lt_of_le E_b.lt vg244)
      have f253 := (Fn244.keep K251 (ninS ne252 nin0))
      obtain ⟨T254, X254, e254, st254⟩ := getF X251 hx hZ hown (host := "") (Or.inl (tw hw 80 rfl)) Via.refl (rfl : T251.heap = T251.heap) f253 (g := (mkF m 35 #[.val (.ref b), .val (.ref x), .val (.int (Int32.ofNat ts.length))] [(.ref b), (.ref b)])) rfl rfl (hb hby d68_22_35)
      refine own_go st254 ?_
      refine og (fun _ k => XS.iloadN X254.here hx rfl (hb hby d68_22_38) rfl k) ?_
      refine og (fun _ k => XS.iadd X254.here hx rfl (hb hby d68_22_39) rfl k) ?_
      try dsimp only [mkF]
      have f255 := ((E_b.keep K244).keep K251)
      obtain ⟨T256, h256, X256, e256, W256, st256⟩ := putF X254 hx hZ hown (host := "") (Or.inl (tw hw 80 rfl)) Via.refl e254 f253 f255 (Or.inl (tw hw 81 rfl)) (tw hw 42 rfl) (ty := .int) (by decide) rfl rfl (g := (mkF m 40 #[.val (.ref b), .val (.ref x), .val (.int (Int32.ofNat ts.length))] [(.int ((Int32.ofNat cs.length) + (Int32.ofNat ts.length))), (.ref b)])) rfl rfl (hb hby d68_22_40)
      refine own_go st256 ?_
      have N256 := Fr.snoc X256 N251 g_b
      have Fw256 := f253.same W256
      refine og (fun _ k => XS.aloadN X256.here hx rfl (hb hby d68_22_43) rfl rfl k) ?_
      have f257 := ((((Keep.refl h0 [b, v]).trans K244 (allS (Or.inl (List.mem_of_getElem? (i := 0) rfl)) all0)).trans K251 (allS (Or.inr vg244) all0)).wr W256 (Or.inl (List.mem_of_getElem? (i := 0) rfl)))
      have f258 := ((Fv244.keep K251 (ninS ne252 nin0)).other W256 (Or.inr (slot_ne (Or.inl (tw hw 56 rfl)) (Or.inl (tw hw 81 rfl)) (by decide) (t := (.array .byte)) (t' := .int) (by decide) (by decide))))
      have f259 := ((Fc244.keep K251 (ninS ne252 nin0)).other W256 (Or.inr (slot_ne (Or.inl (tw hw 58 rfl)) (Or.inl (tw hw 81 rfl)) (by decide) (t := .byte) (t' := .int) (by decide) (by decide))))
      have f260 := ((Fm244.keep K251 (ninS ne252 nin0)).other W256 (Or.inr (slot_ne (Or.inl (tw hw 289 rfl)) (Or.inl (tw hw 81 rfl)) (by decide) (t := .boolean) (t' := .int) (by decide) (by decide))))
      have f261 := (Vv251.other W256 (Ne.symm ne252))
      have f262 := ((Xv244.keep K251).wr W256)
      refine own_fin (v := (some (.ref b))) X256 (fun h => by rw [hrt] at h; cases h) hlk (fun fs hr => retR X256 hx hrt (by rfl) rfl rfl (hb hby d68_22_44) hr) (QQ := QSBg Z b v (cs ++ ts) h0 n0) ?_ (by decide) (by decide)
      rw [e256]
      exact ⟨v244, _, 34, (0 : Int32), rfl, N256, f257, Or.inr vg244, f258, f259, (own_lenA cs ts ▸ Fw256), f260, f261, f262, own_cdi3 hall hts, (by rw [List.length_append]; omega), (by decide)⟩
  · subst c1 c2 c3
    refine og (fun _ k => XS.aloadN X0.here hx rfl (hb hby d68_22_0) rfl rfl k) ?_
    refine og (fun _ k => XS.ifnonnullYes X0.here hx rfl (pc0 := 1) (pc' := 9) rfl (hb hby d68_22_1) rfl (by decide) (by decide) k) ?_
    refine og (fun _ k => XS.aloadN X0.here hx rfl (hb hby d68_22_9) rfl rfl k) ?_
    try dsimp only [mkF]
    obtain ⟨cq263, kq263, q263a, q263b, q263c⟩ := isOf hZ e0 E_x
    obtain ⟨v263, _, ⟨T263, L263, k263, n263⟩, -, X263, ⟨Lc263, hQ263, l263, y263, z263⟩, st263⟩ := X0.virtualBack hx (y := (⟨"java/lang/String", "length", "()I"⟩ : MethodName)) (z := (⟨"java/lang/String", "length", "()I"⟩ : MethodName)) hown (mvT hZ (tw hw 70 rfl)) (mvT hZ (tw hw 71 rfl)) (notFace_of_selects (args := #[]) (mvT hZ (tw hw 73 rfl))) (mvT hZ (tw hw 73 rfl)) (mvT hZ (tw hw 72 rfl)) (by decide) (StrChars.Road.lenW (W := 0) hZ (own_wLen hw) (kI := 4) (tw hw 2 rfl) E_x Fv_x Fc_x V_t hCx (hot.1) (O2.ext O0.2) P5 hot.2 (by decide) (by decide)) q263a q263c (g := (mkF m 10 #[.val (.ref b), .val (.ref x), .unset] [(.ref x)])) rfl (by rw [hml]; rfl) (Steps.refl _) (argsL := []) (rest := []) (lenOf pd_9 rfl) rfl (by show 2 * 0 + _ ≤ _; exact Nat.le_of_eq rfl) (hb hby d68_22_10) (fun _ _ => ⟨rfl, e0, (by decide : 0 + 0 ≤ _), (by decide : 0 + 0 ≤ _)⟩)
    dsimp only [Pt.U, Pt.locs, Pt.cells, Pt.slots] at X263 l263 y263 z263 st263 hQ263
    subst l263 y263 z263
    refine own_gos st263 ?_
    obtain ⟨rfl, rfl, e263⟩ := hQ263
    have Nq263 : Fr n0 ([] : List Loc) := Fr.nil n0
    have N263 := Fr.app N0 Nq263
    refine og (fun _ k => XS.istoreN X263.here hx rfl (hb hby d68_22_13) rfl (l' := #[.val (.ref b), .val (.ref x), .val (.int (Int32.ofNat ts.length))]) rfl k) ?_
    refine og (fun _ k => XS.aloadN X263.here hx rfl (hb hby d68_22_14) rfl rfl k) ?_
    refine og (fun _ k => XS.aloadN X263.here hx rfl (hb hby d68_22_15) rfl rfl k) ?_
    obtain ⟨T264, X264, e264, st264⟩ := getF X263 hx hZ hown (host := "") (Or.inl (tw hw 80 rfl)) Via.refl e263 Fn_b (g := (mkF m 16 #[.val (.ref b), .val (.ref x), .val (.int (Int32.ofNat ts.length))] [(.ref b), (.ref b)])) rfl rfl (hb hby d68_22_16)
    refine own_go st264 ?_
    try dsimp only [mkF]
    refine og (fun _ k => XS.iloadN X264.here hx rfl (hb hby d68_22_19) rfl k) ?_
    refine og (fun _ k => XS.iadd X264.here hx rfl (hb hby d68_22_20) rfl k) ?_
    show own_Go p e below (T264.setTop (mkF m 21 #[.val (.ref b), .val (.ref x), .val (.int (Int32.ofNat ts.length))] [(.int ((Int32.ofNat cs.length) + (Int32.ofNat ts.length))), (.ref b)])) _
    rw [own_ofadd]
    by_cases hgr : cs.length + ts.length ≤ 16
    · skip
      obtain ⟨cq265, q265, q265'⟩ := E_b.cell
      obtain ⟨v265, _, ⟨T265, L265, k265, n265⟩, -, X265, ⟨Lc265, hQ265, l265, y265, z265⟩, st265⟩ := X264.privateBack hx (y := (⟨"java/lang/AbstractStringBuilder", "ensureCapacityInternal", "(I)V"⟩ : MethodName)) hown (mvT hZ (tw hw 82 rfl)) (mvT hZ (tw hw 83 rfl)) (own_selQ hZ (tw hw 85 rfl) (tw hw 84 rfl) (tw hw 83 rfl) (by decide)) (Cond.privateMethod_at (mvP hZ (tw hw 84 rfl) (args := #[]))) (mvT hZ (tw hw 86 rfl)) (by decide) (backOf (W := 0) (rm_enn l Z a0 hw [] b v kv cs (cs.length + ts.length) G1 G3 h0 n0 O0 O2 P5 O4 rG3 OA OH OL E_b Fv_b Fc_b Fn_b Fm_b V_v X_v hall hok ⟨hcM, hM34⟩ g_b g_v hgr) hZ (tw hw 86 rfl) (tw hw 51 rfl) (by decide) (by decide)) (g := (mkF m 21 #[.val (.ref b), .val (.ref x), .val (.int (Int32.ofNat ts.length))] [(.int (Int32.ofNat (cs.length + ts.length))), (.ref b)])) rfl (by rw [hml]; rfl) (Steps.refl _) (a := b) (by rw [e264]; exact q265) q265' (argsL := [(.int (Int32.ofNat (cs.length + ts.length)))]) (rest := []) (lenOf pd_8 rfl) rfl (by show 2 * 0 + _ ≤ _; exact Nat.le_of_eq rfl) (hb hby d68_22_21) (fun _ _ => ⟨rfl, e264, (by decide : 0 + 0 ≤ _), (by decide : 0 + 0 ≤ _)⟩)
      dsimp only [Pt.U, Pt.locs, Pt.cells, Pt.slots] at X265 l265 y265 z265 st265 hQ265
      subst l265 y265 z265
      refine own_gos st265 ?_
      obtain ⟨rfl, Nq265, e265⟩ := hQ265
      have N265 := Fr.app N263 Nq265
      try dsimp only [mkF]
      refine og (fun _ k => XS.aloadN X265.here hx rfl (hb hby d68_22_24) rfl rfl k) ?_
      refine og (fun _ k => XS.aloadN X265.here hx rfl (hb hby d68_22_25) rfl rfl k) ?_
      obtain ⟨T266, X266, e266, st266⟩ := getF X265 hx hZ hown (host := "") (Or.inl (tw hw 80 rfl)) Via.refl e265 Fn_b (g := (mkF m 26 #[.val (.ref b), .val (.ref x), .val (.int (Int32.ofNat ts.length))] [(.ref b), (.ref b)])) rfl rfl (hb hby d68_22_26)
      refine own_go st266 ?_
      refine og (fun _ k => XS.aloadN X266.here hx rfl (hb hby d68_22_29) rfl rfl k) ?_
      obtain ⟨cq267, q267, q267'⟩ := E_b.cell
      obtain ⟨v267, _, ⟨T267, L267, k267, n267⟩, -, X267, ⟨Lc267, hQ267, l267, y267, z267⟩, st267⟩ := X266.privateBack hx (y := (⟨"java/lang/AbstractStringBuilder", "putStringAt", "(ILjava/lang/String;)V"⟩ : MethodName)) hown (mvT hZ (tw hw 87 rfl)) (mvT hZ (tw hw 88 rfl)) (own_selQ hZ (tw hw 90 rfl) (tw hw 89 rfl) (tw hw 88 rfl) (by decide)) (Cond.privateMethod_at (mvP hZ (tw hw 89 rfl) (args := #[]))) (mvT hZ (tw hw 91 rfl)) (by decide) (backOf (W := 0) (rm_psW l Z a0 hw [] b v kv 16 cs x t kt ts G1 G3 h0 n0 O0 O2 P5 O4 rG3 OA OH OL E_b Fv_b Fc_b Fn_b Fm_b V_v X_v hall hok ⟨hcM, hM34⟩ g_b g_v E_x Fv_x Fc_x V_t hex hot hxb htv (by omega)) hZ (tw hw 91 rfl) (tw hw 51 rfl) (by decide) (by decide)) (g := (mkF m 30 #[.val (.ref b), .val (.ref x), .val (.int (Int32.ofNat ts.length))] [(.ref x), (.int (Int32.ofNat cs.length)), (.ref b)])) rfl (by rw [hml]; rfl) (Steps.refl _) (a := b) (by rw [e266]; exact q267) q267' (argsL := [(.int (Int32.ofNat cs.length)), (.ref x)]) (rest := []) (lenOf pd_22 rfl) rfl (by show 2 * 0 + _ ≤ _; exact Nat.le_of_eq rfl) (hb hby d68_22_30) (fun _ _ => ⟨rfl, e266, (by decide : 0 + 1 ≤ _), (by decide : 0 + 68 ≤ _)⟩)
      dsimp only [Pt.U, Pt.locs, Pt.cells, Pt.slots] at X267 l267 y267 z267 st267 hQ267
      subst l267 y267 z267
      refine own_gos st267 ?_
      obtain ⟨v267, kv267, rfl, Nq267, K267, vg267, Fv267, Fc267, Fn267, Fm267, Vv267, Xv267⟩ := hQ267
      have N267 := Fr.app N265 Nq267
      try dsimp only [mkF]
      refine og (fun _ k => XS.aloadN X267.here hx rfl (hb hby d68_22_33) rfl rfl k) ?_
      refine og (fun _ k => XS.dup X267.here hx rfl (hb hby d68_22_34) rfl rfl k) ?_
      obtain ⟨T268, X268, e268, st268⟩ := getF X267 hx hZ hown (host := "") (Or.inl (tw hw 80 rfl)) Via.refl (rfl : T267.heap = T267.heap) Fn267 (g := (mkF m 35 #[.val (.ref b), .val (.ref x), .val (.int (Int32.ofNat ts.length))] [(.ref b), (.ref b)])) rfl rfl (hb hby d68_22_35)
      refine own_go st268 ?_
      refine og (fun _ k => XS.iloadN X268.here hx rfl (hb hby d68_22_38) rfl k) ?_
      refine og (fun _ k => XS.iadd X268.here hx rfl (hb hby d68_22_39) rfl k) ?_
      try dsimp only [mkF]
      obtain ⟨T269, h269, X269, e269, W269, st269⟩ := putF X268 hx hZ hown (host := "") (Or.inl (tw hw 80 rfl)) Via.refl e268 Fn267 (E_b.keep K267) (Or.inl (tw hw 81 rfl)) (tw hw 42 rfl) (ty := .int) (by decide) rfl rfl (g := (mkF m 40 #[.val (.ref b), .val (.ref x), .val (.int (Int32.ofNat ts.length))] [(.int ((Int32.ofNat cs.length) + (Int32.ofNat ts.length))), (.ref b)])) rfl rfl (hb hby d68_22_40)
      refine own_go st269 ?_
      have N269 := Fr.snoc X269 N267 g_b
      have Fw269 := Fn267.same W269
      refine og (fun _ k => XS.aloadN X269.here hx rfl (hb hby d68_22_43) rfl rfl k) ?_
      have f270 := (((Keep.refl h0 [b, v]).trans K267 (allS (Or.inl (List.mem_of_getElem? (i := 0) rfl)) all0)).wr W269 (Or.inl (List.mem_of_getElem? (i := 0) rfl)))
      have f271 := (Fv267.other W269 (Or.inr (slot_ne (Or.inl (tw hw 56 rfl)) (Or.inl (tw hw 81 rfl)) (by decide) (t := (.array .byte)) (t' := .int) (by decide) (by decide))))
      have f272 := (Fc267.other W269 (Or.inr (slot_ne (Or.inl (tw hw 58 rfl)) (Or.inl (tw hw 81 rfl)) (by decide) (t := .byte) (t' := .int) (by decide) (by decide))))
      have f273 := (Fm267.other W269 (Or.inr (slot_ne (Or.inl (tw hw 289 rfl)) (Or.inl (tw hw 81 rfl)) (by decide) (t := .boolean) (t' := .int) (by decide) (by decide))))
      have ne274 : b ≠ v267 := Nat.ne_of_lt (Nat.lt_of_lt_of_le E_b.lt vg267)
      have f275 := (Vv267.other W269 (Ne.symm ne274))
      refine own_fin (v := (some (.ref b))) X269 (fun h => by rw [hrt] at h; cases h) hlk (fun fs hr => retR X269 hx hrt (by rfl) rfl rfl (hb hby d68_22_44) hr) (QQ := QSBg Z b v (cs ++ ts) h0 n0) ?_ (by decide) (by decide)
      rw [e269]
      exact ⟨v267, _, 16, (1 : Int32), rfl, N269, f270, Or.inr vg267, f271, f272, (own_lenA cs ts ▸ Fw269), f273, f275, (Xv267.wr W269), own_cdW hex, (by rw [List.length_append]; omega), (by decide)⟩
    · skip
      obtain ⟨cq276, q276, q276'⟩ := E_b.cell
      obtain ⟨v276, _, ⟨T276, L276, k276, n276⟩, -, X276, ⟨Lc276, hQ276, l276, y276, z276⟩, st276⟩ := X264.privateBack hx (y := (⟨"java/lang/AbstractStringBuilder", "ensureCapacityInternal", "(I)V"⟩ : MethodName)) hown (mvT hZ (tw hw 82 rfl)) (mvT hZ (tw hw 83 rfl)) (own_selQ hZ (tw hw 85 rfl) (tw hw 84 rfl) (tw hw 83 rfl) (by decide)) (Cond.privateMethod_at (mvP hZ (tw hw 84 rfl) (args := #[]))) (mvT hZ (tw hw 86 rfl)) (by decide) (backOf (W := 0) (rm_eng l Z a0 hw [] b v kv cs (cs.length + ts.length) G1 G3 h0 n0 O0 O2 P5 O4 rG3 OA OH OL E_b Fv_b Fc_b Fn_b Fm_b V_v X_v hall hok ⟨hcM, hM34⟩ g_b g_v (by omega) (by omega)) hZ (tw hw 86 rfl) (tw hw 51 rfl) (by decide) (by decide)) (g := (mkF m 21 #[.val (.ref b), .val (.ref x), .val (.int (Int32.ofNat ts.length))] [(.int (Int32.ofNat (cs.length + ts.length))), (.ref b)])) rfl (by rw [hml]; rfl) (Steps.refl _) (a := b) (by rw [e264]; exact q276) q276' (argsL := [(.int (Int32.ofNat (cs.length + ts.length)))]) (rest := []) (lenOf pd_8 rfl) rfl (by show 2 * 0 + _ ≤ _; exact Nat.le_of_eq rfl) (hb hby d68_22_21) (fun _ _ => ⟨rfl, e264, (by decide : 0 + 1 ≤ _), (by decide : 0 + 34 ≤ _)⟩)
      dsimp only [Pt.U, Pt.locs, Pt.cells, Pt.slots] at X276 l276 y276 z276 st276 hQ276
      subst l276 y276 z276
      refine own_gos st276 ?_
      obtain ⟨v276, kv276, rfl, Nq276, K276, vg276, Fv276, Fc276, Fn276, Fm276, Vv276, Xv276⟩ := hQ276
      have N276 := Fr.app N263 Nq276
      try dsimp only [mkF]
      refine og (fun _ k => XS.aloadN X276.here hx rfl (hb hby d68_22_24) rfl rfl k) ?_
      refine og (fun _ k => XS.aloadN X276.here hx rfl (hb hby d68_22_25) rfl rfl k) ?_
      obtain ⟨T277, X277, e277, st277⟩ := getF X276 hx hZ hown (host := "") (Or.inl (tw hw 80 rfl)) Via.refl (rfl : T276.heap = T276.heap) Fn276 (g := (mkF m 26 #[.val (.ref b), .val (.ref x), .val (.int (Int32.ofNat ts.length))] [(.ref b), (.ref b)])) rfl rfl (hb hby d68_22_26)
      refine own_go st277 ?_
      refine og (fun _ k => XS.aloadN X277.here hx rfl (hb hby d68_22_29) rfl rfl k) ?_
      have f278 := (Fv_x.keep K276 (ninS hxb nin0))
      have f279 := (Fc_x.keep K276 (ninS hxb nin0))
      have f280 := (V_t.keep K276 (ninS (Ne.symm hbt) nin0))
      have ne281 : t ≠ v276 := Nat.ne_of_lt (Nat.lt_of_lt_of_le V_t.lt vg276)
      have f282 := (O0.keep K276 (allS g_b all0))
      obtain ⟨cq283, q283, q283'⟩ := (E_b.keep K276).cell
      obtain ⟨v283, _, ⟨T283, L283, k283, n283⟩, -, X283, ⟨Lc283, hQ283, l283, y283, z283⟩, st283⟩ := X277.privateBack hx (y := (⟨"java/lang/AbstractStringBuilder", "putStringAt", "(ILjava/lang/String;)V"⟩ : MethodName)) hown (mvT hZ (tw hw 87 rfl)) (mvT hZ (tw hw 88 rfl)) (own_selQ hZ (tw hw 90 rfl) (tw hw 89 rfl) (tw hw 88 rfl) (by decide)) (Cond.privateMethod_at (mvP hZ (tw hw 89 rfl) (args := #[]))) (mvT hZ (tw hw 91 rfl)) (by decide) (backOf (W := 0) (rm_psW l Z a0 hw [] b v276 kv276 34 cs x t kt ts G1 G3 T276.heap n0 f282 O2 P5 O4 rG3 OA OH OL (E_b.keep K276) Fv276 Fc276 Fn276 Fm276 Vv276 Xv276 hall hok ⟨by omega, by decide⟩ g_b (Nat.le_trans Z0 vg276) (E_x.keep K276) f278 f279 f280 hex hot hxb ne281 (by omega)) hZ (tw hw 91 rfl) (tw hw 51 rfl) (by decide) (by decide)) (g := (mkF m 30 #[.val (.ref b), .val (.ref x), .val (.int (Int32.ofNat ts.length))] [(.ref x), (.int (Int32.ofNat cs.length)), (.ref b)])) rfl (by rw [hml]; rfl) (Steps.refl _) (a := b) (by rw [e277]; exact q283) q283' (argsL := [(.int (Int32.ofNat cs.length)), (.ref x)]) (rest := []) (lenOf pd_22 rfl) rfl (by show 2 * 0 + _ ≤ _; exact Nat.le_of_eq rfl) (hb hby d68_22_30) (fun _ _ => ⟨rfl, e277, (by decide : 1 + 1 ≤ _), (by decide : 34 + 68 ≤ _)⟩)
      dsimp only [Pt.U, Pt.locs, Pt.cells, Pt.slots] at X283 l283 y283 z283 st283 hQ283
      subst l283 y283 z283
      refine own_gos st283 ?_
      obtain ⟨v283, kv283, rfl, Nq283, K283, vg283, Fv283, Fc283, Fn283, Fm283, Vv283, Xv283⟩ := hQ283
      have N283 := Fr.app N276 Nq283
      try dsimp only [mkF]
      refine og (fun _ k => XS.aloadN X283.here hx rfl (hb hby d68_22_33) rfl rfl k) ?_
      refine og (fun _ k => XS.dup X283.here hx rfl (hb hby d68_22_34) rfl rfl k) ?_
      obtain ⟨T284, X284, e284, st284⟩ := getF X283 hx hZ hown (host := "") (Or.inl (tw hw 80 rfl)) Via.refl (rfl : T283.heap = T283.heap) Fn283 (g := (mkF m 35 #[.val (.ref b), .val (.ref x), .val (.int (Int32.ofNat ts.length))] [(.ref b), (.ref b)])) rfl rfl (hb hby d68_22_35)
      refine own_go st284 ?_
      refine og (fun _ k => XS.iloadN X284.here hx rfl (hb hby d68_22_38) rfl k) ?_
      refine og (fun _ k => XS.iadd X284.here hx rfl (hb hby d68_22_39) rfl k) ?_
      try dsimp only [mkF]
      have f285 := ((E_b.keep K276).keep K283)
      obtain ⟨T286, h286, X286, e286, W286, st286⟩ := putF X284 hx hZ hown (host := "") (Or.inl (tw hw 80 rfl)) Via.refl e284 Fn283 f285 (Or.inl (tw hw 81 rfl)) (tw hw 42 rfl) (ty := .int) (by decide) rfl rfl (g := (mkF m 40 #[.val (.ref b), .val (.ref x), .val (.int (Int32.ofNat ts.length))] [(.int ((Int32.ofNat cs.length) + (Int32.ofNat ts.length))), (.ref b)])) rfl rfl (hb hby d68_22_40)
      refine own_go st286 ?_
      have N286 := Fr.snoc X286 N283 g_b
      have Fw286 := Fn283.same W286
      refine og (fun _ k => XS.aloadN X286.here hx rfl (hb hby d68_22_43) rfl rfl k) ?_
      have f287 := ((((Keep.refl h0 [b, v]).trans K276 (allS (Or.inl (List.mem_of_getElem? (i := 0) rfl)) all0)).trans K283 (allS (Or.inl (List.mem_of_getElem? (i := 0) rfl)) all0)).wr W286 (Or.inl (List.mem_of_getElem? (i := 0) rfl)))
      have f288 := (Fv283.other W286 (Or.inr (slot_ne (Or.inl (tw hw 56 rfl)) (Or.inl (tw hw 81 rfl)) (by decide) (t := (.array .byte)) (t' := .int) (by decide) (by decide))))
      have f289 := (Fc283.other W286 (Or.inr (slot_ne (Or.inl (tw hw 58 rfl)) (Or.inl (tw hw 81 rfl)) (by decide) (t := .byte) (t' := .int) (by decide) (by decide))))
      have f290 := (Fm283.other W286 (Or.inr (slot_ne (Or.inl (tw hw 289 rfl)) (Or.inl (tw hw 81 rfl)) (by decide) (t := .boolean) (t' := .int) (by decide) (by decide))))
      have ne291 : b ≠ v283 := Nat.ne_of_lt (Nat.lt_of_lt_of_le (Nat.lt_of_lt_of_le E_b.lt K276.1) vg283)
      have f292 := (Vv283.other W286 (Ne.symm ne291))
      refine own_fin (v := (some (.ref b))) X286 (fun h => by rw [hrt] at h; cases h) hlk (fun fs hr => retR X286 hx hrt (by rfl) rfl rfl (hb hby d68_22_44) hr) (QQ := QSBg Z b v (cs ++ ts) h0 n0) ?_ (by decide) (by decide)
      rw [e286]
      exact ⟨v283, _, 34, (1 : Int32), rfl, N286, f287, Or.inr (Nat.le_trans K276.1 vg283), f288, f289, (own_lenA cs ts ▸ Fw286), f290, f292, (Xv283.wr W286), own_cdW hex, (by rw [List.length_append]; omega), (by decide)⟩

theorem ef_rm_apS (m : MethodId) (x0 : Addr) (x1 : Addr) : entryFrame m #[(.ref x0), (.ref x1)] 2 = mkF m 0 #[.val (.ref x0), .val (.ref x1)] [] := by
   first | (simp [entryFrame, mkF, argsToLocals, Value.category]; done) | rfl
set_option maxRecDepth 65536 in
set_option maxHeartbeats 40000000 in
theorem rm_apS (l : Launch) (Z : State) (a0 : Array Value) (hw : ∀ d ∈ tables_1, d.before a0 Z = true) (ws : List Jvm.Cond) (b v : Addr) (kv : ClassId) (cs : List Int32) (x t : Addr) (kt : ClassId) (ts : List Int32) (cx Nx : Int32) (vx : List Value) (G1 : Int32) (G3 : Value) (h0 : Heap) (n0 : Nat) (O0 : Old Z n0 h0) (O2 : Sta Z Z.heap "java/lang/String" "COMPACT_STRINGS" "Z" (.int G1)) (P5 : ¬ (G1 = (0 : Int32))) (O4 : Sta Z Z.heap "jdk/internal/util/Preconditions" "SIOOBE_FORMATTER" "Ljava/util/function/BiFunction;" G3) (rG3 : G3.isRef = true) (OA : Sta Z Z.heap "java/lang/StringUTF16" "$assertionsDisabled" "Z" (.int (1 : Int32))) (OH : Sta Z Z.heap "java/lang/StringUTF16" "HI_BYTE_SHIFT" "I" (.int (0 : Int32))) (OL : Sta Z Z.heap "java/lang/StringUTF16" "LO_BYTE_SHIFT" "I" (.int (8 : Int32))) (E_b : Exa Z h0 b "java/lang/StringBuilder") (Fv_b : Fld Z h0 b "java/lang/AbstractStringBuilder" "value" "[B" (.ref v)) (Fc_b : Fld Z h0 b "java/lang/AbstractStringBuilder" "coder" "B" (.int (0 : Int32))) (Fn_b : Fld Z h0 b "java/lang/AbstractStringBuilder" "count" "I" (.int (Int32.ofNat cs.length))) (Fm_b : Fld Z h0 b "java/lang/AbstractStringBuilder" "maybeLatin1" "Z" (.int (0 : Int32))) (V_v : Arv Z h0 v kv .byte (Int32.ofNat 16) (own_sM 16 cs) (.int (0 : Int32))) (X_v : Exa Z h0 v "[B") (hall : ∀ c ∈ cs, ¬ (255 : Int32) < c) (hok : own_Ok cs) (hM : cs.length ≤ 16 ∧ 16 ≤ 34) (g_b : n0 ≤ b) (g_v : n0 ≤ v) (E_x : Exa Z h0 x "java/lang/String") (Fv_x : Fld Z h0 x "java/lang/String" "value" "[B" (.ref t)) (Fc_x : Fld Z h0 x "java/lang/String" "coder" "B" (.int cx)) (V_t : Arv Z h0 t kt .byte Nx vx (.int (0 : Int32))) (hCx : StrChars.Road.CodA ts cx Nx vx) (hot : own_Ok ts) (hxb : x ≠ b) (htv : t ≠ v) (hs : cs.length + ts.length ≤ 34) :
    MetFree l (⟨"java/lang/StringBuilder", "append", "(Ljava/lang/String;)Ljava/lang/StringBuilder;"⟩ : MethodName) (head1 (Jvm.Cond.code (⟨"java/lang/StringBuilder", "append", "(Ljava/lang/String;)Ljava/lang/StringBuilder;"⟩ : MethodName) jdk_67_method_7_code 2 (some (.object "java/lang/StringBuilder")) :: ws) ⟨9, 2, 102, 130⟩) (fun aA U => aA = #[(.ref b), (.ref x)] ∧ Z.Warmed39 U.vm ∧ U.heap = h0) (fun _ _ _ _ _ => True) (fun _ U oO U' => ∃ rV rL, oO = .returned rV ∧ QSBg Z b v (cs ++ ts) h0 n0 rV U'.heap rL ∧ FrameEnd U oO U' rL 2 102) := by
  refine MetFree.of_bodySF (plainFor_of_name pn_3) hisR ?_
  intro p e s m args below meth cC s₁ Bd hml0 hP hK
  obtain ⟨rfl, hZ, hh⟩ := hP
  have hx := Bd.exec
  have hby := Bd.bytes
  have hml : cC.maxLocals = 2 := hml0
  have hown : s.vm.findClass "java/lang/StringBuilder" = some m.cls := findClass_of_methodNamed Bd.named
  have hnm := (name_of_methodNamed Bd.named Bd.method).1
  have hrt := Bd.returns
  have hlk : meth.locks = false := Bd.notSynchronized
  have X0 : Stand p l e ⟨9, 2, 102, 130⟩ s m #[(.ref b), (.ref x)] below meth cC s₁ [] 0 0 := Stand.of_body Bd
  have e0 : s₁.heap = h0 := by rw [← hh, Bd.state]; rfl
  have N0 := Fr.nil n0
  have Z0 : n0 ≤ h0.size := O0.1 ▸ O0.2.1
  show own_Go p e below (s₁.setTop (entryFrame m #[(.ref b), (.ref x)] 2)) (fun oO U' => ∃ rV rL, oO = .returned rV ∧ QSBg Z b v (cs ++ ts) h0 n0 rV U'.heap rL ∧ FrameEnd s oO U' rL 2 102)
  refine own_go (fun _ k => castTop (ef_rm_apS m b x) k) ?_
  have hlen : cs.length ≤ 4000 := hok.2
  obtain ⟨hcM, hM34⟩ := hM
  have hbv := Exa.neArv E_b V_v (tw hw 42 rfl)
  have hxv := Exa.neArv E_x V_v (tw hw 2 rfl)
  have hbt := Exa.neArv E_b V_t (tw hw 42 rfl)
  have hlt4 : ts.length ≤ 4000 := hot.2
  refine og (fun _ k => XS.aloadN X0.here hx rfl (hb hby d67_7_0) rfl rfl k) ?_
  refine og (fun _ k => XS.aloadN X0.here hx rfl (hb hby d67_7_1) rfl rfl k) ?_
  obtain ⟨v293, _, ⟨T293, L293, k293, n293⟩, -, X293, ⟨Lc293, hQ293, l293, y293, z293⟩, st293⟩ := superBack X0 hx hZ (y := (⟨"java/lang/AbstractStringBuilder", "append", "(Ljava/lang/String;)Ljava/lang/AbstractStringBuilder;"⟩ : MethodName)) hown (tw hw 65 rfl) (own_same (tw hw 66 rfl) (tw hw 85 rfl) rfl (by decide)) (tw hw 66 rfl) (tw hw 67 rfl) (by decide) (backOf (W := 0) (rm_aps l Z a0 hw [] b v kv cs x t kt ts cx Nx vx G1 G3 h0 n0 O0 O2 P5 O4 rG3 OA OH OL E_b Fv_b Fc_b Fn_b Fm_b V_v X_v hall hok ⟨hcM, hM34⟩ g_b g_v E_x Fv_x Fc_x V_t hCx hot hxb htv hs) hZ (tw hw 69 rfl) (tw hw 51 rfl) (by decide) (by decide)) e0 (Ins.self E_b) (g := (mkF m 2 #[.val (.ref b), .val (.ref x)] [(.ref x), (.ref b)])) rfl (by rw [hml]; rfl) (tw hw 69 rfl) (argsL := [(.ref x)]) (rest := []) (lenOf pd_23 rfl) rfl (by show 2 * 0 + _ ≤ _; exact Nat.le_of_eq rfl) (hb hby d67_7_2) (fun _ _ => ⟨rfl, e0, (by decide : 0 + 2 ≤ _), (by decide : 0 + 102 ≤ _)⟩)
  dsimp only [Pt.U, Pt.locs, Pt.cells, Pt.slots] at X293 l293 y293 z293 st293 hQ293
  subst l293 y293 z293
  refine own_gos st293 ?_
  obtain ⟨v293, kv293, M293, cd293, rfl, Nq293, K293, hor293, Fv293, Fc293, Fn293, Fm293, Vv293, Xv293, hcd293, hcM293, hM34293⟩ := hQ293
  have gv293 : n0 ≤ v293 := hor293.elim (fun q => q ▸ g_v) (fun q => Nat.le_trans (Nat.le_trans Z0 (Keep.refl h0 [b, v]).1) q)
  have N293 := Fr.app N0 Nq293
  refine og (fun _ k => XS.pop X293.here hx rfl (hb hby d67_7_5) rfl rfl k) ?_
  try dsimp only [mkF]
  refine og (fun _ k => XS.aloadN X293.here hx rfl (hb hby d67_7_6) rfl rfl k) ?_
  have f294 := ((Keep.refl h0 [b, v]).trans K293 (allS (Or.inl (List.mem_of_getElem? (i := 0) rfl)) (allS (Or.inl (List.mem_of_getElem? (i := 1) rfl)) all0)))
  refine own_fin (v := (some (.ref b))) X293 (fun h => by rw [hrt] at h; cases h) hlk (fun fs hr => retR X293 hx hrt (by rfl) rfl rfl (hb hby d67_7_7) hr) (QQ := QSBg Z b v (cs ++ ts) h0 n0) ?_ (by decide) (by decide)
  exact ⟨v293, _, M293, cd293, rfl, N293, f294, hor293, Fv293, Fc293, Fn293, Fm293, Vv293, Xv293, hcd293, hcM293, hM34293⟩

theorem own_minN {a b : Nat} (h : b ≤ a) (ha : a < 2147483648) : Int32.ofNat b = if Int32.ofNat b < Int32.ofNat a then Int32.ofNat b else Int32.ofNat a := by
  by_cases q : b < a
  · rw [if_pos ((own_lti (by omega) ha).mpr q)]
  · have e : b = a := by omega
    rw [e, if_neg (fun z => by have := (own_lti ha ha).mp z; omega)]
theorem own_neN {a b : Nat} (h : b < a) (ha : a < 2147483648) : ¬ Int32.ofNat b = Int32.ofNat a := fun q => by
  have e := congrArg Int32.toInt q
  rw [own_ti (by omega), own_ti ha] at e; omega
abbrev k65_131 := jdk_65_method_131_code
theorem d65_131_0 : Dk k65_131 0 (.iload_n 1) 1 := own_k
theorem d65_131_1 : Dk k65_131 1 (.iload_n 0) 1 := own_k
theorem d65_131_2 : Dk k65_131 2 (.if_icmp .ge 35) 3 := own_k
theorem d65_131_37 : Dk k65_131 37 .return_ 1 := own_k
theorem ef_rm_ckl (m : MethodId) (x0 : Int32) (x1 : Int32) : entryFrame m #[(.int x0), (.int x1)] 2 = mkF m 0 #[.val (.int x0), .val (.int x1)] [] := by
   first | (simp [entryFrame, mkF, argsToLocals, Value.category]; done) | rfl
set_option maxRecDepth 65536 in
set_option maxHeartbeats 40000000 in
theorem rm_ckl (l : Launch) (Z : State) (a0 : Array Value) (hw : ∀ d ∈ tables_1, d.before a0 Z = true) (ws : List Jvm.Cond) (p1 p2 : Int32) (h0 : Heap) (n0 : Nat) (O0 : Old Z n0 h0) (q1 : ¬ p2 < p1) :
    MetFree l (⟨"java/util/Arrays", "checkLength", "(II)V"⟩ : MethodName) (head1 (Jvm.Cond.code (⟨"java/util/Arrays", "checkLength", "(II)V"⟩ : MethodName) jdk_65_method_131_code 2 none :: ws) ⟨0, 0, 0, 0⟩) (fun aA U => aA = #[(.int p1), (.int p2)] ∧ Z.Warmed39 U.vm ∧ U.heap = h0) (fun _ _ _ _ _ => True) (fun _ U oO U' => ∃ rV rL, oO = .returned rV ∧ QPure (none) h0 n0 rV U'.heap rL ∧ FrameEnd U oO U' rL 0 0) := by
  refine MetFree.of_bodySF (plainFor_of_name pn_6) hisR ?_
  intro p e s m args below meth cC s₁ Bd hml0 hP hK
  obtain ⟨rfl, hZ, hh⟩ := hP
  have hx := Bd.exec
  have hby := Bd.bytes
  have hml : cC.maxLocals = 2 := hml0
  have hown : s.vm.findClass "java/util/Arrays" = some m.cls := findClass_of_methodNamed Bd.named
  have hnm := (name_of_methodNamed Bd.named Bd.method).1
  have hrt := Bd.returns
  have hlk : meth.locks = false := Bd.notSynchronized
  have X0 : Stand p l e ⟨0, 0, 0, 0⟩ s m #[(.int p1), (.int p2)] below meth cC s₁ [] 0 0 := Stand.of_body Bd
  have e0 : s₁.heap = h0 := by rw [← hh, Bd.state]; rfl
  have N0 := Fr.nil n0
  have Z0 : n0 ≤ h0.size := O0.1 ▸ O0.2.1
  show own_Go p e below (s₁.setTop (entryFrame m #[(.int p1), (.int p2)] 2)) (fun oO U' => ∃ rV rL, oO = .returned rV ∧ QPure (none) h0 n0 rV U'.heap rL ∧ FrameEnd s oO U' rL 0 0)
  refine own_go (fun _ k => castTop (ef_rm_ckl m p1 p2) k) ?_
  refine og (fun _ k => XS.iloadN X0.here hx rfl (hb hby d65_131_0) rfl k) ?_
  refine og (fun _ k => XS.iloadN X0.here hx rfl (hb hby d65_131_1) rfl k) ?_
  refine og (fun _ k => XS.icmpYes X0.here hx rfl (pc0 := 2) (pc' := 37) rfl (hb hby d65_131_2) rfl (flt q1).2.1 (by decide) (by decide) k) ?_
  refine own_fin (v := none) X0 (fun _ => rfl) hlk (fun fs hr => X0.returnOut hx hrt (hb hby d65_131_37) hr) (QQ := QPure (none) h0 n0) ?_ (by decide) (by decide)
  rw [e0]
  exact ⟨rfl, N0, rfl⟩

abbrev k65_133 := jdk_65_method_133_code
theorem d65_133_0 : Dk k65_133 0 (.iload_n 1) 1 := own_k
theorem d65_133_1 : Dk k65_133 1 (.iload_n 2) 1 := own_k
theorem d65_133_2 : Dk k65_133 2 (.invokestatic 343) 3 := own_k
theorem pd_24 : parseMethodDescriptor "(II)V" = some ⟨[.int, .int], none⟩ := by decide +kernel
theorem d65_133_5 : Dk k65_133 5 (.iload_n 2) 1 := own_k
theorem d65_133_6 : Dk k65_133 6 (.iload_n 1) 1 := own_k
theorem d65_133_7 : Dk k65_133 7 .isub 1 := own_k
theorem d65_133_8 : Dk k65_133 8 (.istore_n 3) 1 := own_k
theorem d65_133_9 : Dk k65_133 9 (.iload_n 3) 1 := own_k
theorem d65_133_10 : Dk k65_133 10 (.newarray .byte) 2 := own_k
theorem d65_133_12 : Dk k65_133 12 (.astore 4) 2 := own_k
theorem d65_133_14 : Dk k65_133 14 (.aload_n 0) 1 := own_k
theorem d65_133_15 : Dk k65_133 15 (.iload_n 1) 1 := own_k
theorem d65_133_16 : Dk k65_133 16 (.aload 4) 2 := own_k
theorem d65_133_18 : Dk k65_133 18 (.iconst 0) 1 := own_k
theorem d65_133_19 : Dk k65_133 19 (.aload_n 0) 1 := own_k
theorem d65_133_20 : Dk k65_133 20 .arraylength 1 := own_k
theorem d65_133_21 : Dk k65_133 21 (.iload_n 1) 1 := own_k
theorem d65_133_22 : Dk k65_133 22 .isub 1 := own_k
theorem d65_133_23 : Dk k65_133 23 (.iload_n 3) 1 := own_k
theorem d65_133_24 : Dk k65_133 24 (.invokestatic 304) 3 := own_k
theorem d65_133_27 : Dk k65_133 27 (.invokestatic 150) 3 := own_k
theorem d65_133_30 : Dk k65_133 30 (.aload 4) 2 := own_k
theorem d65_133_32 : Dk k65_133 32 .areturn 1 := own_k
theorem ef_rm_corb (m : MethodId) (x0 : Addr) (x1 : Int32) (x2 : Int32) : entryFrame m #[(.ref x0), (.int x1), (.int x2)] 5 = mkF m 0 #[.val (.ref x0), .val (.int x1), .val (.int x2), .unset, .unset] [] := by
   first | (simp [entryFrame, mkF, argsToLocals, Value.category]; done) | rfl
set_option maxRecDepth 65536 in
set_option maxHeartbeats 40000000 in
theorem rm_corb (l : Launch) (Z : State) (a0 : Array Value) (hw : ∀ d ∈ tables_1, d.before a0 Z = true) (ws : List Jvm.Cond) (a : Addr) (ka : ClassId) (Na : Nat) (vs : List Value) (mm : Nat) (us : List Value) (h0 : Heap) (n0 : Nat) (O0 : Old Z n0 h0) (V_a : Arv Z h0 a ka .byte (Int32.ofNat Na) vs (.int (0 : Int32))) (hm : mm ≤ Na) (hNa : Na ≤ 70) (hus : us = (List.range mm).map fun i => vs.getD (0 + i) (.int (0 : Int32))) :
    MetFree l (⟨"java/util/Arrays", "copyOfRangeByte", "([BII)[B"⟩ : MethodName) (head1 (Jvm.Cond.code (⟨"java/util/Arrays", "copyOfRangeByte", "([BII)[B"⟩ : MethodName) jdk_65_method_133_code 5 (some (.array .byte)) :: ws) ⟨1, 1, 70, 18⟩) (fun aA U => aA = #[(.ref a), (.int (0 : Int32)), (.int (Int32.ofNat mm))] ∧ Z.Warmed39 U.vm ∧ U.heap = h0) (fun _ _ _ _ _ => True) (fun _ U oO U' => ∃ rV rL, oO = .returned rV ∧ QNew Z (Int32.ofNat mm) us h0 n0 rV U'.heap rL ∧ FrameEnd U oO U' rL 1 70) := by
  refine MetFree.of_bodySF (plainFor_of_name pn_6) hisR ?_
  intro p e s m args below meth cC s₁ Bd hml0 hP hK
  obtain ⟨rfl, hZ, hh⟩ := hP
  have hx := Bd.exec
  have hby := Bd.bytes
  have hml : cC.maxLocals = 5 := hml0
  have hown : s.vm.findClass "java/util/Arrays" = some m.cls := findClass_of_methodNamed Bd.named
  have hnm := (name_of_methodNamed Bd.named Bd.method).1
  have hrt := Bd.returns
  have hlk : meth.locks = false := Bd.notSynchronized
  have X0 : Stand p l e ⟨1, 1, 70, 18⟩ s m #[(.ref a), (.int (0 : Int32)), (.int (Int32.ofNat mm))] below meth cC s₁ [] 0 0 := Stand.of_body Bd
  have e0 : s₁.heap = h0 := by rw [← hh, Bd.state]; rfl
  have N0 := Fr.nil n0
  have Z0 : n0 ≤ h0.size := O0.1 ▸ O0.2.1
  show own_Go p e below (s₁.setTop (entryFrame m #[(.ref a), (.int (0 : Int32)), (.int (Int32.ofNat mm))] 5)) (fun oO U' => ∃ rV rL, oO = .returned rV ∧ QNew Z (Int32.ofNat mm) us h0 n0 rV U'.heap rL ∧ FrameEnd s oO U' rL 1 70)
  refine own_go (fun _ k => castTop (ef_rm_corb m a _ _) k) ?_
  have hul : us.length = mm := by rw [hus, List.length_map, List.length_range]
  refine og (fun _ k => XS.iloadN X0.here hx rfl (hb hby d65_133_0) rfl k) ?_
  refine og (fun _ k => XS.iloadN X0.here hx rfl (hb hby d65_133_1) rfl k) ?_
  obtain ⟨v295, _, ⟨T295, L295, k295, n295⟩, -, X295, ⟨Lc295, hQ295, l295, y295, z295⟩, st295⟩ := Jvm.LawKit.callS X0 hx (y := (⟨"java/util/Arrays", "checkLength", "(II)V"⟩ : MethodName)) hown (mvT hZ (tw hw 144 rfl)) (mvT hZ (tw hw 145 rfl)) (mvT hZ (tw hw 139 rfl)) (mvT hZ (tw hw 146 rfl)) (by decide) (backOf (W := 0) (rm_ckl l Z a0 hw [] (0 : Int32) (Int32.ofNat mm) h0 n0 O0 (own_nn0 (by omega))) hZ (tw hw 146 rfl) (tw hw 139 rfl) (by decide) (by decide)) (g := (mkF m 2 #[.val (.ref a), .val (.int (0 : Int32)), .val (.int (Int32.ofNat mm)), .unset, .unset] [(.int (Int32.ofNat mm)), (.int (0 : Int32))])) rfl (by rw [hml]; rfl) (argsL := [(.int (0 : Int32)), (.int (Int32.ofNat mm))]) (rest := []) (lenOf pd_24 rfl) rfl (by show 2 * 0 + _ ≤ _; exact Nat.le_of_eq rfl) (hb hby d65_133_2) (fun _ _ => ⟨rfl, e0, (by decide : 0 + 0 ≤ _), (by decide : 0 + 0 ≤ _)⟩)
  dsimp only [Pt.U, Pt.locs, Pt.cells, Pt.slots] at X295 l295 y295 z295 st295 hQ295
  subst l295 y295 z295
  refine own_go st295 ?_
  obtain ⟨rfl, Nq295, e295⟩ := hQ295
  have N295 := Fr.app N0 Nq295
  refine og (fun _ k => XS.iloadN X295.here hx rfl (hb hby d65_133_5) rfl k) ?_
  try dsimp only [mkF]
  refine og (fun _ k => XS.iloadN X295.here hx rfl (hb hby d65_133_6) rfl k) ?_
  refine og (fun _ k => XS.isub X295.here hx rfl (hb hby d65_133_7) rfl k) ?_
  show own_Go p e below (T295.setTop (mkF m 8 #[.val (.ref a), .val (.int (0 : Int32)), .val (.int (Int32.ofNat mm)), .unset, .unset] [(.int ((Int32.ofNat mm) - (0 : Int32)))])) _
  rw [Int32.sub_zero]
  refine og (fun _ k => XS.istoreN X295.here hx rfl (hb hby d65_133_8) rfl (l' := #[.val (.ref a), .val (.int (0 : Int32)), .val (.int (Int32.ofNat mm)), .val (.int (Int32.ofNat mm)), .unset]) rfl k) ?_
  refine og (fun _ k => XS.iloadN X295.here hx rfl (hb hby d65_133_9) rfl k) ?_
  try dsimp only [mkF]
  obtain ⟨T296, h296, k296, X296, e296, E296, A296, st296⟩ := newP X295 hx hZ (tw hw 16 rfl) e295 (g := (mkF m 10 #[.val (.ref a), .val (.int (0 : Int32)), .val (.int (Int32.ofNat mm)), .val (.int (Int32.ofNat mm)), .unset] [(.int (Int32.ofNat mm))])) rfl (hb hby d65_133_10) rfl (own_nn0 (by omega)) (cap := 70) (by rw [own_tn (by omega)]; omega) (by decide) (by decide) (by decide)
  obtain ⟨b296, g296⟩ : ∃ z, z = h0.size := ⟨_, rfl⟩
  rw [← g296] at A296 st296
  refine own_go st296 ?_
  have V296 : Arv Z h296 b296 k296 .byte (Int32.ofNat mm) (List.replicate ((Int32.ofNat mm)).toNatClampNeg (.int (0 : Int32))) (.int (0 : Int32)) := (Arv.new A296 (own_nn0 (by omega))).pad (pad_rep [] (.int (0 : Int32)) _)
  have Vb0 : Arv Z h296 b296 k296 .byte (Int32.ofNat mm) (List.replicate mm (.int (0 : Int32))) (.int (0 : Int32)) := by have q := V296; rw [own_tn (by omega)] at q; exact q
  refine og (fun _ k => XS.astore X296.here hx rfl (hb hby d65_133_12) rfl rfl (l' := #[.val (.ref a), .val (.int (0 : Int32)), .val (.int (Int32.ofNat mm)), .val (.int (Int32.ofNat mm)), .val (.ref b296)]) rfl k) ?_
  refine og (fun _ k => XS.aloadN X296.here hx rfl (hb hby d65_133_14) rfl rfl k) ?_
  refine og (fun _ k => XS.iloadN X296.here hx rfl (hb hby d65_133_15) rfl k) ?_
  refine og (fun _ k => XS.aload X296.here hx rfl (hb hby d65_133_16) rfl rfl k) ?_
  try dsimp only [mkF]
  refine og (fun _ k => XS.iconst X296.here hx rfl (hb hby d65_133_18) k) ?_
  refine og (fun _ k => XS.aloadN X296.here hx rfl (hb hby d65_133_19) rfl rfl k) ?_
  obtain ⟨c297, A297, q297, S297, M297, Hs297, Gs297⟩ := id (V_a.ext E296)
  refine og (fun _ k => X296.arraylength hx (by rw [e296]; exact A297.1) (State.isArrayOf_alike hZ.alike A297.2.1) (g := (mkF m 20 #[.val (.ref a), .val (.int (0 : Int32)), .val (.int (Int32.ofNat mm)), .val (.int (Int32.ofNat mm)), .val (.ref b296)] [(.ref a), (.int (0 : Int32)), (.ref b296), (.int (0 : Int32)), (.ref a)])) rfl rfl (hb hby d65_133_20) _ k) ?_
  rw [len_of S297 M297]
  refine og (fun _ k => XS.iloadN X296.here hx rfl (hb hby d65_133_21) rfl k) ?_
  refine og (fun _ k => XS.isub X296.here hx rfl (hb hby d65_133_22) rfl k) ?_
  try dsimp only [mkF]
  show own_Go p e below (T296.setTop (mkF m 23 #[.val (.ref a), .val (.int (0 : Int32)), .val (.int (Int32.ofNat mm)), .val (.int (Int32.ofNat mm)), .val (.ref b296)] [(.int ((Int32.ofNat Na) - (0 : Int32))), (.int (0 : Int32)), (.ref b296), (.int (0 : Int32)), (.ref a)])) _
  rw [Int32.sub_zero]
  refine og (fun _ k => XS.iloadN X296.here hx rfl (hb hby d65_133_23) rfl k) ?_
  obtain ⟨v298, _, ⟨T298, L298, k298, n298⟩, -, X298, ⟨Lc298, hQ298, l298, y298, z298⟩, st298⟩ := Jvm.LawKit.callS X296 hx (y := (⟨"java/lang/Math", "min", "(II)I"⟩ : MethodName)) hown (mvT hZ (tw hw 147 rfl)) (mvT hZ (tw hw 148 rfl)) (mvT hZ (tw hw 149 rfl)) (mvT hZ (tw hw 150 rfl)) (by decide) (backOf (W := 4) (rm_min l Z a0 hw [] (Int32.ofNat Na) (Int32.ofNat mm) (Int32.ofNat mm) h296 n0 (O0.ext E296) (own_minN hm (by omega))) hZ (tw hw 150 rfl) (tw hw 149 rfl) (by decide) (by decide)) (g := (mkF m 24 #[.val (.ref a), .val (.int (0 : Int32)), .val (.int (Int32.ofNat mm)), .val (.int (Int32.ofNat mm)), .val (.ref b296)] [(.int (Int32.ofNat mm)), (.int (Int32.ofNat Na)), (.int (0 : Int32)), (.ref b296), (.int (0 : Int32)), (.ref a)])) rfl (by rw [hml]; rfl) (argsL := [(.int (Int32.ofNat Na)), (.int (Int32.ofNat mm))]) (rest := [(.int (0 : Int32)), (.ref b296), (.int (0 : Int32)), (.ref a)]) (lenOf pd_15 rfl) rfl (by show 2 * 0 + _ ≤ _; exact Nat.le_of_eq rfl) (hb hby d65_133_24) (fun _ _ => ⟨rfl, e296, (by decide : 1 + 0 ≤ _), (by decide : 70 + 0 ≤ _)⟩)
  dsimp only [Pt.U, Pt.locs, Pt.cells, Pt.slots] at X298 l298 y298 z298 st298 hQ298
  subst l298 y298 z298
  refine own_go st298 ?_
  obtain ⟨rfl, Nq298, e298⟩ := hQ298
  have N298 := Fr.app N295 Nq298
  have ci299 := own_tn (i := 0) (by omega)
  have cj299 := own_tn (i := 0) (by omega)
  have cm299 := own_tn (i := mm) (by omega)
  have ca299 := own_tn (i := Na) (by omega)
  have cb299 := own_tn (i := mm) (by omega)
  have cl299 : ((List.replicate mm (.int (0 : Int32))) : List Value).length = mm := List.length_replicate
  obtain ⟨T299, h299, Lc299, X299, e299, N299, K299, Vc299, st299⟩ := cpA (sp := Int32.ofNat 0) (dp := Int32.ofNat 0) (nn := Int32.ofNat mm) X298 hx hZ hown (tw hw 151 rfl) (tw hw 106 rfl) (tw hw 104 rfl) (tw hw 105 rfl) e298 (z := Int32.ofNat Na) (z' := Int32.ofNat mm) (V_a.ext E296) Vb0 (Or.inl ⟨rfl, rfl⟩) (own_nn0 (by omega)) (own_nn0 (by omega)) (own_nn0 (by omega)) (by omega) (by omega) (us := us) (by rw [cm299, ci299]; exact hus) (by omega) N298 (Nat.le_trans Z0 (Nat.le_of_eq g296.symm)) (g := (mkF m 27 #[.val (.ref a), .val (.int (0 : Int32)), .val (.int (Int32.ofNat mm)), .val (.int (Int32.ofNat mm)), .val (.ref b296)] [(.int (Int32.ofNat mm)), (.int (0 : Int32)), (.ref b296), (.int (0 : Int32)), (.ref a)])) rfl (by rw [hml]; rfl) rfl (hb hby d65_133_27) (by decide) (W := 0) (by show 2 * 0 + _ ≤ _; exact Nat.le_of_eq rfl) (by decide)
  refine own_go st299 ?_
  have Vt299 : Arv Z h299 b296 k296 .byte (Int32.ofNat mm) us (.int (0 : Int32)) := by simp only [cj299, cm299] at Vc299; exact (own_cpR hul) ▸ Vc299
  refine og (fun _ k => XS.aload X299.here hx rfl (hb hby d65_133_30) rfl rfl k) ?_
  try dsimp only [mkF]
  have f300 := (((Keep.refl h0 []).ext E296).trans K299 (allS (Or.inr (Nat.le_of_eq g296.symm)) all0))
  refine own_fin (v := (some (.ref b296))) X299 (fun h => by rw [hrt] at h; cases h) hlk (fun fs hr => retR X299 hx hrt (by rfl) rfl rfl (hb hby d65_133_32) hr) (QQ := QNew Z (Int32.ofNat mm) us h0 n0) ?_ (by decide) (by decide)
  rw [e299]
  exact ⟨b296, _, rfl, N299, f300, (Nat.le_of_eq g296.symm), Vt299⟩

abbrev k65_132 := jdk_65_method_132_code
theorem d65_132_0 : Dk k65_132 0 (.iload_n 1) 1 := own_k
theorem d65_132_1 : Dk k65_132 1 (.ifCond .ne 9) 3 := own_k
theorem d65_132_4 : Dk k65_132 4 (.iload_n 2) 1 := own_k
theorem d65_132_5 : Dk k65_132 5 (.aload_n 0) 1 := own_k
theorem d65_132_6 : Dk k65_132 6 .arraylength 1 := own_k
theorem d65_132_7 : Dk k65_132 7 (.if_icmp .eq 10) 3 := own_k
theorem d65_132_17 : Dk k65_132 17 (.aload_n 0) 1 := own_k
theorem d65_132_18 : Dk k65_132 18 (.invokevirtual 310) 3 := own_k
theorem d65_132_21 : Dk k65_132 21 (.checkcast 311) 3 := own_k
theorem d65_132_24 : Dk k65_132 24 .areturn 1 := own_k
theorem d65_132_10 : Dk k65_132 10 (.aload_n 0) 1 := own_k
theorem d65_132_11 : Dk k65_132 11 (.iload_n 1) 1 := own_k
theorem d65_132_12 : Dk k65_132 12 (.iload_n 2) 1 := own_k
theorem d65_132_13 : Dk k65_132 13 (.invokestatic 339) 3 := own_k
theorem pd_25 : parseMethodDescriptor "([BII)[B" = some ⟨[(.array .byte), .int, .int], some (.array .byte)⟩ := by decide +kernel
theorem d65_132_16 : Dk k65_132 16 .areturn 1 := own_k
theorem ef_rm_cor (m : MethodId) (x0 : Addr) (x1 : Int32) (x2 : Int32) : entryFrame m #[(.ref x0), (.int x1), (.int x2)] 3 = mkF m 0 #[.val (.ref x0), .val (.int x1), .val (.int x2)] [] := by
   first | (simp [entryFrame, mkF, argsToLocals, Value.category]; done) | rfl
set_option maxRecDepth 65536 in
set_option maxHeartbeats 40000000 in
theorem rm_cor (l : Launch) (Z : State) (a0 : Array Value) (hw : ∀ d ∈ tables_1, d.before a0 Z = true) (ws : List Jvm.Cond) (a : Addr) (ka : ClassId) (Na : Nat) (vs : List Value) (mm : Nat) (us : List Value) (h0 : Heap) (n0 : Nat) (O0 : Old Z n0 h0) (V_a : Arv Z h0 a ka .byte (Int32.ofNat Na) vs (.int (0 : Int32))) (hm : mm ≤ Na) (hNa : Na ≤ 70) (hus : us = (List.range mm).map fun i => vs.getD (0 + i) (.int (0 : Int32))) (X_a : Exa Z h0 a "[B") (hvl : vs.length = Na) :
    MetFree l (⟨"java/util/Arrays", "copyOfRange", "([BII)[B"⟩ : MethodName) (head1 (Jvm.Cond.code (⟨"java/util/Arrays", "copyOfRange", "([BII)[B"⟩ : MethodName) jdk_65_method_132_code 3 (some (.array .byte)) :: ws) ⟨2, 1, 70, 34⟩) (fun aA U => aA = #[(.ref a), (.int (0 : Int32)), (.int (Int32.ofNat mm))] ∧ Z.Warmed39 U.vm ∧ U.heap = h0) (fun _ _ _ _ _ => True) (fun _ U oO U' => ∃ rV rL, oO = .returned rV ∧ QNew Z (Int32.ofNat mm) us h0 n0 rV U'.heap rL ∧ FrameEnd U oO U' rL 1 70) := by
  refine MetFree.of_bodySF (plainFor_of_name pn_6) hisR ?_
  intro p e s m args below meth cC s₁ Bd hml0 hP hK
  obtain ⟨rfl, hZ, hh⟩ := hP
  have hx := Bd.exec
  have hby := Bd.bytes
  have hml : cC.maxLocals = 3 := hml0
  have hown : s.vm.findClass "java/util/Arrays" = some m.cls := findClass_of_methodNamed Bd.named
  have hnm := (name_of_methodNamed Bd.named Bd.method).1
  have hrt := Bd.returns
  have hlk : meth.locks = false := Bd.notSynchronized
  have X0 : Stand p l e ⟨2, 1, 70, 34⟩ s m #[(.ref a), (.int (0 : Int32)), (.int (Int32.ofNat mm))] below meth cC s₁ [] 0 0 := Stand.of_body Bd
  have e0 : s₁.heap = h0 := by rw [← hh, Bd.state]; rfl
  have N0 := Fr.nil n0
  have Z0 : n0 ≤ h0.size := O0.1 ▸ O0.2.1
  show own_Go p e below (s₁.setTop (entryFrame m #[(.ref a), (.int (0 : Int32)), (.int (Int32.ofNat mm))] 3)) (fun oO U' => ∃ rV rL, oO = .returned rV ∧ QNew Z (Int32.ofNat mm) us h0 n0 rV U'.heap rL ∧ FrameEnd s oO U' rL 1 70)
  refine own_go (fun _ k => castTop (ef_rm_cor m a _ _) k) ?_
  refine og (fun _ k => XS.iloadN X0.here hx rfl (hb hby d65_132_0) rfl k) ?_
  refine og (fun _ k => XS.ifNo X0.here hx rfl (hb hby d65_132_1) rfl ((if0 _ _).trans (teq (by decide : (0 : Int32) = (0 : Int32))).2) k) ?_
  refine og (fun _ k => XS.iloadN X0.here hx rfl (hb hby d65_132_4) rfl k) ?_
  refine og (fun _ k => XS.aloadN X0.here hx rfl (hb hby d65_132_5) rfl rfl k) ?_
  try dsimp only [mkF]
  obtain ⟨c301, A301, q301, S301, M301, Hs301, Gs301⟩ := id V_a
  refine og (fun _ k => X0.arraylength hx (by rw [e0]; exact A301.1) (State.isArrayOf_alike hZ.alike A301.2.1) (g := (mkF m 6 #[.val (.ref a), .val (.int (0 : Int32)), .val (.int (Int32.ofNat mm))] [(.ref a), (.int (Int32.ofNat mm))])) rfl rfl (hb hby d65_132_6) _ k) ?_
  rw [len_of S301 M301]
  by_cases hc302 : (Int32.ofNat mm) = (Int32.ofNat Na)
  · skip
    refine og (fun _ k => XS.icmpYes X0.here hx rfl (pc0 := 7) (pc' := 17) rfl (hb hby d65_132_7) rfl (teq hc302).1 (by decide) (by decide) k) ?_
    refine og (fun _ k => XS.aloadN X0.here hx rfl (hb hby d65_132_17) rfl rfl k) ?_
    obtain ⟨T303, h303, X303, e303, E303, A303, Q303, st303⟩ := cloneH X0 hx hZ hown (tw hw 290 rfl) (tw hw 291 rfl) (tw hw 295 rfl) (tw hw 293 rfl) (tw hw 294 rfl) (tw hw 296 rfl) e0 (Arv.arh V_a) X_a (g := (mkF m 18 #[.val (.ref a), .val (.int (0 : Int32)), .val (.int (Int32.ofNat mm))] [(.ref a)])) rfl (by rw [hml]; rfl) rfl (hb hby d65_132_18) (by decide) (W := 0) (by show 2 * 0 + _ ≤ _; exact Nat.le_of_eq rfl) (by decide) (cap := 70) (by rw [own_tn (by omega)]; exact hNa) (by decide) (by decide)
    obtain ⟨b303, g303⟩ : ∃ z, z = h0.size := ⟨_, rfl⟩
    rw [← g303] at A303 Q303 st303
    refine own_go st303 ?_
    have V303 : Arv Z h303 b303 ka .byte (Int32.ofNat Na) vs (.int (0 : Int32)) := A303
    obtain ⟨T304, X304, e304, st304⟩ := castY X303 hx hZ hown (tw hw 297 rfl) e303 (Ins.self Q303) (g := (mkF m 21 #[.val (.ref a), .val (.int (0 : Int32)), .val (.int (Int32.ofNat mm))] [(.ref b303)])) rfl rfl (hb hby d65_132_21)
    refine own_go st304 ?_
    try dsimp only [mkF]
    have hmN : mm = Na := own_eqN hc302 (by omega) (by omega)
    have hvu : vs = us := by rw [hus, hmN]; exact own_self hvl
    have f305 := ((Keep.refl h0 []).ext E303)
    refine own_fin (v := (some (.ref b303))) X304 (fun h => by rw [hrt] at h; cases h) hlk (fun fs hr => retR X304 hx hrt (by rfl) rfl rfl (hb hby d65_132_24) hr) (QQ := QNew Z (Int32.ofNat mm) us h0 n0) ?_ (by decide) (by decide)
    rw [e304]
    exact ⟨b303, _, rfl, N0, f305, (Nat.le_of_eq g303.symm), (by rw [hmN, ← hvu]; exact V303)⟩
  · skip
    refine og (fun _ k => XS.icmpNo X0.here hx rfl (hb hby d65_132_7) rfl (feq hc302).1 k) ?_
    refine og (fun _ k => XS.aloadN X0.here hx rfl (hb hby d65_132_10) rfl rfl k) ?_
    refine og (fun _ k => XS.iloadN X0.here hx rfl (hb hby d65_132_11) rfl k) ?_
    refine og (fun _ k => XS.iloadN X0.here hx rfl (hb hby d65_132_12) rfl k) ?_
    try dsimp only [mkF]
    obtain ⟨v306, _, ⟨T306, L306, k306, n306⟩, -, X306, ⟨Lc306, hQ306, l306, y306, z306⟩, st306⟩ := Jvm.LawKit.callS X0 hx (y := (⟨"java/util/Arrays", "copyOfRangeByte", "([BII)[B"⟩ : MethodName)) hown (mvT hZ (tw hw 141 rfl)) (mvT hZ (tw hw 142 rfl)) (mvT hZ (tw hw 139 rfl)) (mvT hZ (tw hw 143 rfl)) (by decide) (backOf (W := 0) (rm_corb l Z a0 hw [] a ka Na vs mm us h0 n0 O0 V_a hm hNa hus) hZ (tw hw 143 rfl) (tw hw 139 rfl) (by decide) (by decide)) (g := (mkF m 13 #[.val (.ref a), .val (.int (0 : Int32)), .val (.int (Int32.ofNat mm))] [(.int (Int32.ofNat mm)), (.int (0 : Int32)), (.ref a)])) rfl (by rw [hml]; rfl) (argsL := [(.ref a), (.int (0 : Int32)), (.int (Int32.ofNat mm))]) (rest := []) (lenOf pd_25 rfl) rfl (by show 2 * 0 + _ ≤ _; exact Nat.le_of_eq rfl) (hb hby d65_132_13) (fun _ _ => ⟨rfl, e0, (by decide : 0 + 1 ≤ _), (by decide : 0 + 70 ≤ _)⟩)
    dsimp only [Pt.U, Pt.locs, Pt.cells, Pt.slots] at X306 l306 y306 z306 st306 hQ306
    subst l306 y306 z306
    refine own_go st306 ?_
    obtain ⟨t306, kt306, rfl, Nq306, K306, tg306, Vt306⟩ := hQ306
    have N306 := Fr.app N0 Nq306
    have f307 := ((Keep.refl h0 []).trans K306 all0)
    refine own_fin (v := (some (.ref t306))) X306 (fun h => by rw [hrt] at h; cases h) hlk (fun fs hr => retR X306 hx hrt (by rfl) rfl rfl (hb hby d65_132_16) hr) (QQ := QNew Z (Int32.ofNat mm) us h0 n0) ?_ (by decide) (by decide)
    exact ⟨t306, _, rfl, N306, f307, tg306, Vt306⟩

abbrev k42_150 := jdk_42_method_150_code
theorem d42_150_0 : Dk k42_150 0 (.aload_n 0) 1 := own_k
theorem d42_150_1 : Dk k42_150 1 (.invokespecial 1) 3 := own_k
theorem d42_150_4 : Dk k42_150 4 (.aload_n 1) 1 := own_k
theorem d42_150_5 : Dk k42_150 5 (.invokevirtual 552) 3 := own_k
theorem pd_26 : parseMethodDescriptor "()[B" = some ⟨[], some (.array .byte)⟩ := by decide +kernel
theorem d42_150_8 : Dk k42_150 8 (.astore_n 3) 1 := own_k
theorem d42_150_9 : Dk k42_150 9 (.aload_n 1) 1 := own_k
theorem d42_150_10 : Dk k42_150 10 (.invokevirtual 549) 3 := own_k
theorem d42_150_13 : Dk k42_150 13 (.istore 4) 2 := own_k
theorem d42_150_15 : Dk k42_150 15 (.aload_n 1) 1 := own_k
theorem d42_150_16 : Dk k42_150 16 (.invokevirtual 1047) 3 := own_k
theorem d42_150_19 : Dk k42_150 19 (.ifCond .eq 22) 3 := own_k
theorem d42_150_22 : Dk k42_150 22 (.aload_n 0) 1 := own_k
theorem d42_150_23 : Dk k42_150 23 (.iconst 0) 1 := own_k
theorem d42_150_24 : Dk k42_150 24 (.putfield 15) 3 := own_k
theorem d42_150_27 : Dk k42_150 27 (.aload_n 0) 1 := own_k
theorem d42_150_28 : Dk k42_150 28 (.aload_n 3) 1 := own_k
theorem d42_150_29 : Dk k42_150 29 (.iconst 0) 1 := own_k
theorem d42_150_30 : Dk k42_150 30 (.iload 4) 2 := own_k
theorem d42_150_32 : Dk k42_150 32 (.invokestatic 54) 3 := own_k
theorem d42_150_35 : Dk k42_150 35 (.putfield 9) 3 := own_k
theorem d42_150_38 : Dk k42_150 38 (.goto 59) 3 := own_k
theorem d42_150_97 : Dk k42_150 97 .return_ 1 := own_k
theorem d42_150_41 : Dk k42_150 41 (.getstatic 38) 3 := own_k
theorem d42_150_44 : Dk k42_150 44 (.ifCond .eq 35) 3 := own_k
theorem d42_150_47 : Dk k42_150 47 (.aload_n 1) 1 := own_k
theorem d42_150_48 : Dk k42_150 48 (.getfield 1048) 3 := own_k
theorem d42_150_51 : Dk k42_150 51 (.ifCond .eq 28) 3 := own_k
theorem d42_150_79 : Dk k42_150 79 (.aload_n 0) 1 := own_k
theorem d42_150_80 : Dk k42_150 80 (.iconst 1) 1 := own_k
theorem d42_150_81 : Dk k42_150 81 (.putfield 15) 3 := own_k
theorem d42_150_84 : Dk k42_150 84 (.aload_n 0) 1 := own_k
theorem d42_150_85 : Dk k42_150 85 (.aload_n 3) 1 := own_k
theorem d42_150_86 : Dk k42_150 86 (.iconst 0) 1 := own_k
theorem d42_150_87 : Dk k42_150 87 (.iload 4) 2 := own_k
theorem d42_150_89 : Dk k42_150 89 (.iconst 1) 1 := own_k
theorem d42_150_90 : Dk k42_150 90 .ishl 1 := own_k
theorem d42_150_91 : Dk k42_150 91 (.invokestatic 54) 3 := own_k
theorem d42_150_94 : Dk k42_150 94 (.putfield 9) 3 := own_k
theorem ef_rm_sia (m : MethodId) (x0 : Addr) (x1 : Addr) : entryFrame m #[(.ref x0), (.ref x1), .null] 5 = mkF m 0 #[.val (.ref x0), .val (.ref x1), .val .null, .unset, .unset] [] := by
   first | (simp [entryFrame, mkF, argsToLocals, Value.category]; done) | rfl
set_option maxRecDepth 65536 in
set_option maxHeartbeats 40000000 in
theorem rm_sia (l : Launch) (Z : State) (a0 : Array Value) (hw : ∀ d ∈ tables_1, d.before a0 Z = true) (ws : List Jvm.Cond) (x b v : Addr) (kv : ClassId) (M : Nat) (cd : Int32) (cs : List Int32) (G1 : Int32) (G3 : Value) (h0 : Heap) (n0 : Nat) (O0 : Old Z n0 h0) (O2 : Sta Z Z.heap "java/lang/String" "COMPACT_STRINGS" "Z" (.int G1)) (P5 : ¬ (G1 = (0 : Int32))) (O4 : Sta Z Z.heap "jdk/internal/util/Preconditions" "SIOOBE_FORMATTER" "Ljava/util/function/BiFunction;" G3) (rG3 : G3.isRef = true) (OA : Sta Z Z.heap "java/lang/StringUTF16" "$assertionsDisabled" "Z" (.int (1 : Int32))) (OH : Sta Z Z.heap "java/lang/StringUTF16" "HI_BYTE_SHIFT" "I" (.int (0 : Int32))) (OL : Sta Z Z.heap "java/lang/StringUTF16" "LO_BYTE_SHIFT" "I" (.int (8 : Int32))) (E_x : Exa Z h0 x "java/lang/String") (Fv_x : Fld Z h0 x "java/lang/String" "value" "[B" .null) (Fc_x : Fld Z h0 x "java/lang/String" "coder" "B" (.int (0 : Int32))) (g_x : n0 ≤ x) (E_b : Exa Z h0 b "java/lang/StringBuilder") (Fv_b : Fld Z h0 b "java/lang/AbstractStringBuilder" "value" "[B" (.ref v)) (Fc_b : Fld Z h0 b "java/lang/AbstractStringBuilder" "coder" "B" (.int cd)) (Fn_b : Fld Z h0 b "java/lang/AbstractStringBuilder" "count" "I" (.int (Int32.ofNat cs.length))) (Fm_b : Fld Z h0 b "java/lang/AbstractStringBuilder" "maybeLatin1" "Z" (.int (0 : Int32))) (V_v : Arv Z h0 v kv .byte (own_zN cd M) (own_zV cd M cs) (.int (0 : Int32))) (X_v : Exa Z h0 v "[B") (hcd : own_cdi cd cs) (hcM : cs.length ≤ M) (hM34 : M ≤ 34) (hxb : x ≠ b) :
    MetFree l (⟨"java/lang/String", "<init>", "(Ljava/lang/AbstractStringBuilder;Ljava/lang/Void;)V"⟩ : MethodName) (head1 (Jvm.Cond.code (⟨"java/lang/String", "<init>", "(Ljava/lang/AbstractStringBuilder;Ljava/lang/Void;)V"⟩ : MethodName) jdk_42_method_150_code 5 none :: ws) ⟨3, 1, 70, 49⟩) (fun aA U => aA = #[(.ref x), (.ref b), .null] ∧ Z.Warmed39 U.vm ∧ U.heap = h0) (fun _ _ _ _ _ => True) (fun _ U oO U' => ∃ rV rL, oO = .returned rV ∧ QSt Z x cs h0 n0 rV U'.heap rL ∧ FrameEnd U oO U' rL 1 70) := by
  refine MetFree.of_bodySF (plainFor_of_name pn_0) hisR ?_
  intro p e s m args below meth cC s₁ Bd hml0 hP hK
  obtain ⟨rfl, hZ, hh⟩ := hP
  have hx := Bd.exec
  have hby := Bd.bytes
  have hml : cC.maxLocals = 5 := hml0
  have hown : s.vm.findClass "java/lang/String" = some m.cls := findClass_of_methodNamed Bd.named
  have hnm := (name_of_methodNamed Bd.named Bd.method).1
  have hrt := Bd.returns
  have hlk : meth.locks = false := Bd.notSynchronized
  have X0 : Stand p l e ⟨3, 1, 70, 49⟩ s m #[(.ref x), (.ref b), .null] below meth cC s₁ [] 0 0 := Stand.of_body Bd
  have e0 : s₁.heap = h0 := by rw [← hh, Bd.state]; rfl
  have N0 := Fr.nil n0
  have Z0 : n0 ≤ h0.size := O0.1 ▸ O0.2.1
  show own_Go p e below (s₁.setTop (entryFrame m #[(.ref x), (.ref b), .null] 5)) (fun oO U' => ∃ rV rL, oO = .returned rV ∧ QSt Z x cs h0 n0 rV U'.heap rL ∧ FrameEnd s oO U' rL 1 70)
  refine own_go (fun _ k => castTop (ef_rm_sia m x b) k) ?_
  have hxv := Exa.neArv E_x V_v (tw hw 2 rfl)
  rcases id hcd with ⟨cd0, hall⟩ | ⟨cd0, hex⟩
  · subst cd0
    refine og (fun _ k => XS.aloadN X0.here hx rfl (hb hby d42_150_0) rfl rfl k) ?_
    obtain ⟨T308, X308, e308, st308⟩ := initO X0 hx hZ hown (tw hw 12 rfl) (tw hw 13 rfl) (tw hw 14 rfl) e0 (g := (mkF m 1 #[.val (.ref x), .val (.ref b), .val .null, .unset, .unset] [(.ref x)])) rfl (by rw [hml]; rfl) rfl (hb hby d42_150_1) (by decide) (W := 0) (by show 2 * 0 + _ ≤ _; exact Nat.le_of_eq rfl) (by decide)
    refine own_go st308 ?_
    try dsimp only [mkF]
    refine og (fun _ k => XS.aloadN X308.here hx rfl (hb hby d42_150_4) rfl rfl k) ?_
    obtain ⟨cq309, kq309, q309a, q309b, q309c⟩ := isOf hZ e308 E_b
    obtain ⟨v309, _, ⟨T309, L309, k309, n309⟩, -, X309, ⟨Lc309, hQ309, l309, y309, z309⟩, st309⟩ := X308.virtualBack hx (y := (⟨"java/lang/AbstractStringBuilder", "getValue", "()[B"⟩ : MethodName)) (z := (⟨"java/lang/AbstractStringBuilder", "getValue", "()[B"⟩ : MethodName)) hown (mvT hZ (tw hw 119 rfl)) (mvT hZ (tw hw 120 rfl)) (notFace_of_selects (args := #[]) (mvT hZ (tw hw 122 rfl))) (mvT hZ (tw hw 122 rfl)) (mvT hZ (tw hw 121 rfl)) (by decide) (backOf (W := 0) (rm_gv l Z a0 hw [] b v h0 n0 O0 E_b Fv_b) hZ (tw hw 123 rfl) (tw hw 51 rfl) (by decide) (by decide)) q309a q309c (g := (mkF m 5 #[.val (.ref x), .val (.ref b), .val .null, .unset, .unset] [(.ref b)])) rfl (by rw [hml]; rfl) (Steps.refl _) (argsL := []) (rest := []) (lenOf pd_26 rfl) rfl (by show 2 * 0 + _ ≤ _; exact Nat.le_of_eq rfl) (hb hby d42_150_5) (fun _ _ => ⟨rfl, e308, (by decide : 0 + 0 ≤ _), (by decide : 0 + 0 ≤ _)⟩)
    dsimp only [Pt.U, Pt.locs, Pt.cells, Pt.slots] at X309 l309 y309 z309 st309 hQ309
    subst l309 y309 z309
    refine own_gos st309 ?_
    obtain ⟨rfl, Nq309, e309⟩ := hQ309
    have N309 := Fr.app N0 Nq309
    refine og (fun _ k => XS.astoreN X309.here hx rfl (hb hby d42_150_8) rfl rfl (l' := #[.val (.ref x), .val (.ref b), .val .null, .val (.ref v), .unset]) rfl k) ?_
    refine og (fun _ k => XS.aloadN X309.here hx rfl (hb hby d42_150_9) rfl rfl k) ?_
    obtain ⟨cq310, kq310, q310a, q310b, q310c⟩ := isOf hZ e309 E_b
    obtain ⟨v310, _, ⟨T310, L310, k310, n310⟩, -, X310, ⟨Lc310, hQ310, l310, y310, z310⟩, st310⟩ := X309.virtualBack hx (y := (⟨"java/lang/AbstractStringBuilder", "length", "()I"⟩ : MethodName)) (z := (⟨"java/lang/StringBuilder", "length", "()I"⟩ : MethodName)) hown (mvT hZ (tw hw 124 rfl)) (mvT hZ (tw hw 125 rfl)) (own_nf (args := #[]) (mvT hZ (tw hw 85 rfl)) rfl) (mvT hZ (tw hw 127 rfl)) (mvT hZ (tw hw 128 rfl)) (by decide) (backOf (W := 0) (rm_sl l Z a0 hw [] b (Int32.ofNat cs.length) h0 n0 O0 E_b Fn_b) hZ (tw hw 129 rfl) (tw hw 43 rfl) (by decide) (by decide)) q310a q310c (g := (mkF m 10 #[.val (.ref x), .val (.ref b), .val .null, .val (.ref v), .unset] [(.ref b)])) rfl (by rw [hml]; rfl) (Steps.refl _) (argsL := []) (rest := []) (lenOf pd_9 rfl) rfl (by show 2 * 0 + _ ≤ _; exact Nat.le_of_eq rfl) (hb hby d42_150_10) (fun _ _ => ⟨rfl, e309, (by decide : 0 + 0 ≤ _), (by decide : 0 + 0 ≤ _)⟩)
    dsimp only [Pt.U, Pt.locs, Pt.cells, Pt.slots] at X310 l310 y310 z310 st310 hQ310
    subst l310 y310 z310
    refine own_gos st310 ?_
    obtain ⟨rfl, Nq310, e310⟩ := hQ310
    have N310 := Fr.app N309 Nq310
    try dsimp only [mkF]
    refine og (fun _ k => XS.istore X310.here hx rfl (hb hby d42_150_13) rfl (l' := #[.val (.ref x), .val (.ref b), .val .null, .val (.ref v), .val (.int (Int32.ofNat cs.length))]) rfl k) ?_
    refine og (fun _ k => XS.aloadN X310.here hx rfl (hb hby d42_150_15) rfl rfl k) ?_
    obtain ⟨cq311, kq311, q311a, q311b, q311c⟩ := isOf hZ e310 E_b
    obtain ⟨v311, _, ⟨T311, L311, k311, n311⟩, -, X311, ⟨Lc311, hQ311, l311, y311, z311⟩, st311⟩ := X310.virtualBack hx (y := (⟨"java/lang/AbstractStringBuilder", "isLatin1", "()Z"⟩ : MethodName)) (z := (⟨"java/lang/AbstractStringBuilder", "isLatin1", "()Z"⟩ : MethodName)) hown (mvT hZ (tw hw 132 rfl)) (mvT hZ (tw hw 133 rfl)) (notFace_of_selects (args := #[]) (mvT hZ (tw hw 135 rfl))) (mvT hZ (tw hw 135 rfl)) (mvT hZ (tw hw 134 rfl)) (by decide) (backOf (W := 0) (rm_bl0 l Z a0 hw [] b G1 h0 n0 O0 E_b Fc_b O2 P5) hZ (tw hw 136 rfl) (tw hw 51 rfl) (by decide) (by decide)) q311a q311c (g := (mkF m 16 #[.val (.ref x), .val (.ref b), .val .null, .val (.ref v), .val (.int (Int32.ofNat cs.length))] [(.ref b)])) rfl (by rw [hml]; rfl) (Steps.refl _) (argsL := []) (rest := []) (lenOf pd_17 rfl) rfl (by show 2 * 0 + _ ≤ _; exact Nat.le_of_eq rfl) (hb hby d42_150_16) (fun _ _ => ⟨rfl, e310, (by decide : 0 + 0 ≤ _), (by decide : 0 + 0 ≤ _)⟩)
    dsimp only [Pt.U, Pt.locs, Pt.cells, Pt.slots] at X311 l311 y311 z311 st311 hQ311
    subst l311 y311 z311
    refine own_gos st311 ?_
    obtain ⟨rfl, Nq311, e311⟩ := hQ311
    have N311 := Fr.app N310 Nq311
    refine og (fun _ k => XS.ifNo X311.here hx rfl (hb hby d42_150_19) rfl ((if0 _ _).trans (feq (by decide : ¬ ((1 : Int32) = (0 : Int32)))).1) k) ?_
    refine og (fun _ k => XS.aloadN X311.here hx rfl (hb hby d42_150_22) rfl rfl k) ?_
    try dsimp only [mkF]
    refine og (fun _ k => XS.iconst X311.here hx rfl (hb hby d42_150_23) k) ?_
    obtain ⟨T312, h312, X312, e312, W312, st312⟩ := putFN X311 hx hZ hown (tw hw 22 rfl) Via.refl e311 Fc_x E_x (Or.inr ⟨(tw hw 18 rfl), rfl, hnm⟩) (tw hw 2 rfl) (ty := .byte) (v' := (.int (0 : Int32))) (by decide) rfl rfl (g := (mkF m 24 #[.val (.ref x), .val (.ref b), .val .null, .val (.ref v), .val (.int (Int32.ofNat cs.length))] [(.int (0 : Int32)), (.ref x)])) rfl rfl (hb hby d42_150_24)
    refine own_go st312 ?_
    have N312 := Fr.snoc X312 N311 g_x
    have Fw312 := Fc_x.same W312
    refine og (fun _ k => XS.aloadN X312.here hx rfl (hb hby d42_150_27) rfl rfl k) ?_
    refine og (fun _ k => XS.aloadN X312.here hx rfl (hb hby d42_150_28) rfl rfl k) ?_
    refine og (fun _ k => XS.iconst X312.here hx rfl (hb hby d42_150_29) k) ?_
    try dsimp only [mkF]
    refine og (fun _ k => XS.iload X312.here hx rfl (hb hby d42_150_30) rfl k) ?_
    have f313 := (V_v.other W312 (Ne.symm hxv))
    obtain ⟨v314, _, ⟨T314, L314, k314, n314⟩, -, X314, ⟨Lc314, hQ314, l314, y314, z314⟩, st314⟩ := Jvm.LawKit.callS X312 hx (y := (⟨"java/util/Arrays", "copyOfRange", "([BII)[B"⟩ : MethodName)) hown (mvT hZ (tw hw 137 rfl)) (mvT hZ (tw hw 138 rfl)) (mvT hZ (tw hw 139 rfl)) (mvT hZ (tw hw 140 rfl)) (by decide) (backOf (W := 1) (rm_cor l Z a0 hw [] v kv M (own_sM M cs) cs.length (own_lat cs) h312 n0 (O0.wr W312 g_x) f313 hcM (by omega) own_takeM (X_v.wr W312) (own_sMl hcM)) hZ (tw hw 140 rfl) (tw hw 139 rfl) (by decide) (by decide)) (g := (mkF m 32 #[.val (.ref x), .val (.ref b), .val .null, .val (.ref v), .val (.int (Int32.ofNat cs.length))] [(.int (Int32.ofNat cs.length)), (.int (0 : Int32)), (.ref v), (.ref x)])) rfl (by rw [hml]; rfl) (argsL := [(.ref v), (.int (0 : Int32)), (.int (Int32.ofNat cs.length))]) (rest := [(.ref x)]) (lenOf pd_25 rfl) rfl (by show 2 * 0 + _ ≤ _; exact Nat.le_of_eq rfl) (hb hby d42_150_32) (fun _ _ => ⟨rfl, e312, (by decide : 0 + 1 ≤ _), (by decide : 0 + 70 ≤ _)⟩)
    dsimp only [Pt.U, Pt.locs, Pt.cells, Pt.slots] at X314 l314 y314 z314 st314 hQ314
    subst l314 y314 z314
    refine own_go st314 ?_
    obtain ⟨t314, kt314, rfl, Nq314, K314, tg314, Vt314⟩ := hQ314
    have N314 := Fr.app N312 Nq314
    have f315 := ((Fv_x.other W312 (Or.inr (slot_ne (Or.inr (tw hw 17 rfl)) (Or.inr (tw hw 18 rfl)) (by decide) (t := (.array .byte)) (t' := .byte) (by decide) (by decide)))).keep K314 nin0)
    have f316 := ((E_x.wr W312).keep K314)
    obtain ⟨T317, h317, X317, e317, W317, st317⟩ := putF X314 hx hZ hown (host := "") (Or.inl (tw hw 21 rfl)) Via.refl (rfl : T314.heap = T314.heap) f315 f316 (Or.inr ⟨(tw hw 17 rfl), rfl, hnm⟩) (tw hw 2 rfl) (ty := (.array .byte)) (by decide) rfl rfl (g := (mkF m 35 #[.val (.ref x), .val (.ref b), .val .null, .val (.ref v), .val (.int (Int32.ofNat cs.length))] [(.ref t314), (.ref x)])) rfl rfl (hb hby d42_150_35)
    refine own_go st317 ?_
    have N317 := Fr.snoc X317 N314 g_x
    have Fw317 := f315.same W317
    refine og (fun _ k => XS.goto X317.here hx rfl (pc0 := 38) (pc' := 97) rfl (hb hby d42_150_38) (by decide) (by decide) k) ?_
    have f318 := ((((Keep.refl h0 [x]).wr W312 (Or.inl (List.mem_of_getElem? (i := 0) rfl))).trans K314 all0).wr W317 (Or.inl (List.mem_of_getElem? (i := 0) rfl)))
    have f319 := ((Fw312.keep K314 nin0).other W317 (Or.inr (slot_ne (Or.inr (tw hw 18 rfl)) (Or.inr (tw hw 17 rfl)) (by decide) (t := .byte) (t' := (.array .byte)) (by decide) (by decide))))
    have ne320 : x ≠ t314 := Nat.ne_of_lt (Nat.lt_of_lt_of_le (Nat.lt_of_lt_of_le E_x.lt (Keep.of_wr W312).1) tg314)
    have f321 := (Vt314.other W317 (Ne.symm ne320))
    refine own_fin (v := none) X317 (fun _ => rfl) hlk (fun fs hr => X317.returnOut hx hrt (hb hby d42_150_97) hr) (QQ := QSt Z x cs h0 n0) ?_ (by decide) (by decide)
    rw [e317]
    exact ⟨t314, _, _, _, _, rfl, N317, f318, Fw317, f319, f321, Or.inl ⟨rfl, rfl, rfl, hall⟩⟩
  · subst cd0
    refine og (fun _ k => XS.aloadN X0.here hx rfl (hb hby d42_150_0) rfl rfl k) ?_
    obtain ⟨T322, X322, e322, st322⟩ := initO X0 hx hZ hown (tw hw 12 rfl) (tw hw 13 rfl) (tw hw 14 rfl) e0 (g := (mkF m 1 #[.val (.ref x), .val (.ref b), .val .null, .unset, .unset] [(.ref x)])) rfl (by rw [hml]; rfl) rfl (hb hby d42_150_1) (by decide) (W := 0) (by show 2 * 0 + _ ≤ _; exact Nat.le_of_eq rfl) (by decide)
    refine own_go st322 ?_
    try dsimp only [mkF]
    refine og (fun _ k => XS.aloadN X322.here hx rfl (hb hby d42_150_4) rfl rfl k) ?_
    obtain ⟨cq323, kq323, q323a, q323b, q323c⟩ := isOf hZ e322 E_b
    obtain ⟨v323, _, ⟨T323, L323, k323, n323⟩, -, X323, ⟨Lc323, hQ323, l323, y323, z323⟩, st323⟩ := X322.virtualBack hx (y := (⟨"java/lang/AbstractStringBuilder", "getValue", "()[B"⟩ : MethodName)) (z := (⟨"java/lang/AbstractStringBuilder", "getValue", "()[B"⟩ : MethodName)) hown (mvT hZ (tw hw 119 rfl)) (mvT hZ (tw hw 120 rfl)) (notFace_of_selects (args := #[]) (mvT hZ (tw hw 122 rfl))) (mvT hZ (tw hw 122 rfl)) (mvT hZ (tw hw 121 rfl)) (by decide) (backOf (W := 0) (rm_gv l Z a0 hw [] b v h0 n0 O0 E_b Fv_b) hZ (tw hw 123 rfl) (tw hw 51 rfl) (by decide) (by decide)) q323a q323c (g := (mkF m 5 #[.val (.ref x), .val (.ref b), .val .null, .unset, .unset] [(.ref b)])) rfl (by rw [hml]; rfl) (Steps.refl _) (argsL := []) (rest := []) (lenOf pd_26 rfl) rfl (by show 2 * 0 + _ ≤ _; exact Nat.le_of_eq rfl) (hb hby d42_150_5) (fun _ _ => ⟨rfl, e322, (by decide : 0 + 0 ≤ _), (by decide : 0 + 0 ≤ _)⟩)
    dsimp only [Pt.U, Pt.locs, Pt.cells, Pt.slots] at X323 l323 y323 z323 st323 hQ323
    subst l323 y323 z323
    refine own_gos st323 ?_
    obtain ⟨rfl, Nq323, e323⟩ := hQ323
    have N323 := Fr.app N0 Nq323
    refine og (fun _ k => XS.astoreN X323.here hx rfl (hb hby d42_150_8) rfl rfl (l' := #[.val (.ref x), .val (.ref b), .val .null, .val (.ref v), .unset]) rfl k) ?_
    refine og (fun _ k => XS.aloadN X323.here hx rfl (hb hby d42_150_9) rfl rfl k) ?_
    obtain ⟨cq324, kq324, q324a, q324b, q324c⟩ := isOf hZ e323 E_b
    obtain ⟨v324, _, ⟨T324, L324, k324, n324⟩, -, X324, ⟨Lc324, hQ324, l324, y324, z324⟩, st324⟩ := X323.virtualBack hx (y := (⟨"java/lang/AbstractStringBuilder", "length", "()I"⟩ : MethodName)) (z := (⟨"java/lang/StringBuilder", "length", "()I"⟩ : MethodName)) hown (mvT hZ (tw hw 124 rfl)) (mvT hZ (tw hw 125 rfl)) (own_nf (args := #[]) (mvT hZ (tw hw 85 rfl)) rfl) (mvT hZ (tw hw 127 rfl)) (mvT hZ (tw hw 128 rfl)) (by decide) (backOf (W := 0) (rm_sl l Z a0 hw [] b (Int32.ofNat cs.length) h0 n0 O0 E_b Fn_b) hZ (tw hw 129 rfl) (tw hw 43 rfl) (by decide) (by decide)) q324a q324c (g := (mkF m 10 #[.val (.ref x), .val (.ref b), .val .null, .val (.ref v), .unset] [(.ref b)])) rfl (by rw [hml]; rfl) (Steps.refl _) (argsL := []) (rest := []) (lenOf pd_9 rfl) rfl (by show 2 * 0 + _ ≤ _; exact Nat.le_of_eq rfl) (hb hby d42_150_10) (fun _ _ => ⟨rfl, e323, (by decide : 0 + 0 ≤ _), (by decide : 0 + 0 ≤ _)⟩)
    dsimp only [Pt.U, Pt.locs, Pt.cells, Pt.slots] at X324 l324 y324 z324 st324 hQ324
    subst l324 y324 z324
    refine own_gos st324 ?_
    obtain ⟨rfl, Nq324, e324⟩ := hQ324
    have N324 := Fr.app N323 Nq324
    try dsimp only [mkF]
    refine og (fun _ k => XS.istore X324.here hx rfl (hb hby d42_150_13) rfl (l' := #[.val (.ref x), .val (.ref b), .val .null, .val (.ref v), .val (.int (Int32.ofNat cs.length))]) rfl k) ?_
    refine og (fun _ k => XS.aloadN X324.here hx rfl (hb hby d42_150_15) rfl rfl k) ?_
    obtain ⟨cq325, kq325, q325a, q325b, q325c⟩ := isOf hZ e324 E_b
    obtain ⟨v325, _, ⟨T325, L325, k325, n325⟩, -, X325, ⟨Lc325, hQ325, l325, y325, z325⟩, st325⟩ := X324.virtualBack hx (y := (⟨"java/lang/AbstractStringBuilder", "isLatin1", "()Z"⟩ : MethodName)) (z := (⟨"java/lang/AbstractStringBuilder", "isLatin1", "()Z"⟩ : MethodName)) hown (mvT hZ (tw hw 132 rfl)) (mvT hZ (tw hw 133 rfl)) (notFace_of_selects (args := #[]) (mvT hZ (tw hw 135 rfl))) (mvT hZ (tw hw 135 rfl)) (mvT hZ (tw hw 134 rfl)) (by decide) (backOf (W := 0) (rm_bl1 l Z a0 hw [] b G1 h0 n0 O0 E_b Fc_b O2 P5) hZ (tw hw 136 rfl) (tw hw 51 rfl) (by decide) (by decide)) q325a q325c (g := (mkF m 16 #[.val (.ref x), .val (.ref b), .val .null, .val (.ref v), .val (.int (Int32.ofNat cs.length))] [(.ref b)])) rfl (by rw [hml]; rfl) (Steps.refl _) (argsL := []) (rest := []) (lenOf pd_17 rfl) rfl (by show 2 * 0 + _ ≤ _; exact Nat.le_of_eq rfl) (hb hby d42_150_16) (fun _ _ => ⟨rfl, e324, (by decide : 0 + 0 ≤ _), (by decide : 0 + 0 ≤ _)⟩)
    dsimp only [Pt.U, Pt.locs, Pt.cells, Pt.slots] at X325 l325 y325 z325 st325 hQ325
    subst l325 y325 z325
    refine own_gos st325 ?_
    obtain ⟨rfl, Nq325, e325⟩ := hQ325
    have N325 := Fr.app N324 Nq325
    refine og (fun _ k => XS.ifYes X325.here hx rfl (pc0 := 19) (pc' := 41) rfl (hb hby d42_150_19) rfl ((if0 _ _).trans (teq (by decide : (0 : Int32) = (0 : Int32))).1) (by decide) (by decide) k) ?_
    obtain ⟨T326, X326, e326, st326⟩ := getS2 X325 hx hZ hown (host := "") (Or.inl (tw hw 23 rfl)) Via.refl e325 (O2.ext O0.2) (g := (mkF m 41 #[.val (.ref x), .val (.ref b), .val .null, .val (.ref v), .val (.int (Int32.ofNat cs.length))] [])) rfl (hb hby d42_150_41)
    refine own_go st326 ?_
    try dsimp only [mkF]
    refine og (fun _ k => XS.ifNo X326.here hx rfl (hb hby d42_150_44) rfl ((if0 _ _).trans (feq P5).1) k) ?_
    refine og (fun _ k => XS.aloadN X326.here hx rfl (hb hby d42_150_47) rfl rfl k) ?_
    obtain ⟨T327, X327, e327, st327⟩ := getF X326 hx hZ hown (host := "") (Or.inl (tw hw 288 rfl)) Via.refl e326 Fm_b (g := (mkF m 48 #[.val (.ref x), .val (.ref b), .val .null, .val (.ref v), .val (.int (Int32.ofNat cs.length))] [(.ref b)])) rfl rfl (hb hby d42_150_48)
    refine own_go st327 ?_
    refine og (fun _ k => XS.ifYes X327.here hx rfl (pc0 := 51) (pc' := 79) rfl (hb hby d42_150_51) rfl ((if0 _ _).trans (teq (by decide : (0 : Int32) = (0 : Int32))).1) (by decide) (by decide) k) ?_
    refine og (fun _ k => XS.aloadN X327.here hx rfl (hb hby d42_150_79) rfl rfl k) ?_
    try dsimp only [mkF]
    refine og (fun _ k => XS.iconst X327.here hx rfl (hb hby d42_150_80) k) ?_
    obtain ⟨T328, h328, X328, e328, W328, st328⟩ := putFN X327 hx hZ hown (tw hw 22 rfl) Via.refl e327 Fc_x E_x (Or.inr ⟨(tw hw 18 rfl), rfl, hnm⟩) (tw hw 2 rfl) (ty := .byte) (v' := (.int (1 : Int32))) (by decide) rfl rfl (g := (mkF m 81 #[.val (.ref x), .val (.ref b), .val .null, .val (.ref v), .val (.int (Int32.ofNat cs.length))] [(.int (1 : Int32)), (.ref x)])) rfl rfl (hb hby d42_150_81)
    refine own_go st328 ?_
    have N328 := Fr.snoc X328 N325 g_x
    have Fw328 := Fc_x.same W328
    refine og (fun _ k => XS.aloadN X328.here hx rfl (hb hby d42_150_84) rfl rfl k) ?_
    refine og (fun _ k => XS.aloadN X328.here hx rfl (hb hby d42_150_85) rfl rfl k) ?_
    refine og (fun _ k => XS.iconst X328.here hx rfl (hb hby d42_150_86) k) ?_
    try dsimp only [mkF]
    refine og (fun _ k => XS.iload X328.here hx rfl (hb hby d42_150_87) rfl k) ?_
    refine og (fun _ k => XS.iconst X328.here hx rfl (hb hby d42_150_89) k) ?_
    refine og (fun _ k => XS.ishl X328.here hx rfl (hb hby d42_150_90) rfl k) ?_
    show own_Go p e below (T328.setTop (mkF m 91 #[.val (.ref x), .val (.ref b), .val .null, .val (.ref v), .val (.int (Int32.ofNat cs.length))] [(.int ((Int32.ofNat cs.length) <<< ((1 : Int32) &&& 31))), (.int (0 : Int32)), (.ref v), (.ref x)])) _
    rw [own_shl1 (by omega : cs.length ≤ 4000)]
    have f329 := (V_v.other W328 (Ne.symm hxv))
    obtain ⟨v330, _, ⟨T330, L330, k330, n330⟩, -, X330, ⟨Lc330, hQ330, l330, y330, z330⟩, st330⟩ := Jvm.LawKit.callS X328 hx (y := (⟨"java/util/Arrays", "copyOfRange", "([BII)[B"⟩ : MethodName)) hown (mvT hZ (tw hw 137 rfl)) (mvT hZ (tw hw 138 rfl)) (mvT hZ (tw hw 139 rfl)) (mvT hZ (tw hw 140 rfl)) (by decide) (backOf (W := 1) (rm_cor l Z a0 hw [] v kv (2 * M) (own_wM M cs) (2 * cs.length) (StrChars.Road.wideBytes cs) h328 n0 (O0.wr W328 g_x) f329 (by omega) (by omega) own_takeW (X_v.wr W328) (own_wMl hcM)) hZ (tw hw 140 rfl) (tw hw 139 rfl) (by decide) (by decide)) (g := (mkF m 91 #[.val (.ref x), .val (.ref b), .val .null, .val (.ref v), .val (.int (Int32.ofNat cs.length))] [(.int (Int32.ofNat (2 * cs.length))), (.int (0 : Int32)), (.ref v), (.ref x)])) rfl (by rw [hml]; rfl) (argsL := [(.ref v), (.int (0 : Int32)), (.int (Int32.ofNat (2 * cs.length)))]) (rest := [(.ref x)]) (lenOf pd_25 rfl) rfl (by show 2 * 0 + _ ≤ _; exact Nat.le_of_eq rfl) (hb hby d42_150_91) (fun _ _ => ⟨rfl, e328, (by decide : 0 + 1 ≤ _), (by decide : 0 + 70 ≤ _)⟩)
    dsimp only [Pt.U, Pt.locs, Pt.cells, Pt.slots] at X330 l330 y330 z330 st330 hQ330
    subst l330 y330 z330
    refine own_go st330 ?_
    obtain ⟨t330, kt330, rfl, Nq330, K330, tg330, Vt330⟩ := hQ330
    have N330 := Fr.app N328 Nq330
    try dsimp only [mkF]
    have f331 := ((Fv_x.other W328 (Or.inr (slot_ne (Or.inr (tw hw 17 rfl)) (Or.inr (tw hw 18 rfl)) (by decide) (t := (.array .byte)) (t' := .byte) (by decide) (by decide)))).keep K330 nin0)
    have f332 := ((E_x.wr W328).keep K330)
    obtain ⟨T333, h333, X333, e333, W333, st333⟩ := putF X330 hx hZ hown (host := "") (Or.inl (tw hw 21 rfl)) Via.refl (rfl : T330.heap = T330.heap) f331 f332 (Or.inr ⟨(tw hw 17 rfl), rfl, hnm⟩) (tw hw 2 rfl) (ty := (.array .byte)) (by decide) rfl rfl (g := (mkF m 94 #[.val (.ref x), .val (.ref b), .val .null, .val (.ref v), .val (.int (Int32.ofNat cs.length))] [(.ref t330), (.ref x)])) rfl rfl (hb hby d42_150_94)
    refine own_go st333 ?_
    have N333 := Fr.snoc X333 N330 g_x
    have Fw333 := f331.same W333
    have f334 := ((((Keep.refl h0 [x]).wr W328 (Or.inl (List.mem_of_getElem? (i := 0) rfl))).trans K330 all0).wr W333 (Or.inl (List.mem_of_getElem? (i := 0) rfl)))
    have f335 := ((Fw328.keep K330 nin0).other W333 (Or.inr (slot_ne (Or.inr (tw hw 18 rfl)) (Or.inr (tw hw 17 rfl)) (by decide) (t := .byte) (t' := (.array .byte)) (by decide) (by decide))))
    have ne336 : x ≠ t330 := Nat.ne_of_lt (Nat.lt_of_lt_of_le (Nat.lt_of_lt_of_le E_x.lt (Keep.of_wr W328).1) tg330)
    have f337 := (Vt330.other W333 (Ne.symm ne336))
    refine own_fin (v := none) X333 (fun _ => rfl) hlk (fun fs hr => X333.returnOut hx hrt (hb hby d42_150_97) hr) (QQ := QSt Z x cs h0 n0) ?_ (by decide) (by decide)
    rw [e333]
    exact ⟨t330, _, _, _, _, rfl, N333, f334, Fw333, f335, f337, (hex.elim fun c hc => Or.inr ⟨rfl, rfl, rfl, c, hc.1, hc.2⟩)⟩

abbrev k42_53 := jdk_42_method_53_code
theorem d42_53_0 : Dk k42_53 0 (.aload_n 0) 1 := own_k
theorem d42_53_1 : Dk k42_53 1 (.aload_n 1) 1 := own_k
theorem d42_53_2 : Dk k42_53 2 .aconst_null 1 := own_k
theorem d42_53_3 : Dk k42_53 3 (.invokespecial 489) 3 := own_k
theorem pd_27 : parseMethodDescriptor "(Ljava/lang/AbstractStringBuilder;Ljava/lang/Void;)V" = some ⟨[(.object "java/lang/AbstractStringBuilder"), (.object "java/lang/Void")], none⟩ := by decide +kernel
theorem d42_53_6 : Dk k42_53 6 .return_ 1 := own_k
theorem ef_rm_sis (m : MethodId) (x0 : Addr) (x1 : Addr) : entryFrame m #[(.ref x0), (.ref x1)] 2 = mkF m 0 #[.val (.ref x0), .val (.ref x1)] [] := by
   first | (simp [entryFrame, mkF, argsToLocals, Value.category]; done) | rfl
set_option maxRecDepth 65536 in
set_option maxHeartbeats 40000000 in
theorem rm_sis (l : Launch) (Z : State) (a0 : Array Value) (hw : ∀ d ∈ tables_1, d.before a0 Z = true) (ws : List Jvm.Cond) (x b v : Addr) (kv : ClassId) (M : Nat) (cd : Int32) (cs : List Int32) (G1 : Int32) (G3 : Value) (h0 : Heap) (n0 : Nat) (O0 : Old Z n0 h0) (O2 : Sta Z Z.heap "java/lang/String" "COMPACT_STRINGS" "Z" (.int G1)) (P5 : ¬ (G1 = (0 : Int32))) (O4 : Sta Z Z.heap "jdk/internal/util/Preconditions" "SIOOBE_FORMATTER" "Ljava/util/function/BiFunction;" G3) (rG3 : G3.isRef = true) (OA : Sta Z Z.heap "java/lang/StringUTF16" "$assertionsDisabled" "Z" (.int (1 : Int32))) (OH : Sta Z Z.heap "java/lang/StringUTF16" "HI_BYTE_SHIFT" "I" (.int (0 : Int32))) (OL : Sta Z Z.heap "java/lang/StringUTF16" "LO_BYTE_SHIFT" "I" (.int (8 : Int32))) (E_x : Exa Z h0 x "java/lang/String") (Fv_x : Fld Z h0 x "java/lang/String" "value" "[B" .null) (Fc_x : Fld Z h0 x "java/lang/String" "coder" "B" (.int (0 : Int32))) (g_x : n0 ≤ x) (E_b : Exa Z h0 b "java/lang/StringBuilder") (Fv_b : Fld Z h0 b "java/lang/AbstractStringBuilder" "value" "[B" (.ref v)) (Fc_b : Fld Z h0 b "java/lang/AbstractStringBuilder" "coder" "B" (.int cd)) (Fn_b : Fld Z h0 b "java/lang/AbstractStringBuilder" "count" "I" (.int (Int32.ofNat cs.length))) (Fm_b : Fld Z h0 b "java/lang/AbstractStringBuilder" "maybeLatin1" "Z" (.int (0 : Int32))) (V_v : Arv Z h0 v kv .byte (own_zN cd M) (own_zV cd M cs) (.int (0 : Int32))) (X_v : Exa Z h0 v "[B") (hcd : own_cdi cd cs) (hcM : cs.length ≤ M) (hM34 : M ≤ 34) (hxb : x ≠ b) :
    MetFree l (⟨"java/lang/String", "<init>", "(Ljava/lang/StringBuilder;)V"⟩ : MethodName) (head1 (Jvm.Cond.code (⟨"java/lang/String", "<init>", "(Ljava/lang/StringBuilder;)V"⟩ : MethodName) jdk_42_method_53_code 2 none :: ws) ⟨4, 1, 70, 65⟩) (fun aA U => aA = #[(.ref x), (.ref b)] ∧ Z.Warmed39 U.vm ∧ U.heap = h0) (fun _ _ _ _ _ => True) (fun _ U oO U' => ∃ rV rL, oO = .returned rV ∧ QSt Z x cs h0 n0 rV U'.heap rL ∧ FrameEnd U oO U' rL 1 70) := by
  refine MetFree.of_bodySF (plainFor_of_name pn_0) hisR ?_
  intro p e s m args below meth cC s₁ Bd hml0 hP hK
  obtain ⟨rfl, hZ, hh⟩ := hP
  have hx := Bd.exec
  have hby := Bd.bytes
  have hml : cC.maxLocals = 2 := hml0
  have hown : s.vm.findClass "java/lang/String" = some m.cls := findClass_of_methodNamed Bd.named
  have hnm := (name_of_methodNamed Bd.named Bd.method).1
  have hrt := Bd.returns
  have hlk : meth.locks = false := Bd.notSynchronized
  have X0 : Stand p l e ⟨4, 1, 70, 65⟩ s m #[(.ref x), (.ref b)] below meth cC s₁ [] 0 0 := Stand.of_body Bd
  have e0 : s₁.heap = h0 := by rw [← hh, Bd.state]; rfl
  have N0 := Fr.nil n0
  have Z0 : n0 ≤ h0.size := O0.1 ▸ O0.2.1
  show own_Go p e below (s₁.setTop (entryFrame m #[(.ref x), (.ref b)] 2)) (fun oO U' => ∃ rV rL, oO = .returned rV ∧ QSt Z x cs h0 n0 rV U'.heap rL ∧ FrameEnd s oO U' rL 1 70)
  refine own_go (fun _ k => castTop (ef_rm_sis m x b) k) ?_
  have hxv := Exa.neArv E_x V_v (tw hw 2 rfl)
  refine og (fun _ k => XS.aloadN X0.here hx rfl (hb hby d42_53_0) rfl rfl k) ?_
  refine og (fun _ k => XS.aloadN X0.here hx rfl (hb hby d42_53_1) rfl rfl k) ?_
  refine og (fun _ k => XS.aconstNull X0.here hx rfl (hb hby d42_53_2) k) ?_
  obtain ⟨v338, _, ⟨T338, L338, k338, n338⟩, -, X338, ⟨Lc338, hQ338, l338, y338, z338⟩, st338⟩ := X0.specialBack hx (y := (⟨"java/lang/String", "<init>", "(Ljava/lang/AbstractStringBuilder;Ljava/lang/Void;)V"⟩ : MethodName)) rfl hown (mvT hZ (tw hw 116 rfl)) (mvT hZ (tw hw 117 rfl)) (mvT hZ (tw hw 118 rfl)) (by decide) (backOf (W := 0) (rm_sia l Z a0 hw [] x b v kv M cd cs G1 G3 h0 n0 O0 O2 P5 O4 rG3 OA OH OL E_x Fv_x Fc_x g_x E_b Fv_b Fc_b Fn_b Fm_b V_v X_v hcd hcM hM34 hxb) hZ (tw hw 118 rfl) (tw hw 3 rfl) (by decide) (by decide)) (g := (mkF m 3 #[.val (.ref x), .val (.ref b)] [.null, (.ref b), (.ref x)])) rfl (by rw [hml]; rfl) (Steps.refl _) (a := x) (argsL := [(.ref b), .null]) (rest := []) (lenOf pd_27 rfl) rfl (by show 2 * 0 + _ ≤ _; exact Nat.le_of_eq rfl) (hb hby d42_53_3) (fun _ _ => ⟨rfl, e0, (by decide : 0 + 1 ≤ _), (by decide : 0 + 70 ≤ _)⟩)
  dsimp only [Pt.U, Pt.locs, Pt.cells, Pt.slots] at X338 l338 y338 z338 st338 hQ338
  subst l338 y338 z338
  refine own_gos st338 ?_
  obtain ⟨t338, kt338, cd338, N2338, vs338, rfl, Nq338, K338, Fv338, Fc338, Vt338, hC338⟩ := hQ338
  have N338 := Fr.app N0 Nq338
  try dsimp only [mkF]
  have f339 := ((Keep.refl h0 [x]).trans K338 (allS (Or.inl (List.mem_of_getElem? (i := 0) rfl)) all0))
  refine own_fin (v := none) X338 (fun _ => rfl) hlk (fun fs hr => X338.returnOut hx hrt (hb hby d42_53_6) hr) (QQ := QSt Z x cs h0 n0) ?_ (by decide) (by decide)
  exact ⟨t338, _, _, _, _, rfl, N338, f339, Fv338, Fc338, Vt338, hC338⟩

abbrev k67_42 := jdk_67_method_42_code
theorem d67_42_0 : Dk k67_42 0 (.new 18) 3 := own_k
theorem d67_42_3 : Dk k67_42 3 .dup 1 := own_k
theorem d67_42_4 : Dk k67_42 4 (.aload_n 0) 1 := own_k
theorem d67_42_5 : Dk k67_42 5 (.invokespecial 137) 3 := own_k
theorem pd_28 : parseMethodDescriptor "(Ljava/lang/StringBuilder;)V" = some ⟨[(.object "java/lang/StringBuilder")], none⟩ := by decide +kernel
theorem d67_42_8 : Dk k67_42 8 .areturn 1 := own_k
theorem ef_rm_tos (m : MethodId) (x0 : Addr) : entryFrame m #[(.ref x0)] 1 = mkF m 0 #[.val (.ref x0)] [] := by
   first | (simp [entryFrame, mkF, argsToLocals, Value.category]; done) | rfl
set_option maxRecDepth 65536 in
set_option maxHeartbeats 40000000 in
theorem rm_tos (l : Launch) (Z : State) (a0 : Array Value) (hw : ∀ d ∈ tables_1, d.before a0 Z = true) (ws : List Jvm.Cond) (b v : Addr) (kv : ClassId) (M : Nat) (cd : Int32) (cs : List Int32) (G1 : Int32) (G3 : Value) (h0 : Heap) (n0 : Nat) (O0 : Old Z n0 h0) (O2 : Sta Z Z.heap "java/lang/String" "COMPACT_STRINGS" "Z" (.int G1)) (P5 : ¬ (G1 = (0 : Int32))) (O4 : Sta Z Z.heap "jdk/internal/util/Preconditions" "SIOOBE_FORMATTER" "Ljava/util/function/BiFunction;" G3) (rG3 : G3.isRef = true) (OA : Sta Z Z.heap "java/lang/StringUTF16" "$assertionsDisabled" "Z" (.int (1 : Int32))) (OH : Sta Z Z.heap "java/lang/StringUTF16" "HI_BYTE_SHIFT" "I" (.int (0 : Int32))) (OL : Sta Z Z.heap "java/lang/StringUTF16" "LO_BYTE_SHIFT" "I" (.int (8 : Int32))) (E_b : Exa Z h0 b "java/lang/StringBuilder") (Fv_b : Fld Z h0 b "java/lang/AbstractStringBuilder" "value" "[B" (.ref v)) (Fc_b : Fld Z h0 b "java/lang/AbstractStringBuilder" "coder" "B" (.int cd)) (Fn_b : Fld Z h0 b "java/lang/AbstractStringBuilder" "count" "I" (.int (Int32.ofNat cs.length))) (Fm_b : Fld Z h0 b "java/lang/AbstractStringBuilder" "maybeLatin1" "Z" (.int (0 : Int32))) (V_v : Arv Z h0 v kv .byte (own_zN cd M) (own_zV cd M cs) (.int (0 : Int32))) (X_v : Exa Z h0 v "[B") (hcd : own_cdi cd cs) (hcM : cs.length ≤ M) (hM34 : M ≤ 34) :
    MetFree l (⟨"java/lang/StringBuilder", "toString", "()Ljava/lang/String;"⟩ : MethodName) (head1 (Jvm.Cond.code (⟨"java/lang/StringBuilder", "toString", "()Ljava/lang/String;"⟩ : MethodName) jdk_67_method_42_code 1 (some (.object "java/lang/String")) :: ws) ⟨5, 2, 74, 79⟩) (fun aA U => aA = #[(.ref b)] ∧ Z.Warmed39 U.vm ∧ U.heap = h0) (fun _ _ _ _ _ => True) (fun _ U oO U' => ∃ rV rL, oO = .returned rV ∧ QStrN Z cs h0 n0 rV U'.heap rL ∧ FrameEnd U oO U' rL 2 74) := by
  refine MetFree.of_bodySF (plainFor_of_name pn_3) hisR ?_
  intro p e s m args below meth cC s₁ Bd hml0 hP hK
  obtain ⟨rfl, hZ, hh⟩ := hP
  have hx := Bd.exec
  have hby := Bd.bytes
  have hml : cC.maxLocals = 1 := hml0
  have hown : s.vm.findClass "java/lang/StringBuilder" = some m.cls := findClass_of_methodNamed Bd.named
  have hnm := (name_of_methodNamed Bd.named Bd.method).1
  have hrt := Bd.returns
  have hlk : meth.locks = false := Bd.notSynchronized
  have X0 : Stand p l e ⟨5, 2, 74, 79⟩ s m #[(.ref b)] below meth cC s₁ [] 0 0 := Stand.of_body Bd
  have e0 : s₁.heap = h0 := by rw [← hh, Bd.state]; rfl
  have N0 := Fr.nil n0
  have Z0 : n0 ≤ h0.size := O0.1 ▸ O0.2.1
  show own_Go p e below (s₁.setTop (entryFrame m #[(.ref b)] 1)) (fun oO U' => ∃ rV rL, oO = .returned rV ∧ QStrN Z cs h0 n0 rV U'.heap rL ∧ FrameEnd s oO U' rL 2 74)
  refine own_go (fun _ k => castTop (ef_rm_tos m b) k) ?_
  obtain ⟨T340, h340, X340, e340, E340, A340, D340, U340, st340⟩ := newO X0 hx hZ hown (tw hw 112 rfl) (tw hw 2 rfl) (tw hw 3 rfl) e0 (g := (mkF m 0 #[.val (.ref b)] [])) rfl (hb hby d67_42_0) (by decide) (by decide)
  obtain ⟨b340, g340⟩ : ∃ z, z = h0.size := ⟨_, rfl⟩
  rw [← g340] at A340 D340 U340 st340
  refine own_go st340 ?_
  have F340_value : Fld Z h340 b340 "java/lang/String" "value" "[B" .null := D340 (Or.inr (tw hw 17 rfl)) (ty := (.array .byte)) (by decide)
  have F340_coder : Fld Z h340 b340 "java/lang/String" "coder" "B" (.int (0 : Int32)) := D340 (Or.inr (tw hw 18 rfl)) (ty := .byte) (by decide)
  refine og (fun _ k => XS.dup X340.here hx rfl (hb hby d67_42_3) rfl rfl k) ?_
  refine og (fun _ k => XS.aloadN X340.here hx rfl (hb hby d67_42_4) rfl rfl k) ?_
  have ne341 : b ≠ b340 := Nat.ne_of_lt (Nat.lt_of_lt_of_le E_b.lt (Nat.le_of_eq g340.symm))
  obtain ⟨v342, _, ⟨T342, L342, k342, n342⟩, -, X342, ⟨Lc342, hQ342, l342, y342, z342⟩, st342⟩ := X340.specialBack hx (y := (⟨"java/lang/String", "<init>", "(Ljava/lang/StringBuilder;)V"⟩ : MethodName)) rfl hown (mvT hZ (tw hw 113 rfl)) (mvT hZ (tw hw 114 rfl)) (mvT hZ (tw hw 115 rfl)) (by decide) (backOf (W := 1) (rm_sis l Z a0 hw [] b340 b v kv M cd cs G1 G3 h340 n0 (O0.ext E340) O2 P5 O4 rG3 OA OH OL A340 F340_value F340_coder (Nat.le_trans Z0 (Nat.le_of_eq g340.symm)) (E_b.ext E340) (Fv_b.ext E340) (Fc_b.ext E340) (Fn_b.ext E340) (Fm_b.ext E340) (V_v.ext E340) (X_v.ext E340) hcd hcM hM34 (Ne.symm ne341)) hZ (tw hw 115 rfl) (tw hw 3 rfl) (by decide) (by decide)) (g := (mkF m 5 #[.val (.ref b)] [(.ref b), (.ref b340), (.ref b340)])) rfl (by rw [hml]; rfl) (Steps.refl _) (a := b340) (argsL := [(.ref b)]) (rest := [(.ref b340)]) (lenOf pd_28 rfl) rfl (by show 2 * 0 + _ ≤ _; exact Nat.le_of_eq rfl) (hb hby d67_42_5) (fun _ _ => ⟨rfl, e340, (by decide : 1 + 1 ≤ _), (by decide : 4 + 70 ≤ _)⟩)
  dsimp only [Pt.U, Pt.locs, Pt.cells, Pt.slots] at X342 l342 y342 z342 st342 hQ342
  subst l342 y342 z342
  refine own_gos st342 ?_
  obtain ⟨t342, kt342, cd342, N2342, vs342, rfl, Nq342, K342, Fv342, Fc342, Vt342, hC342⟩ := hQ342
  have N342 := Fr.app N0 Nq342
  try dsimp only [mkF]
  have f343 := (((Keep.refl h0 []).ext E340).trans K342 (allS (Or.inr (Nat.le_of_eq g340.symm)) all0))
  refine own_fin (v := (some (.ref b340))) X342 (fun h => by rw [hrt] at h; cases h) hlk (fun fs hr => retR X342 hx hrt (by rfl) rfl rfl (hb hby d67_42_8) hr) (QQ := QStrN Z cs h0 n0) ?_ (by decide) (by decide)
  exact ⟨b340, t342, _, _, _, _, rfl, N342, f343, (Nat.le_of_eq g340.symm), (A340.keep K342), Fv342, Fc342, Vt342, hC342⟩

abbrev k78_6 := jdk_78_method_6_code
theorem d78_6_0 : Dk k78_6 0 (.aload_n 0) 1 := own_k
theorem d78_6_1 : Dk k78_6 1 (.getfield 31) 3 := own_k
theorem d78_6_4 : Dk k78_6 4 .areturn 1 := own_k
theorem pn_8 : plainName "java/lang/Throwable" = true := by first | (simp [plainName, overriddenIn]; done) | decide +kernel
theorem ef_rm_gm (m : MethodId) (x0 : Addr) : entryFrame m #[(.ref x0)] 1 = mkF m 0 #[.val (.ref x0)] [] := by
   first | (simp [entryFrame, mkF, argsToLocals, Value.category]; done) | rfl
set_option maxRecDepth 65536 in
set_option maxHeartbeats 40000000 in
theorem rm_gm (l : Launch) (Z : State) (a0 : Array Value) (hw : ∀ d ∈ tables_1, d.before a0 Z = true) (ws : List Jvm.Cond) (a1 x : Addr) (h0 : Heap) (n0 : Nat) (O0 : Old Z n0 h0) (E_a : Exa Z h0 a1 "com/example/cohortwise/cohortwise/cli/InputRefusedException") (F_m : Fld Z h0 a1 "java/lang/Throwable" "detailMessage" "Ljava/lang/String;" (.ref x)) :
    MetFree l (⟨"java/lang/Throwable", "getMessage", "()Ljava/lang/String;"⟩ : MethodName) (head1 (Jvm.Cond.code (⟨"java/lang/Throwable", "getMessage", "()Ljava/lang/String;"⟩ : MethodName) jdk_78_method_6_code 1 (some (.object "java/lang/String")) :: ws) ⟨0, 0, 0, 0⟩) (fun aA U => aA = #[(.ref a1)] ∧ Z.Warmed39 U.vm ∧ U.heap = h0) (fun _ _ _ _ _ => True) (fun _ U oO U' => ∃ rV rL, oO = .returned rV ∧ QPure (some (.ref x)) h0 n0 rV U'.heap rL ∧ FrameEnd U oO U' rL 0 0) := by
  refine MetFree.of_bodySF (plainFor_of_name pn_8) hisR ?_
  intro p e s m args below meth cC s₁ Bd hml0 hP hK
  obtain ⟨rfl, hZ, hh⟩ := hP
  have hx := Bd.exec
  have hby := Bd.bytes
  have hml : cC.maxLocals = 1 := hml0
  have hown : s.vm.findClass "java/lang/Throwable" = some m.cls := findClass_of_methodNamed Bd.named
  have hnm := (name_of_methodNamed Bd.named Bd.method).1
  have hrt := Bd.returns
  have hlk : meth.locks = false := Bd.notSynchronized
  have X0 : Stand p l e ⟨0, 0, 0, 0⟩ s m #[(.ref a1)] below meth cC s₁ [] 0 0 := Stand.of_body Bd
  have e0 : s₁.heap = h0 := by rw [← hh, Bd.state]; rfl
  have N0 := Fr.nil n0
  have Z0 : n0 ≤ h0.size := O0.1 ▸ O0.2.1
  show own_Go p e below (s₁.setTop (entryFrame m #[(.ref a1)] 1)) (fun oO U' => ∃ rV rL, oO = .returned rV ∧ QPure (some (.ref x)) h0 n0 rV U'.heap rL ∧ FrameEnd s oO U' rL 0 0)
  refine own_go (fun _ k => castTop (ef_rm_gm m a1) k) ?_
  refine og (fun _ k => XS.aloadN X0.here hx rfl (hb hby d78_6_0) rfl rfl k) ?_
  obtain ⟨T344, X344, e344, st344⟩ := getF X0 hx hZ hown (host := "") (Or.inl (tw hw 208 rfl)) Via.refl e0 F_m (g := (mkF m 1 #[.val (.ref a1)] [(.ref a1)])) rfl rfl (hb hby d78_6_1)
  refine own_go st344 ?_
  refine own_fin (v := (some (.ref x))) X344 (fun h => by rw [hrt] at h; cases h) hlk (fun fs hr => retR X344 hx hrt (by rfl) rfl rfl (hb hby d78_6_4) hr) (QQ := QPure (some (.ref x)) h0 n0) ?_ (by decide) (by decide)
  rw [e344]
  exact ⟨rfl, N0, rfl⟩

def own_Wd (args : Array Value) (s : State) : Prop := ∀ (k : Nat) (d : Jvm.Cond), tables_1[k]? = some d → xOk d = true → d.holds args s none s [] = true
theorem own_wdAt {Z s : State} {a0 args : Array Value} (hw : ∀ d ∈ tables_1, d.before a0 Z = true) (hT : ThS Z s.heap) (hZ : Z.Warmed39 s.vm) : own_Wd args s := fun k d hd ok => mvX hT hZ ok (hw d (List.mem_of_getElem? hd))
set_option maxRecDepth 65536 in
set_option maxHeartbeats 4000000 in
theorem own_thr {args : Array Value} {s : State} {pl : Platform} (q1 : pl.frameOwnsMonitors = true) (q2 : pl.finalization = false) (q3 : pl.magicAccessors = ({} : Platform).magicAccessors) (w : own_Wd args s) :
    ∃ T : ThrowableC, T.Links pl s ∧ s.vm.findClass tN = some T.cT ∧ s.methodNamed? tFill = some T.fill ∧ s.methodNamed? tFill0 = some T.fill0 ∧ s.fieldFound? tN "stackTrace" steD = some (T.cT, T.kT, T.i17, T.fStack) ∧ s.fieldFound? tN "UNASSIGNED_STACK" steD = some (T.cT, T.kT, T.i13, T.fUnassigned) ∧ T.fStack.type = .array (.object "java/lang/StackTraceElement") := by
  obtain ⟨⟨c, iN⟩, mN, nN, gN, pN1, pN2, pN3, pN4⟩ := Cond.native_spec (w 191 (.native tFill0) (by decide +kernel) rfl)
  have hc : s.vm.findClass tN = some c := findClass_of_methodNamed nN
  obtain ⟨k, hk, kn⟩ := Vm.findClass_spec hc
  have hin := Cond.initialized_spec hc hk (w 170 (.initialized tN) (by decide +kernel) rfl)
  obtain ⟨_, k', _, _, hk', _, _, _, _, hni⟩ := Cond.superclass_spec hc (w 188 (.superclass tN "java/lang/Object") (by decide +kernel) rfl)
  cases Option.some.inj (hk.symm.trans hk')
  obtain ⟨iF, mF, nF, gF, aF, sF, bF, -, -⟩ := Cond.ownMethod (x := tFill) hc hk (w 183 (.instanceMethod tFill) (by decide +kernel) rfl)
  obtain ⟨mF', cF, gF', eF, yF, lF, rF, kF, -, sgF⟩ := Cond.codeSync_spec nF (w 189 (.codeSync tFill LibCode.Throwable.Fill.code 1 (some (.object tN))) (by decide +kernel) rfl)
  cases Option.some.inj (gF.symm.trans gF')
  obtain ⟨iN', mN', nN', gN', aN, sN, bN, naN, deN⟩ := Cond.ownMethod (x := tFill0) hc hk (w 190 (.instanceMethod tFill0) (by decide +kernel) rfl)
  cases Option.some.inj (nN.symm.trans nN')
  cases Option.some.inj (gN.symm.trans gN')
  obtain ⟨mo, mO, nO, gO, sO, bO⟩ := Cond.instanceMethod_spec (w 13 (.instanceMethod oInit) (by decide +kernel) rfl)
  obtain ⟨mO', cO, gO', eO, yO, lO, -, kO, -, sgO⟩ := Cond.code_spec nO (w 14 (.code oInit ⟨#[0xb1]⟩ 1 none) (by decide +kernel) rfl)
  cases Option.some.inj (gO.symm.trans gO')
  obtain ⟨ko, hko, kno⟩ := Vm.findClass_spec (findClass_of_methodNamed nO)
  obtain ⟨naO, deO⟩ := name_of_methodNamed nO gO
  obtain ⟨ci1, nt1, cf1, lk1, rt1, fe1, pl1⟩ := Cond.linkedMethod hc hk nO (w 172 (.methodLink tN 1 oInit) (by decide +kernel) rfl) pl q3
  obtain ⟨ci27, nt27, cf27, lk27, rt27, fe27, pl27⟩ := Cond.linkedMethod hc hk nF (w 181 (.methodLink tN 27 tFill) (by decide +kernel) rfl) pl q3
  cases Option.some.inj (fe1.symm.trans fe27)
  obtain ⟨ci202, nt202, cf202, lk202, rt202, fe202, pl202⟩ := Cond.linkedMethod hc hk nN (w 194 (.methodLink tN 202 tFill0) (by decide +kernel) rfl) pl q3
  cases Option.some.inj (fe1.symm.trans fe202)
  obtain ⟨ciCa, ixCa, fCa, lkCa, rtCa, atCa, isCa, nfCa, naCa, tyCa, ffCa⟩ := Cond.ownField (t := .object tN) hc hk (by decide +kernel) (w 173 (.fieldLink tN 7 tN "cause" "Ljava/lang/Throwable;") (by decide +kernel) rfl) (w 174 (.lays "com/example/cohortwise/cohortwise/cli/InputRefusedException" tN "cause" "Ljava/lang/Throwable;") (by decide +kernel) rfl) pl q3
  obtain ⟨ciSt, ixSt, fSt, lkSt, rtSt, atSt, isSt, nfSt, naSt, tySt, ffSt⟩ := Cond.ownField (t := .array (.object "java/lang/StackTraceElement")) hc hk (by decide +kernel) (w 176 (.fieldLink tN 17 tN "stackTrace" "[Ljava/lang/StackTraceElement;") (by decide +kernel) rfl) (w 177 (.lays "com/example/cohortwise/cohortwise/cli/InputRefusedException" tN "stackTrace" "[Ljava/lang/StackTraceElement;") (by decide +kernel) rfl) pl q3
  obtain ⟨ciSu, ixSu, fSu, lkSu, rtSu, atSu, isSu, nfSu, naSu, tySu, ffSu⟩ := Cond.ownField (t := .object "java/util/List") hc hk (by decide +kernel) (w 179 (.fieldLink tN 24 tN "suppressedExceptions" "Ljava/util/List;") (by decide +kernel) rfl) (w 180 (.lays "com/example/cohortwise/cohortwise/cli/InputRefusedException" tN "suppressedExceptions" "Ljava/util/List;") (by decide +kernel) rfl) pl q3
  obtain ⟨ciUn, ixUn, fUn, adUn, ceUn, lkUn, rtUn, atUn, isUn, naUn, tyUn, saUn, hcUn, iSUn, -, -, ffUn⟩ := Cond.ownStatic (t := .array (.object "java/lang/StackTraceElement")) hc hk (by decide +kernel) (w 175 (.fieldLink tN 13 tN "UNASSIGNED_STACK" "[Ljava/lang/StackTraceElement;") (by decide +kernel) rfl) (w 201 (.laysStatic tN "UNASSIGNED_STACK" "[Ljava/lang/StackTraceElement;") (by decide +kernel) rfl) pl q3
  obtain ⟨ciSe, ixSe, fSe, adSe, ceSe, lkSe, rtSe, atSe, isSe, naSe, tySe, saSe, hcSe, iSSe, -, -, ffSe⟩ := Cond.ownStatic (t := .object "java/util/List") hc hk (by decide +kernel) (w 178 (.fieldLink tN 20 tN "SUPPRESSED_SENTINEL" "Ljava/util/List;") (by decide +kernel) rfl) (w 202 (.laysStatic tN "SUPPRESSED_SENTINEL" "Ljava/util/List;") (by decide +kernel) rfl) pl q3
  obtain ⟨_, _, _, _, _, fM, _, _, _, isM, nfM, _⟩ := Cond.lays_spec (w 204 (.lays "com/example/cohortwise/cohortwise/cli/InputRefusedException" tN "detailMessage" "Ljava/lang/String;") (by decide +kernel) rfl)
  obtain ⟨cr, kr, _, _, _, _, hcr, hkr, _⟩ := Cond.lays_spec (w 177 (.lays "com/example/cohortwise/cohortwise/cli/InputRefusedException" tN "stackTrace" "[Ljava/lang/StackTraceElement;") (by decide +kernel) rfl)
  obtain ⟨_, d1, hd1, he1⟩ := Cond.laysAt hcr hkr ffSt (w 177 (.lays "com/example/cohortwise/cohortwise/cli/InputRefusedException" tN "stackTrace" "[Ljava/lang/StackTraceElement;") (by decide +kernel) rfl)
  obtain ⟨_, d2, hd2, he2⟩ := Cond.laysAt hcr hkr ffSu (w 180 (.lays "com/example/cohortwise/cohortwise/cli/InputRefusedException" tN "suppressedExceptions" "Ljava/util/List;") (by decide +kernel) rfl)
  have ap := Cond.laysApart hd1 hd2 he1 he2 (by rw [naSt, naSu]; decide)
  have paF : mF.sig.parameters = [] := by
    have z : (parseMethodDescriptor tFill.desc).map (·.parameters) = some [] := by decide +kernel
    rw [sgF] at z; simpa using z
  have paN : mN.sig.parameters = [.int] := by
    have z : (parseMethodDescriptor tFill0.desc).map (·.parameters) = some [.int] := by decide +kernel
    rw [pN4] at z; simpa using z
  have paO : mO.sig.parameters = [] := by
    have z : (parseMethodDescriptor oInit.desc).map (·.parameters) = some [] := by decide +kernel
    rw [sgO] at z; simpa using z
  refine ⟨{ cT := c, kT := k, cO := c, aS := adUn, fillIdx := iF, fill0Idx := iN, initSIdx := iF, obj := mo, kObj := ko, methFill := mF, methFill0 := mN, methInitS := mF, methObj := mO, codeFill := cF, codeInitS := cF, codeObj := cO, fBack := fCa, fDepth := fCa, fStack := fSt, fCause := fCa, fSupp := fSu, fMsg := fM, fUnassigned := fUn, fSentinel := fSe, cfT := cf1, ci1 := ci1, n1 := nt1, ci27 := ci27, n27 := nt27, ci202 := ci202, n202 := nt202, ci7 := ciCa, i7 := ixCa, ci13 := ciUn, i13 := ixUn, ci17 := ciSt, i17 := ixSt, ci20 := ciSe, i20 := ixSe, ci24 := ciSu, i24 := ixSu }, ?_, hc, nF, nN, ffSt, ffUn, tySt⟩
  constructor <;> first | assumption | (rw [paO]; rfl) | exact Vm.findClass_boot hc hk | (rw [deO]; exact lookupSpecial_of_named nO gO sO)
theorem own_keepS {p : Program} {l : Launch} {e : Env} {R : Room} {s : State} {m : MethodId} {args : Array Value} {below : List Frame} {meth : Method} {c : Code} {T : State} {locs : List Loc} {cells slots : Nat} (X : Stand p l e R s m args below meth c T locs cells slots) {a : Addr} (hL : ∀ x ∈ locs, x.base = a) : Keep s.heap T.heap [a] := by
  have K : ∀ y cy, s.heap[y]? = some cy → ∃ c' : Cell, T.heap[y]? = some c' ∧ c' = { cy with slots := c'.slots } ∧ c'.slots.size = cy.slots.size ∧ ∀ i, (⟨y, i⟩ : Loc) ∉ locs → c'.slots[i]? = cy.slots[i]? := fun y cy hy => X.same.2.2.2.2.2 y cy hy
  refine ⟨?_, fun y cy hy hn => ?_, fun y cy hy => ?_⟩
  · rcases Nat.eq_zero_or_pos s.heap.size with z | z
    · omega
    · obtain ⟨c', q, -⟩ := K (s.heap.size - 1) _ (Array.getElem?_eq_getElem (by omega))
      have := (Array.getElem?_eq_some_iff.mp q).1
      omega
  · obtain ⟨c', q1, q2, q3, q4⟩ := K y cy hy
    have : c'.slots = cy.slots := Array.ext_getElem? fun i => q4 i fun hm => hn (by rw [show y = a from hL _ hm]; exact List.mem_singleton.mpr rfl)
    rw [q1, q2, this]
  · obtain ⟨c', q1, q2, q3, -⟩ := K y cy hy
    exact ⟨c', q1, by rw [q2], by rw [q2], q3⟩
set_option maxRecDepth 65536 in
set_option maxHeartbeats 8000000 in
theorem own_fill {p : Program} {l : Launch} {e : Env} {R : Room} {s : State} {m : MethodId} {args : Array Value} {below : List Frame} {meth : Method} {c : Code} {T : State} {locs : List Loc} {cells slots : Nat} {Z : State} {a0 : Array Value} {h : Heap} (X : Stand p l e R s m args below meth c T locs cells slots) (hx : p.tables.exec = Jvm.exec) (hl : l.stackTraces = true) (hZ : Z.Warmed39 s.vm) (hw : ∀ d ∈ tables_1, d.before a0 Z = true) (hown : s.vm.findClass tN = some m.cls) (hT0 : ThS Z s.heap) (hTK : s.vm.MethodsKnown) (hBelow : s.vm.FramesKnown below)
    (eT : T.heap = h) {a : Addr} (E : Exa Z h a "com/example/cohortwise/cohortwise/cli/InputRefusedException") (N : Unt h a) (B : Fld Z h a tN "backtrace" obD .null) {u : Value} (hu : u.isRef = true) (F : Fld Z h a tN "stackTrace" steD u) (S : Sta Z h tN "UNASSIGNED_STACK" steD u) (hL : ∀ x ∈ locs, x.base = a)
    {g : JFrame} (hg : g.method = m) (hsize : g.locals.size = c.maxLocals) {rest : List Value} (hs : g.stack = .ref a :: rest) (hd : decode c.code g.pc = .ok (.invokevirtual 27, 3)) (hf : 3 ≤ R.frames) (hlo : 2 * g.monitorRoom + (rest.map fun v => v.category).sum + 42 ≤ R.locals) (hc : cells + 1 ≤ R.cells) (hsl : slots + 2752 ≤ R.slots) :
    ∃ (T' : State) (L : List Loc) (h' : Heap) (v : Value), Stand p l e R s m args below meth c T' (locs ++ L) (cells + 1) (slots + 2752) ∧ T'.heap = h' ∧ Keep s.heap h' [a] ∧ (∀ x ∈ L, x.base = a) ∧ Exa Z h' a "com/example/cohortwise/cohortwise/cli/InputRefusedException" ∧ Fld Z h' a tN "detailMessage" msgD v ∧
      ∀ target, Steps p.tables e below (T'.setTop { g with pc := g.pc + 3, stack := .ref a :: rest }) target → Steps p.tables e below (T.setTop g) target := by
  have w : own_Wd args s := own_wdAt hw hT0 hZ
  have pl := X.admits.platform
  have hpl : e.platform.magicAccessors = ({} : Platform).magicAccessors := by rw [pl]
  obtain ⟨TT, L, fT, nF, nN, ffS, ffU, tyS⟩ := own_thr (pl := e.platform) (by rw [pl]) (by rw [pl]) hpl w
  obtain ⟨cell, kc, h1, h2, h3, h4, h5⟩ := id E
  obtain ⟨c2, u1, u2, u3⟩ := N
  cases h1.symm.trans u1
  obtain ⟨c4, k2, i1, i2, i3, -⟩ := Cond.instantiable_spec (tw hw 39 rfl)
  cases h2.symm.trans i1
  cases h3.symm.trans i2
  obtain ⟨kX, hkX, ek⟩ := hZ.alike.2.2 _ _ h3
  have hord : kX.kind = .ordinary := by rw [ek]; exact i3
  have hsz : cell.slots.size = kX.instanceTypes.size := by rw [ek]; exact h5 i3
  have hfound : s.vm.findClass "com/example/cohortwise/cohortwise/cli/InputRefusedException" = some cell.cls := by rw [hZ.alike.findClass]; exact h2
  have tk : ∀ {f : Field} {v : Value}, kX.instanceTypes[f.slot]? = some f.type → fits f.type v = true → Jvm.Takes s cell f v := fun {f v} a1 a2 => by
    obtain ⟨q1, q2⟩ := Takes.of_laid (v := v) hkX hord a1 a2
    exact ⟨by rw [hsz]; simpa using q1, by rw [u2]; exact q2⟩
  have mvf : ∀ {n d : String} {cf : ClassId} {k : Class} {i : Nat} {f : Field}, Z.fieldFound? tN n d = some (cf, k, i, f) → ∃ k', s.fieldFound? tN n d = some (cf, k', i, f) ∧ k'.statics = k.statics := fun hh => by
    obtain ⟨k', z1, z2⟩ := State.fieldFound?_setVm (s := Z) hZ.alike hh
    exact ⟨k', z1, by rw [z2]⟩
  obtain ⟨cb, _, _, _, fB0, b1, b2, -, -, -, -, b7⟩ := B
  cases h1.symm.trans b1
  obtain ⟨_, b2', -⟩ := mvf b2
  obtain ⟨ciB, ixB, fB, lkB, rtB, atB, isB, -, naB, tyB, ffB⟩ := Cond.ownField (t := .object "java/lang/Object") fT L.cls (by decide +kernel) (w 199 (.fieldLink tN 198 tN "backtrace" "Ljava/lang/Object;") (by decide +kernel) rfl) (w 205 (.lays "com/example/cohortwise/cohortwise/cli/InputRefusedException" tN "backtrace" "Ljava/lang/Object;") (by decide +kernel) rfl) e.platform hpl
  have eB : fB0 = fB := by cases b2'.symm.trans ffB; rfl
  rw [eB] at b7
  obtain ⟨cs, _, _, _, fS0, s1, s2, -, -, -, -, s7⟩ := F
  cases h1.symm.trans s1
  obtain ⟨_, s2', -⟩ := mvf s2
  cases s2'.symm.trans ffS
  obtain ⟨_, _, kU, fU, st, cellS, v1, -, -, v4, v5, v6, v7⟩ := S
  obtain ⟨kU', v1', vs⟩ := mvf v1
  cases v1'.symm.trans ffU
  cases Option.some.inj ((vs.trans v4).symm.trans L.statics)
  have hne : TT.aS ≠ a := fun z => by
    rw [z] at v5
    cases h1.symm.trans v5
    rw [u2] at v6; cases v6
  have hknS : cellS.vm ≠ .unknown := fun z => by rw [z] at v6; cases v6
  obtain ⟨_, _, cD, kD, ixD, fD, _, _, ffD, isD, -, -, -, -⟩ := Cond.lays_spec (w 206 (.lays "com/example/cohortwise/cohortwise/cli/InputRefusedException" tN "depth" "I") (by decide +kernel) rfl)
  cases Option.some.inj ((Cond.lays_declared (w 206 (.lays "com/example/cohortwise/cohortwise/cli/InputRefusedException" tN "depth" "I") (by decide +kernel) rfl) ffD).symm.trans fT)
  obtain ⟨hkD, atD⟩ := State.fieldFound?_spec ffD
  cases Option.some.inj (hkD.symm.trans L.cls)
  obtain ⟨naD, tyD⟩ := State.fieldFound?_type ffD (t := .int) (by decide +kernel)
  have hfb := Cond.soleField_find fT L.cls (w 186 (.soleField tN "backtrace") (by decide +kernel) rfl) atB naB isB
  have hfd := Cond.soleField_find fT L.cls (w 187 (.soleField tN "depth") (by decide +kernel) rfl) atD naD isD
  obtain ⟨comp, cOb, kOb, -, -, hkOb, hkind, hOb⟩ := Cond.arrayOver_spec (w 185 (.arrayOver (.object "java/lang/Object")) (by decide +kernel) rfl)
  obtain ⟨laS, -⟩ := Cond.laysAt hfound hkX ffS (w 177 (.lays "com/example/cohortwise/cohortwise/cli/InputRefusedException" tN "stackTrace" "[Ljava/lang/StackTraceElement;") (by decide +kernel) rfl)
  obtain ⟨laB, -⟩ := Cond.laysAt hfound hkX ffB (w 205 (.lays "com/example/cohortwise/cohortwise/cli/InputRefusedException" tN "backtrace" "Ljava/lang/Object;") (by decide +kernel) rfl)
  obtain ⟨laD, -⟩ := Cond.laysAt hfound hkX ffD (w 206 (.lays "com/example/cohortwise/cohortwise/cli/InputRefusedException" tN "depth" "I") (by decide +kernel) rfl)
  have hsel : selectMethod e.platform s.vm cell.cls TT.fill0 = .method TT.fill0 := by
    obtain ⟨c2, r2, m2, y1, y2, y3, y4, -⟩ := Cond.selects_spec (w 203 (.selects "com/example/cohortwise/cohortwise/cli/InputRefusedException" tFill0 tFill0) (by decide +kernel) rfl)
    cases Option.some.inj (y1.symm.trans hfound)
    cases Option.some.inj (y2.symm.trans (State.methodFound?_of_named nN (by decide)))
    cases Option.some.inj (y3.symm.trans nN)
    rw [Launch.admits_selectMethod X.admits]; exact y4
  have hSE := (w 184 (.selects "com/example/cohortwise/cohortwise/cli/InputRefusedException" tFill tFill) (by decide +kernel) rfl)
  obtain ⟨v6, vm6, ⟨T6, L6, c6, n6⟩, -, X6, ⟨hv6, C6, n, hn, hD6, y1, y2, y3, y4, hL6, hc6, hn6⟩, st6⟩ := X.virtualBack hx (own := tN) (C := "com/example/cohortwise/cohortwise/cli/InputRefusedException") (index := 27) (y := tFill) (z := tFill) hown (w 181 (.methodLink tN 27 tFill) (by decide +kernel) rfl) (w 182 (.declares tFill) (by decide +kernel) rfl) (notFace_of_selects hSE) hSE (w 183 (.instanceMethod tFill) (by decide +kernel) rfl) (by decide)
    (fillPaysAny (l := l) (W := 2 * g.monitorRoom + (rest.map fun v => v.category).sum) hx (by rw [pl]; exact hl) TT L nF (u0 := ⟨u, hu⟩) (self := a) (cell := cell) (cellS := cellS) (fun _ => by rw [u2]; simp) (by rw [u2]; simp) (by rw [u3]) (by rw [u3]) s7 hsel hne hknS v7 (tk laS (by rw [tyS]; exact fits_refV_array _ ⟨u, hu⟩))
      ⟨{ ci198 := ciB, i198 := ixB, fBack := fB }, ⟨lkB, rtB, atB, isB⟩, b7⟩ hTK hBelow fT hOb hkOb hkind hfb hfd (fun x => tk laB (by rw [tyB]; rfl)) (fun x => tk laD (by rw [tyD]; rfl)) (by omega) (by omega))
    (b := a) (cB := cell.cls) hfound ⟨cell, by rw [eT]; exact h1, rfl, h4⟩ hg hsize (Steps.refl _) (argsL := []) (rest := rest)
    (fun sig z => by rw [show parseMethodDescriptor tFill.desc = some ⟨[], some (.object tN)⟩ from by decide +kernel] at z; rw [← Option.some.inj z]; rfl) hs (Nat.le_refl _) hd
    (fun vmx hWx => ⟨rfl, hc, hsl, by rw [← h1, ← eT]; rfl, by rw [← v5, ← eT]; rfl⟩)
  dsimp only [Pt.U, Pt.locs, Pt.cells, Pt.slots] at X6 hD6 hL6 hc6 hn6 st6
  subst hv6 hL6 hc6 hn6
  have hb : ∀ x ∈ [(⟨a, fB.slot⟩ : Loc), ⟨a, fD.slot⟩, ⟨a, TT.fStack.slot⟩], x.base = a := fun x hx => by
    simp only [List.mem_cons, List.not_mem_nil, or_false] at hx
    rcases hx with rfl | rfl | rfl <;> rfl
  have E6 : Exa Z T6.heap a "com/example/cohortwise/cohortwise/cli/InputRefusedException" := ⟨C6, _, hD6, by rw [y1]; exact h2, by rw [y1]; exact h3, by rw [y2]; exact h4, by rw [y3]; exact h5⟩
  obtain ⟨vM, FM⟩ := fld_laid (O := tN) (n := "detailMessage") (d := msgD) E6 ⟨C6, hD6, by rw [y2, u2]; simp⟩ (tw hw 39 rfl) (Or.inl (tw hw 204 rfl))
  exact ⟨T6, _, _, vM, X6.more (Nat.le_refl _) (Nat.add_le_add_left hn _), rfl, own_keepS X6 (fun x hx => (List.mem_append.mp hx).elim (hL x) (hb x)), hb, E6, FM, fun target q => st6.trans q⟩
def QExc (Z : State) (a mm : Addr) (h0 : Heap) (n0 : Nat) (v : Option Value) (h : Heap) (L : List Loc) : Prop := v = none ∧ Fr n0 L ∧ Keep h0 h [a] ∧ Exa Z h a "com/example/cohortwise/cohortwise/cli/InputRefusedException" ∧ Fld Z h a "java/lang/Throwable" "detailMessage" "Ljava/lang/String;" (.ref mm)
abbrev k78_2 := jdk_78_method_2_code
theorem d78_2_0 : Dk k78_2 0 (.aload_n 0) 1 := own_k
theorem d78_2_1 : Dk k78_2 1 (.invokespecial 1) 3 := own_k
theorem d78_2_4 : Dk k78_2 4 (.aload_n 0) 1 := own_k
theorem d78_2_5 : Dk k78_2 5 (.aload_n 0) 1 := own_k
theorem d78_2_6 : Dk k78_2 6 (.putfield 7) 3 := own_k
theorem d78_2_9 : Dk k78_2 9 (.aload_n 0) 1 := own_k
theorem d78_2_10 : Dk k78_2 10 (.getstatic 13) 3 := own_k
theorem d78_2_13 : Dk k78_2 13 (.putfield 17) 3 := own_k
theorem d78_2_16 : Dk k78_2 16 (.aload_n 0) 1 := own_k
theorem d78_2_17 : Dk k78_2 17 (.getstatic 20) 3 := own_k
theorem d78_2_20 : Dk k78_2 20 (.putfield 24) 3 := own_k
theorem d78_2_23 : Dk k78_2 23 (.aload_n 0) 1 := own_k
theorem d78_2_24 : Dk k78_2 24 (.invokevirtual 27) 3 := own_k
theorem d78_2_27 : Dk k78_2 27 .pop 1 := own_k
theorem d78_2_28 : Dk k78_2 28 (.aload_n 0) 1 := own_k
theorem d78_2_29 : Dk k78_2 29 (.aload_n 1) 1 := own_k
theorem d78_2_30 : Dk k78_2 30 (.putfield 31) 3 := own_k
theorem d78_2_33 : Dk k78_2 33 .return_ 1 := own_k
theorem ef_rm_ex0 (m : MethodId) (x0 : Addr) (x1 : Addr) : entryFrame m #[(.ref x0), (.ref x1)] 2 = mkF m 0 #[.val (.ref x0), .val (.ref x1)] [] := by
   first | (simp [entryFrame, mkF, argsToLocals, Value.category]; done) | rfl
set_option maxRecDepth 65536 in
set_option maxHeartbeats 40000000 in
theorem rm_ex0 (l : Launch) (Z : State) (a0 : Array Value) (hw : ∀ d ∈ tables_1, d.before a0 Z = true) (ws : List Jvm.Cond) (a mm : Addr) (h0 : Heap) (n0 : Nat) (O0 : Old Z n0 h0) (g_a : n0 ≤ a) (E_a : Exa Z h0 a "com/example/cohortwise/cohortwise/cli/InputRefusedException") (U_a : Unt h0 a) (F_ba : Fld Z h0 a "java/lang/Throwable" "backtrace" "Ljava/lang/Object;" .null) (F_ca : Fld Z h0 a "java/lang/Throwable" "cause" "Ljava/lang/Throwable;" .null) (F_st : Fld Z h0 a "java/lang/Throwable" "stackTrace" "[Ljava/lang/StackTraceElement;" .null) (F_su : Fld Z h0 a "java/lang/Throwable" "suppressedExceptions" "Ljava/util/List;" .null) (F_de : Fld Z h0 a "java/lang/Throwable" "detailMessage" "Ljava/lang/String;" .null) (hl : l.stackTraces = true) (hR2 : ∀ d ∈ twoRefs, d.before a0 Z = true) (hT0 : ThS Z h0) :
    MetFree l (⟨"java/lang/Throwable", "<init>", "(Ljava/lang/String;)V"⟩ : MethodName) (head1 (Jvm.Cond.code (⟨"java/lang/Throwable", "<init>", "(Ljava/lang/String;)V"⟩ : MethodName) jdk_78_method_2_code 2 none :: ws) ⟨3, 1, 2752, 42⟩) (fun aA U => aA = #[(.ref a), (.ref mm)] ∧ Z.Warmed39 U.vm ∧ U.heap = h0 ∧ CHv Z own_EL U.vm h0) (fun _ _ bl sK _ => sK.vm.MethodsKnown ∧ sK.vm.FramesKnown bl) (fun _ U oO U' => ∃ rV rL, oO = .returned rV ∧ QExc Z a mm h0 n0 rV U'.heap rL ∧ CHr Z own_EL U.vm U.heap U'.vm U'.heap ∧ ReturnedEndW U oO U' rL 1 2752) := by
  refine MetFree.of_bodySF (plainFor_of_name pn_8) hisR ?_
  intro p e s m args below meth cC s₁ Bd hml0 hP hK
  obtain ⟨rfl, hZ, hh, hC0⟩ := hP
  have hx := Bd.exec
  have hby := Bd.bytes
  have hml : cC.maxLocals = 2 := hml0
  have hown : s.vm.findClass "java/lang/Throwable" = some m.cls := findClass_of_methodNamed Bd.named
  have hnm := (name_of_methodNamed Bd.named Bd.method).1
  have hrt := Bd.returns
  have hlk : meth.locks = false := Bd.notSynchronized
  have X0 : Stand p l e ⟨3, 1, 2752, 42⟩ (s.setVm s.vm) m #[(.ref a), (.ref mm)] below meth cC s₁ [] 0 0 := Stand.of_body Bd
  have e0 : s₁.heap = h0 := by rw [← hh, Bd.state]; rfl
  have N0 := Fr.nil n0
  have Z0 : n0 ≤ h0.size := O0.1 ▸ O0.2.1
  obtain ⟨hTK, hBelow⟩ : s.vm.MethodsKnown ∧ s.vm.FramesKnown below := hK
  have hS0 : s.Since s.vm 0 := (State.WarmedH.refl s).since 0
  have C0 : CHr Z own_EL s.vm h0 s.vm h0 := CHr.refl hC0
  have own_wS := own_wSt hw
  have own_hEL := own_hELt hw
  show own_Go p e below (s₁.setTop (entryFrame m #[(.ref a), (.ref mm)] 2)) (fun oO U' => ∃ rV rL, oO = .returned rV ∧ QExc Z a mm h0 n0 rV U'.heap rL ∧ CHr Z own_EL s.vm s.heap U'.vm U'.heap ∧ ReturnedEndW s oO U' rL 1 2752)
  refine own_go (fun _ k => castTop (ef_rm_ex0 m a mm) k) ?_
  obtain ⟨uS, qS, rS⟩ := isR_v (Cond.before_iff.mp (hR2 _ (List.mem_cons_self ..)))
  have SS : Sta Z Z.heap "java/lang/Throwable" "UNASSIGNED_STACK" "[Ljava/lang/StackTraceElement;" uS := Sta.start qS (Or.inr ⟨(tw hw 170 rfl), (tw hw 201 rfl)⟩)
  obtain ⟨uL, qL, rL⟩ := isR_v (Cond.before_iff.mp (hR2 _ (List.mem_of_getElem? (i := 1) rfl)))
  have SL : Sta Z Z.heap "java/lang/Throwable" "SUPPRESSED_SENTINEL" "Ljava/util/List;" uL := Sta.start qL (Or.inr ⟨(tw hw 170 rfl), (tw hw 202 rfl)⟩)
  refine og (fun _ k => XS.aloadN X0.here hx rfl (hb hby d78_2_0) rfl rfl k) ?_
  obtain ⟨T345, X345, e345, st345⟩ := initO X0 hx hZ hown (tw hw 172 rfl) (tw hw 13 rfl) (tw hw 14 rfl) e0 (g := (mkF m 1 #[.val (.ref a), .val (.ref mm)] [(.ref a)])) rfl (by rw [hml]; rfl) rfl (hb hby d78_2_1) (by decide) (W := 0) (by show 2 * 0 + _ ≤ _; exact Nat.le_of_eq rfl) (by decide)
  refine own_go st345 ?_
  refine og (fun _ k => XS.aloadN X345.here hx rfl (hb hby d78_2_4) rfl rfl k) ?_
  refine og (fun _ k => XS.aloadN X345.here hx rfl (hb hby d78_2_5) rfl rfl k) ?_
  try dsimp only [mkF]
  obtain ⟨T346, h346, X346, e346, W346, st346⟩ := putF X345 hx hZ hown (host := "") (Or.inl (tw hw 173 rfl)) Via.refl e345 F_ca E_a (Or.inl (tw hw 174 rfl)) (tw hw 39 rfl) (ty := (.object "java/lang/Throwable")) (by decide) rfl rfl (g := (mkF m 6 #[.val (.ref a), .val (.ref mm)] [(.ref a), (.ref a)])) rfl rfl (hb hby d78_2_6)
  refine own_go st346 ?_
  have N346 := Fr.snoc X346 N0 g_a
  have C347 := C0.trans (CHr.wr W346 (Safe.exa hZ.alike E_a (by decide) (by decide)) C0.1)
  have Fw346 := F_ca.same W346
  refine og (fun _ k => XS.aloadN X346.here hx rfl (hb hby d78_2_9) rfl rfl k) ?_
  obtain ⟨T348, X348, e348, st348⟩ := getS2 X346 hx hZ hown (host := "") (Or.inl (tw hw 175 rfl)) Via.refl e346 (SS.ext (O0.wr W346 g_a).2) (g := (mkF m 10 #[.val (.ref a), .val (.ref mm)] [(.ref a)])) rfl (hb hby d78_2_10)
  refine own_go st348 ?_
  have f349 := (F_st.other W346 (Or.inr (slot_ne (Or.inl (tw hw 177 rfl)) (Or.inl (tw hw 174 rfl)) (by decide) (t := (.array (.object "java/lang/StackTraceElement"))) (t' := (.object "java/lang/Throwable")) (by decide) (by decide))))
  obtain ⟨T350, h350, X350, e350, W350, st350⟩ := putF X348 hx hZ hown (host := "") (Or.inl (tw hw 176 rfl)) Via.refl e348 f349 (E_a.wr W346) (Or.inl (tw hw 177 rfl)) (tw hw 39 rfl) (ty := (.array (.object "java/lang/StackTraceElement"))) (by decide) (narrow_isRef _ rS) (fits_refV_array _ ⟨uS, rS⟩) (g := (mkF m 13 #[.val (.ref a), .val (.ref mm)] [uS, (.ref a)])) rfl rfl (hb hby d78_2_13)
  refine own_go st350 ?_
  have N350 := Fr.snoc X350 N346 g_a
  have C351 := C347.trans (CHr.wr W350 (Safe.exa hZ.alike (E_a.wr W346) (by decide) (by decide)) C347.1)
  have Fw350 := f349.same W350
  refine og (fun _ k => XS.aloadN X350.here hx rfl (hb hby d78_2_16) rfl rfl k) ?_
  try dsimp only [mkF]
  have f352 := ((O0.wr W346 g_a).wr W350 g_a)
  obtain ⟨T353, X353, e353, st353⟩ := getS2 X350 hx hZ hown (host := "") (Or.inl (tw hw 178 rfl)) Via.refl e350 (SL.ext f352.2) (g := (mkF m 17 #[.val (.ref a), .val (.ref mm)] [(.ref a)])) rfl (hb hby d78_2_17)
  refine own_go st353 ?_
  have f354 := ((F_su.other W346 (Or.inr (slot_ne (Or.inl (tw hw 180 rfl)) (Or.inl (tw hw 174 rfl)) (by decide) (t := (.object "java/util/List")) (t' := (.object "java/lang/Throwable")) (by decide) (by decide)))).other W350 (Or.inr (slot_ne (Or.inl (tw hw 180 rfl)) (Or.inl (tw hw 177 rfl)) (by decide) (t := (.object "java/util/List")) (t' := (.array (.object "java/lang/StackTraceElement"))) (by decide) (by decide))))
  obtain ⟨T355, h355, X355, e355, W355, st355⟩ := putF X353 hx hZ hown (host := "") (Or.inl (tw hw 179 rfl)) Via.refl e353 f354 ((E_a.wr W346).wr W350) (Or.inl (tw hw 180 rfl)) (tw hw 39 rfl) (ty := (.object "java/util/List")) (by decide) (narrow_isRef _ rL) (fits_refV_object _ ⟨uL, rL⟩) (g := (mkF m 20 #[.val (.ref a), .val (.ref mm)] [uL, (.ref a)])) rfl rfl (hb hby d78_2_20)
  refine own_go st355 ?_
  have N355 := Fr.snoc X355 N350 g_a
  have C356 := C351.trans (CHr.wr W355 (Safe.exa hZ.alike ((E_a.wr W346).wr W350) (by decide) (by decide)) C351.1)
  have Fw355 := f354.same W355
  refine og (fun _ k => XS.aloadN X355.here hx rfl (hb hby d78_2_23) rfl rfl k) ?_
  have f357 := (((E_a.wr W346).wr W350).wr W355)
  have f358 := (Unt.wr W355 (Unt.wr W350 (Unt.wr W346 U_a)))
  have f359 := (((F_ba.other W346 (Or.inr (slot_ne (Or.inl (tw hw 205 rfl)) (Or.inl (tw hw 174 rfl)) (by decide) (t := (.object "java/lang/Object")) (t' := (.object "java/lang/Throwable")) (by decide) (by decide)))).other W350 (Or.inr (slot_ne (Or.inl (tw hw 205 rfl)) (Or.inl (tw hw 177 rfl)) (by decide) (t := (.object "java/lang/Object")) (t' := (.array (.object "java/lang/StackTraceElement"))) (by decide) (by decide)))).other W355 (Or.inr (slot_ne (Or.inl (tw hw 205 rfl)) (Or.inl (tw hw 180 rfl)) (by decide) (t := (.object "java/lang/Object")) (t' := (.object "java/util/List")) (by decide) (by decide))))
  have f360 := (Fw350.other W355 (Or.inr (slot_ne (Or.inl (tw hw 177 rfl)) (Or.inl (tw hw 180 rfl)) (by decide) (t := (.array (.object "java/lang/StackTraceElement"))) (t' := (.object "java/util/List")) (by decide) (by decide))))
  obtain ⟨T361, L361, h361, vM361, X361, e361, Kf361, hb361, Ex361, FM361, st361⟩ := own_fill X355 hx hl hZ hw hown (Eq.mpr (congrArg (ThS Z) hh) hT0) (Vm.MethodsKnown.alikeC hS0.1.alike hTK) (Vm.FramesKnown.alikeC hS0.1.alike hBelow) e355 f357 f358 f359 rS f360 (SS.ext (f352.wr W355 g_a).2) (fun x hx => by simp only [List.nil_append, List.mem_append, List.mem_cons, List.not_mem_nil, or_false, false_or] at hx; rcases hx with (rfl | rfl) | rfl <;> rfl) (g := (mkF m 24 #[.val (.ref a), .val (.ref mm)] [(.ref a)])) rfl (by rw [hml]; rfl) (rest := []) rfl (hb hby d78_2_24) (by decide) (by show 2 * 0 + 0 + 42 ≤ _; decide) (by decide) (by decide)
  refine own_go st361 ?_
  have N361 : Fr n0 _ := Fr.app N355 (fun y hy => by rw [hb361 y hy]; exact g_a)
  have Kq361 : Keep h0 h361 [a] := by rw [← hh]; exact Kf361
  have C362 := C0.trans (CHr.keep Kq361 (sfS (Safe.exa hZ.alike E_a (by decide) (by decide)) sf0) C0.1)
  refine og (fun _ k => XS.pop X361.here hx rfl (hb hby d78_2_27) rfl rfl k) ?_
  try dsimp only [mkF]
  refine og (fun _ k => XS.aloadN X361.here hx rfl (hb hby d78_2_28) rfl rfl k) ?_
  refine og (fun _ k => XS.aloadN X361.here hx rfl (hb hby d78_2_29) rfl rfl k) ?_
  obtain ⟨T363, h363, X363, e363, W363, st363⟩ := putF X361 hx hZ hown (host := "") (Or.inl (tw hw 208 rfl)) Via.refl e361 FM361 Ex361 (Or.inl (tw hw 204 rfl)) (tw hw 39 rfl) (ty := (.object "java/lang/String")) (by decide) rfl rfl (g := (mkF m 30 #[.val (.ref a), .val (.ref mm)] [(.ref mm), (.ref a)])) rfl rfl (hb hby d78_2_30)
  refine own_go st363 ?_
  have N363 := Fr.snoc X363 N361 g_a
  have C364 := C362.trans (CHr.wr W363 (Safe.exa hZ.alike Ex361 (by decide) (by decide)) C362.1)
  have Fw363 := FM361.same W363
  have f365 := (((Keep.refl h0 [a]).trans Kq361 (allS (Or.inl (List.mem_of_getElem? (i := 0) rfl)) all0)).wr W363 (Or.inl (List.mem_of_getElem? (i := 0) rfl)))
  refine own_finW (v := none) X363 hh hZ hS0 (by rw [e363]; exact (Nat.zero_le _)) (fun _ => rfl) hlk (fun fs hr => X363.returnOut hx hrt (hb hby d78_2_33) hr) (QQ := QExc Z a mm h0 n0) ?_ own_hEL e363 (C364) (by decide) (by decide)
  rw [e363]
  exact ⟨rfl, N363, f365, (Ex361.wr W363), Fw363⟩

abbrev k59_2 := jdk_59_method_2_code
theorem d59_2_0 : Dk k59_2 0 (.aload_n 0) 1 := own_k
theorem d59_2_1 : Dk k59_2 1 (.aload_n 1) 1 := own_k
theorem d59_2_2 : Dk k59_2 2 (.invokespecial 7) 3 := own_k
theorem d59_2_5 : Dk k59_2 5 .return_ 1 := own_k
theorem pn_9 : plainName "java/lang/Exception" = true := by first | (simp [plainName, overriddenIn]; done) | decide +kernel
theorem ef_rm_ex1 (m : MethodId) (x0 : Addr) (x1 : Addr) : entryFrame m #[(.ref x0), (.ref x1)] 2 = mkF m 0 #[.val (.ref x0), .val (.ref x1)] [] := by
   first | (simp [entryFrame, mkF, argsToLocals, Value.category]; done) | rfl
set_option maxRecDepth 65536 in
set_option maxHeartbeats 40000000 in
theorem rm_ex1 (l : Launch) (Z : State) (a0 : Array Value) (hw : ∀ d ∈ tables_1, d.before a0 Z = true) (ws : List Jvm.Cond) (a mm : Addr) (h0 : Heap) (n0 : Nat) (O0 : Old Z n0 h0) (g_a : n0 ≤ a) (E_a : Exa Z h0 a "com/example/cohortwise/cohortwise/cli/InputRefusedException") (U_a : Unt h0 a) (F_ba : Fld Z h0 a "java/lang/Throwable" "backtrace" "Ljava/lang/Object;" .null) (F_ca : Fld Z h0 a "java/lang/Throwable" "cause" "Ljava/lang/Throwable;" .null) (F_st : Fld Z h0 a "java/lang/Throwable" "stackTrace" "[Ljava/lang/StackTraceElement;" .null) (F_su : Fld Z h0 a "java/lang/Throwable" "suppressedExceptions" "Ljava/util/List;" .null) (F_de : Fld Z h0 a "java/lang/Throwable" "detailMessage" "Ljava/lang/String;" .null) (hl : l.stackTraces = true) (hR2 : ∀ d ∈ twoRefs, d.before a0 Z = true) (hT0 : ThS Z h0) :
    MetFree l (⟨"java/lang/Exception", "<init>", "(Ljava/lang/String;)V"⟩ : MethodName) (head1 (Jvm.Cond.code (⟨"java/lang/Exception", "<init>", "(Ljava/lang/String;)V"⟩ : MethodName) jdk_59_method_2_code 2 none :: ws) ⟨4, 1, 2752, 55⟩) (fun aA U => aA = #[(.ref a), (.ref mm)] ∧ Z.Warmed39 U.vm ∧ U.heap = h0 ∧ CHv Z own_EL U.vm h0) (fun _ _ bl sK _ => sK.vm.MethodsKnown ∧ sK.vm.FramesKnown bl) (fun _ U oO U' => ∃ rV rL, oO = .returned rV ∧ QExc Z a mm h0 n0 rV U'.heap rL ∧ CHr Z own_EL U.vm U.heap U'.vm U'.heap ∧ ReturnedEndW U oO U' rL 1 2752) := by
  refine MetFree.of_bodySF (plainFor_of_name pn_9) hisR ?_
  intro p e s m args below meth cC s₁ Bd hml0 hP hK
  obtain ⟨rfl, hZ, hh, hC0⟩ := hP
  have hx := Bd.exec
  have hby := Bd.bytes
  have hml : cC.maxLocals = 2 := hml0
  have hown : s.vm.findClass "java/lang/Exception" = some m.cls := findClass_of_methodNamed Bd.named
  have hnm := (name_of_methodNamed Bd.named Bd.method).1
  have hrt := Bd.returns
  have hlk : meth.locks = false := Bd.notSynchronized
  have X0 : Stand p l e ⟨4, 1, 2752, 55⟩ (s.setVm s.vm) m #[(.ref a), (.ref mm)] below meth cC s₁ [] 0 0 := Stand.of_body Bd
  have e0 : s₁.heap = h0 := by rw [← hh, Bd.state]; rfl
  have N0 := Fr.nil n0
  have Z0 : n0 ≤ h0.size := O0.1 ▸ O0.2.1
  obtain ⟨hTK, hBelow⟩ : s.vm.MethodsKnown ∧ s.vm.FramesKnown below := hK
  have hS0 : s.Since s.vm 0 := (State.WarmedH.refl s).since 0
  have C0 : CHr Z own_EL s.vm h0 s.vm h0 := CHr.refl hC0
  have own_wS := own_wSt hw
  have own_hEL := own_hELt hw
  show own_Go p e below (s₁.setTop (entryFrame m #[(.ref a), (.ref mm)] 2)) (fun oO U' => ∃ rV rL, oO = .returned rV ∧ QExc Z a mm h0 n0 rV U'.heap rL ∧ CHr Z own_EL s.vm s.heap U'.vm U'.heap ∧ ReturnedEndW s oO U' rL 1 2752)
  refine own_go (fun _ k => castTop (ef_rm_ex1 m a mm) k) ?_
  refine og (fun _ k => XS.aloadN X0.here hx rfl (hb hby d59_2_0) rfl rfl k) ?_
  refine og (fun _ k => XS.aloadN X0.here hx rfl (hb hby d59_2_1) rfl rfl k) ?_
  obtain ⟨v366, _, ⟨T366, L366, k366, n366⟩, -, X366, hS366, hg366, ⟨Lc366, hQ366, l366, y366, z366, A366⟩, st366⟩ := X0.specialBackS hx (y := (⟨"java/lang/Throwable", "<init>", "(Ljava/lang/String;)V"⟩ : MethodName)) rfl hown (mvT hZ (tw hw 166 rfl)) (mvT hZ (tw hw 167 rfl)) (mvT hZ (tw hw 171 rfl)) (by decide) (backOfSKH (W := 0) (rm_ex0 l Z a0 hw [] a mm h0 n0 O0 g_a E_a U_a F_ba F_ca F_st F_su F_de hl hR2 hT0) hZ (tw hw 171 rfl) (tw hw 170 rfl) (by decide) (by decide) own_hEL C0.1 (Vm.MethodsKnown.alikeC hS0.1.alike hTK) (Vm.FramesKnown.alikeC hS0.1.alike hBelow)) (g := (mkF m 2 #[.val (.ref a), .val (.ref mm)] [(.ref mm), (.ref a)])) rfl (by rw [hml]; rfl) (Steps.refl _) (a := a) (argsL := [(.ref mm)]) (rest := []) (lenOf pd_20 rfl) rfl (by show 2 * 0 + _ ≤ _; exact Nat.le_of_eq rfl) (hb hby d59_2_2) (fun _ _ => ⟨rfl, e0, (by decide : 0 + 1 ≤ _), (by decide : 0 + 2752 ≤ _)⟩)
  dsimp only [Pt.U, Pt.locs, Pt.cells, Pt.slots] at X366 l366 y366 z366 st366 hQ366 hS366 hg366 A366
  subst l366 y366 z366
  refine own_gos st366 ?_
  obtain ⟨X366, hS366, hZ366, hown366⟩ := rebS hS0 (k0 := _) (n1 := s₁.heap.size) (by rw [e0]; exact (Nat.zero_le _)) X366 hS366 hg366 hZ hown
  obtain ⟨rfl, Nq366, K366, Ea366, Fa366⟩ := hQ366
  have C367 := C0.trans A366
  have N366 := Fr.app N0 Nq366
  have f368 := ((Keep.refl h0 [a]).trans K366 (allS (Or.inl (List.mem_of_getElem? (i := 0) rfl)) all0))
  refine own_finW (v := none) X366 hh hZ366 hS366 (by rw [(rfl : T366.heap = T366.heap)]; exact (Nat.le_refl _)) (fun _ => rfl) hlk (fun fs hr => X366.returnOut hx hrt (hb hby d59_2_5) hr) (QQ := QExc Z a mm h0 n0) ?_ own_hEL (rfl : T366.heap = T366.heap) (C367) (by decide) (by decide)
  exact ⟨rfl, N366, f368, Ea366, Fa366⟩

abbrev k58_2 := jdk_58_method_2_code
theorem d58_2_0 : Dk k58_2 0 (.aload_n 0) 1 := own_k
theorem d58_2_1 : Dk k58_2 1 (.aload_n 1) 1 := own_k
theorem d58_2_2 : Dk k58_2 2 (.invokespecial 7) 3 := own_k
theorem d58_2_5 : Dk k58_2 5 .return_ 1 := own_k
theorem pn_10 : plainName "java/lang/RuntimeException" = true := by first | (simp [plainName, overriddenIn]; done) | decide +kernel
theorem ef_rm_ex2 (m : MethodId) (x0 : Addr) (x1 : Addr) : entryFrame m #[(.ref x0), (.ref x1)] 2 = mkF m 0 #[.val (.ref x0), .val (.ref x1)] [] := by
   first | (simp [entryFrame, mkF, argsToLocals, Value.category]; done) | rfl
set_option maxRecDepth 65536 in
set_option maxHeartbeats 40000000 in
theorem rm_ex2 (l : Launch) (Z : State) (a0 : Array Value) (hw : ∀ d ∈ tables_1, d.before a0 Z = true) (ws : List Jvm.Cond) (a mm : Addr) (h0 : Heap) (n0 : Nat) (O0 : Old Z n0 h0) (g_a : n0 ≤ a) (E_a : Exa Z h0 a "com/example/cohortwise/cohortwise/cli/InputRefusedException") (U_a : Unt h0 a) (F_ba : Fld Z h0 a "java/lang/Throwable" "backtrace" "Ljava/lang/Object;" .null) (F_ca : Fld Z h0 a "java/lang/Throwable" "cause" "Ljava/lang/Throwable;" .null) (F_st : Fld Z h0 a "java/lang/Throwable" "stackTrace" "[Ljava/lang/StackTraceElement;" .null) (F_su : Fld Z h0 a "java/lang/Throwable" "suppressedExceptions" "Ljava/util/List;" .null) (F_de : Fld Z h0 a "java/lang/Throwable" "detailMessage" "Ljava/lang/String;" .null) (hl : l.stackTraces = true) (hR2 : ∀ d ∈ twoRefs, d.before a0 Z = true) (hT0 : ThS Z h0) :
    MetFree l (⟨"java/lang/RuntimeException", "<init>", "(Ljava/lang/String;)V"⟩ : MethodName) (head1 (Jvm.Cond.code (⟨"java/lang/RuntimeException", "<init>", "(Ljava/lang/String;)V"⟩ : MethodName) jdk_58_method_2_code 2 none :: ws) ⟨5, 1, 2752, 68⟩) (fun aA U => aA = #[(.ref a), (.ref mm)] ∧ Z.Warmed39 U.vm ∧ U.heap = h0 ∧ CHv Z own_EL U.vm h0) (fun _ _ bl sK _ => sK.vm.MethodsKnown ∧ sK.vm.FramesKnown bl) (fun _ U oO U' => ∃ rV rL, oO = .returned rV ∧ QExc Z a mm h0 n0 rV U'.heap rL ∧ CHr Z own_EL U.vm U.heap U'.vm U'.heap ∧ ReturnedEndW U oO U' rL 1 2752) := by
  refine MetFree.of_bodySF (plainFor_of_name pn_10) hisR ?_
  intro p e s m args below meth cC s₁ Bd hml0 hP hK
  obtain ⟨rfl, hZ, hh, hC0⟩ := hP
  have hx := Bd.exec
  have hby := Bd.bytes
  have hml : cC.maxLocals = 2 := hml0
  have hown : s.vm.findClass "java/lang/RuntimeException" = some m.cls := findClass_of_methodNamed Bd.named
  have hnm := (name_of_methodNamed Bd.named Bd.method).1
  have hrt := Bd.returns
  have hlk : meth.locks = false := Bd.notSynchronized
  have X0 : Stand p l e ⟨5, 1, 2752, 68⟩ (s.setVm s.vm) m #[(.ref a), (.ref mm)] below meth cC s₁ [] 0 0 := Stand.of_body Bd
  have e0 : s₁.heap = h0 := by rw [← hh, Bd.state]; rfl
  have N0 := Fr.nil n0
  have Z0 : n0 ≤ h0.size := O0.1 ▸ O0.2.1
  obtain ⟨hTK, hBelow⟩ : s.vm.MethodsKnown ∧ s.vm.FramesKnown below := hK
  have hS0 : s.Since s.vm 0 := (State.WarmedH.refl s).since 0
  have C0 : CHr Z own_EL s.vm h0 s.vm h0 := CHr.refl hC0
  have own_wS := own_wSt hw
  have own_hEL := own_hELt hw
  show own_Go p e below (s₁.setTop (entryFrame m #[(.ref a), (.ref mm)] 2)) (fun oO U' => ∃ rV rL, oO = .returned rV ∧ QExc Z a mm h0 n0 rV U'.heap rL ∧ CHr Z own_EL s.vm s.heap U'.vm U'.heap ∧ ReturnedEndW s oO U' rL 1 2752)
  refine own_go (fun _ k => castTop (ef_rm_ex2 m a mm) k) ?_
  refine og (fun _ k => XS.aloadN X0.here hx rfl (hb hby d58_2_0) rfl rfl k) ?_
  refine og (fun _ k => XS.aloadN X0.here hx rfl (hb hby d58_2_1) rfl rfl k) ?_
  obtain ⟨v369, _, ⟨T369, L369, k369, n369⟩, -, X369, hS369, hg369, ⟨Lc369, hQ369, l369, y369, z369, A369⟩, st369⟩ := X0.specialBackS hx (y := (⟨"java/lang/Exception", "<init>", "(Ljava/lang/String;)V"⟩ : MethodName)) rfl hown (mvT hZ (tw hw 160 rfl)) (mvT hZ (tw hw 161 rfl)) (mvT hZ (tw hw 165 rfl)) (by decide) (backOfSKH (W := 0) (rm_ex1 l Z a0 hw [] a mm h0 n0 O0 g_a E_a U_a F_ba F_ca F_st F_su F_de hl hR2 hT0) hZ (tw hw 165 rfl) (tw hw 164 rfl) (by decide) (by decide) own_hEL C0.1 (Vm.MethodsKnown.alikeC hS0.1.alike hTK) (Vm.FramesKnown.alikeC hS0.1.alike hBelow)) (g := (mkF m 2 #[.val (.ref a), .val (.ref mm)] [(.ref mm), (.ref a)])) rfl (by rw [hml]; rfl) (Steps.refl _) (a := a) (argsL := [(.ref mm)]) (rest := []) (lenOf pd_20 rfl) rfl (by show 2 * 0 + _ ≤ _; exact Nat.le_of_eq rfl) (hb hby d58_2_2) (fun _ _ => ⟨rfl, e0, (by decide : 0 + 1 ≤ _), (by decide : 0 + 2752 ≤ _)⟩)
  dsimp only [Pt.U, Pt.locs, Pt.cells, Pt.slots] at X369 l369 y369 z369 st369 hQ369 hS369 hg369 A369
  subst l369 y369 z369
  refine own_gos st369 ?_
  obtain ⟨X369, hS369, hZ369, hown369⟩ := rebS hS0 (k0 := _) (n1 := s₁.heap.size) (by rw [e0]; exact (Nat.zero_le _)) X369 hS369 hg369 hZ hown
  obtain ⟨rfl, Nq369, K369, Ea369, Fa369⟩ := hQ369
  have C370 := C0.trans A369
  have N369 := Fr.app N0 Nq369
  have f371 := ((Keep.refl h0 [a]).trans K369 (allS (Or.inl (List.mem_of_getElem? (i := 0) rfl)) all0))
  refine own_finW (v := none) X369 hh hZ369 hS369 (by rw [(rfl : T369.heap = T369.heap)]; exact (Nat.le_refl _)) (fun _ => rfl) hlk (fun fs hr => X369.returnOut hx hrt (hb hby d58_2_5) hr) (QQ := QExc Z a mm h0 n0) ?_ own_hEL (rfl : T369.heap = T369.heap) (C370) (by decide) (by decide)
  exact ⟨rfl, N369, f371, Ea369, Fa369⟩

abbrev kq6_1 := prog_6_method_1_code
theorem dq6_1_0 : Dk kq6_1 0 (.aload_n 0) 1 := own_k
theorem dq6_1_1 : Dk kq6_1 1 (.aload_n 1) 1 := own_k
theorem dq6_1_2 : Dk kq6_1 2 (.invokespecial 1) 3 := own_k
theorem dq6_1_5 : Dk kq6_1 5 .return_ 1 := own_k
theorem pn_11 : plainName "com/example/cohortwise/cohortwise/cli/InputRefusedException" = true := by first | (simp [plainName, overriddenIn]; done) | decide +kernel
theorem ef_rm_ex3 (m : MethodId) (x0 : Addr) (x1 : Addr) : entryFrame m #[(.ref x0), (.ref x1)] 2 = mkF m 0 #[.val (.ref x0), .val (.ref x1)] [] := by
   first | (simp [entryFrame, mkF, argsToLocals, Value.category]; done) | rfl
set_option maxRecDepth 65536 in
set_option maxHeartbeats 40000000 in
theorem rm_ex3 (l : Launch) (Z : State) (a0 : Array Value) (hw : ∀ d ∈ tables_1, d.before a0 Z = true) (ws : List Jvm.Cond) (a mm : Addr) (h0 : Heap) (n0 : Nat) (O0 : Old Z n0 h0) (g_a : n0 ≤ a) (E_a : Exa Z h0 a "com/example/cohortwise/cohortwise/cli/InputRefusedException") (U_a : Unt h0 a) (F_ba : Fld Z h0 a "java/lang/Throwable" "backtrace" "Ljava/lang/Object;" .null) (F_ca : Fld Z h0 a "java/lang/Throwable" "cause" "Ljava/lang/Throwable;" .null) (F_st : Fld Z h0 a "java/lang/Throwable" "stackTrace" "[Ljava/lang/StackTraceElement;" .null) (F_su : Fld Z h0 a "java/lang/Throwable" "suppressedExceptions" "Ljava/util/List;" .null) (F_de : Fld Z h0 a "java/lang/Throwable" "detailMessage" "Ljava/lang/String;" .null) (hl : l.stackTraces = true) (hR2 : ∀ d ∈ twoRefs, d.before a0 Z = true) (hT0 : ThS Z h0) :
    MetFree l (⟨"com/example/cohortwise/cohortwise/cli/InputRefusedException", "<init>", "(Ljava/lang/String;)V"⟩ : MethodName) (head1 (Jvm.Cond.code (⟨"com/example/cohortwise/cohortwise/cli/InputRefusedException", "<init>", "(Ljava/lang/String;)V"⟩ : MethodName) prog_6_method_1_code 2 none :: ws) ⟨6, 1, 2752, 81⟩) (fun aA U => aA = #[(.ref a), (.ref mm)] ∧ Z.Warmed39 U.vm ∧ U.heap = h0 ∧ CHv Z own_EL U.vm h0) (fun _ _ bl sK _ => sK.vm.MethodsKnown ∧ sK.vm.FramesKnown bl) (fun _ U oO U' => ∃ rV rL, oO = .returned rV ∧ QExc Z a mm h0 n0 rV U'.heap rL ∧ CHr Z own_EL U.vm U.heap U'.vm U'.heap ∧ ReturnedEndW U oO U' rL 1 2752) := by
  refine MetFree.of_bodySF (plainFor_of_name pn_11) hisR ?_
  intro p e s m args below meth cC s₁ Bd hml0 hP hK
  obtain ⟨rfl, hZ, hh, hC0⟩ := hP
  have hx := Bd.exec
  have hby := Bd.bytes
  have hml : cC.maxLocals = 2 := hml0
  have hown : s.vm.findClass "com/example/cohortwise/cohortwise/cli/InputRefusedException" = some m.cls := findClass_of_methodNamed Bd.named
  have hnm := (name_of_methodNamed Bd.named Bd.method).1
  have hrt := Bd.returns
  have hlk : meth.locks = false := Bd.notSynchronized
  have X0 : Stand p l e ⟨6, 1, 2752, 81⟩ (s.setVm s.vm) m #[(.ref a), (.ref mm)] below meth cC s₁ [] 0 0 := Stand.of_body Bd
  have e0 : s₁.heap = h0 := by rw [← hh, Bd.state]; rfl
  have N0 := Fr.nil n0
  have Z0 : n0 ≤ h0.size := O0.1 ▸ O0.2.1
  obtain ⟨hTK, hBelow⟩ : s.vm.MethodsKnown ∧ s.vm.FramesKnown below := hK
  have hS0 : s.Since s.vm 0 := (State.WarmedH.refl s).since 0
  have C0 : CHr Z own_EL s.vm h0 s.vm h0 := CHr.refl hC0
  have own_wS := own_wSt hw
  have own_hEL := own_hELt hw
  show own_Go p e below (s₁.setTop (entryFrame m #[(.ref a), (.ref mm)] 2)) (fun oO U' => ∃ rV rL, oO = .returned rV ∧ QExc Z a mm h0 n0 rV U'.heap rL ∧ CHr Z own_EL s.vm s.heap U'.vm U'.heap ∧ ReturnedEndW s oO U' rL 1 2752)
  refine own_go (fun _ k => castTop (ef_rm_ex3 m a mm) k) ?_
  refine og (fun _ k => XS.aloadN X0.here hx rfl (hb hby dq6_1_0) rfl rfl k) ?_
  refine og (fun _ k => XS.aloadN X0.here hx rfl (hb hby dq6_1_1) rfl rfl k) ?_
  obtain ⟨v372, _, ⟨T372, L372, k372, n372⟩, -, X372, hS372, hg372, ⟨Lc372, hQ372, l372, y372, z372, A372⟩, st372⟩ := X0.specialBackS hx (y := (⟨"java/lang/RuntimeException", "<init>", "(Ljava/lang/String;)V"⟩ : MethodName)) rfl hown (mvT hZ (tw hw 155 rfl)) (mvT hZ (tw hw 156 rfl)) (mvT hZ (tw hw 159 rfl)) (by decide) (backOfSKH (W := 0) (rm_ex2 l Z a0 hw [] a mm h0 n0 O0 g_a E_a U_a F_ba F_ca F_st F_su F_de hl hR2 hT0) hZ (tw hw 159 rfl) (tw hw 158 rfl) (by decide) (by decide) own_hEL C0.1 (Vm.MethodsKnown.alikeC hS0.1.alike hTK) (Vm.FramesKnown.alikeC hS0.1.alike hBelow)) (g := (mkF m 2 #[.val (.ref a), .val (.ref mm)] [(.ref mm), (.ref a)])) rfl (by rw [hml]; rfl) (Steps.refl _) (a := a) (argsL := [(.ref mm)]) (rest := []) (lenOf pd_20 rfl) rfl (by show 2 * 0 + _ ≤ _; exact Nat.le_of_eq rfl) (hb hby dq6_1_2) (fun _ _ => ⟨rfl, e0, (by decide : 0 + 1 ≤ _), (by decide : 0 + 2752 ≤ _)⟩)
  dsimp only [Pt.U, Pt.locs, Pt.cells, Pt.slots] at X372 l372 y372 z372 st372 hQ372 hS372 hg372 A372
  subst l372 y372 z372
  refine own_gos st372 ?_
  obtain ⟨X372, hS372, hZ372, hown372⟩ := rebS hS0 (k0 := _) (n1 := s₁.heap.size) (by rw [e0]; exact (Nat.zero_le _)) X372 hS372 hg372 hZ hown
  obtain ⟨rfl, Nq372, K372, Ea372, Fa372⟩ := hQ372
  have C373 := C0.trans A372
  have N372 := Fr.app N0 Nq372
  have f374 := ((Keep.refl h0 [a]).trans K372 (allS (Or.inl (List.mem_of_getElem? (i := 0) rfl)) all0))
  refine own_finW (v := none) X372 hh hZ372 hS372 (by rw [(rfl : T372.heap = T372.heap)]; exact (Nat.le_refl _)) (fun _ => rfl) hlk (fun fs hr => X372.returnOut hx hrt (hb hby dq6_1_5) hr) (QQ := QExc Z a mm h0 n0) ?_ own_hEL (rfl : T372.heap = T372.heap) (C373) (by decide) (by decide)
  exact ⟨rfl, N372, f374, Ea372, Fa372⟩

def own_MS : List Int32 := [109, 105, 115, 115, 105, 110, 103, 32, 111, 112, 116, 105, 111, 110, 32]
theorem own_msl : ∀ c ∈ own_MS, ¬ (255 : Int32) < c := by decide
theorem own_okM : own_Ok own_MS := ⟨by decide, Nat.le_of_ble_eq_true rfl⟩
def QMiss (Z : State) (cs : List Int32) (h0 : Heap) (n0 : Nat) (v : Option Value) (h : Heap) (L : List Loc) : Prop := ∃ (a x t : Addr) (k : ClassId) (cd N2 : Int32) (vs : List Value), v = some (.ref a) ∧ Fr n0 L ∧ Keep h0 h [] ∧ Exa Z h a "com/example/cohortwise/cohortwise/cli/InputRefusedException" ∧ Fld Z h a "java/lang/Throwable" "detailMessage" "Ljava/lang/String;" (.ref x) ∧ Exa Z h x "java/lang/String" ∧ Fld Z h x "java/lang/String" "value" "[B" (.ref t) ∧ Fld Z h x "java/lang/String" "coder" "B" (.int cd) ∧ Arv Z h t k .byte N2 vs (.int (0 : Int32)) ∧ StrChars.Road.CodA cs cd N2 vs
abbrev kq1_5 := prog_1_method_5_code
theorem dq1_5_0 : Dk kq1_5 0 (.new 62) 3 := own_k
theorem dq1_5_3 : Dk kq1_5 3 .dup 1 := own_k
theorem dq1_5_4 : Dk kq1_5 4 (.new 64) 3 := own_k
theorem dq1_5_7 : Dk kq1_5 7 .dup 1 := own_k
theorem dq1_5_8 : Dk kq1_5 8 (.invokespecial 66) 3 := own_k
theorem dq1_5_11 : Dk kq1_5 11 (.ldc 142) 2 := own_k
theorem dq1_5_13 : Dk kq1_5 13 (.invokevirtual 69) 3 := own_k
theorem pd_29 : parseMethodDescriptor "(Ljava/lang/String;)Ljava/lang/StringBuilder;" = some ⟨[(.object "java/lang/String")], some (.object "java/lang/StringBuilder")⟩ := by decide +kernel
theorem dq1_5_16 : Dk kq1_5 16 (.aload_n 0) 1 := own_k
theorem dq1_5_17 : Dk kq1_5 17 (.invokevirtual 69) 3 := own_k
theorem dq1_5_20 : Dk kq1_5 20 (.invokevirtual 79) 3 := own_k
theorem pd_30 : parseMethodDescriptor "()Ljava/lang/String;" = some ⟨[], some (.object "java/lang/String")⟩ := by decide +kernel
theorem dq1_5_23 : Dk kq1_5 23 (.invokespecial 83) 3 := own_k
theorem dq1_5_26 : Dk kq1_5 26 .areturn 1 := own_k
theorem pn_12 : plainName "com/example/cohortwise/cohortwise/cli/Arguments" = true := by first | (simp [plainName, overriddenIn]; done) | decide +kernel
theorem ef_rm_mis (m : MethodId) (x0 : Addr) : entryFrame m #[(.ref x0)] 1 = mkF m 0 #[.val (.ref x0)] [] := by
   first | (simp [entryFrame, mkF, argsToLocals, Value.category]; done) | rfl
set_option maxRecDepth 65536 in
set_option maxHeartbeats 40000000 in
theorem rm_mis (l : Launch) (Z : State) (a0 : Array Value) (hw : ∀ d ∈ tables_1, d.before a0 Z = true) (ws : List Jvm.Cond) (x t : Addr) (kt : ClassId) (ts : List Int32) (cx Nx : Int32) (vx : List Value) (G1 : Int32) (G3 : Value) (h0 : Heap) (n0 : Nat) (O0 : Old Z n0 h0) (O2 : Sta Z Z.heap "java/lang/String" "COMPACT_STRINGS" "Z" (.int G1)) (P5 : ¬ (G1 = (0 : Int32))) (O4 : Sta Z Z.heap "jdk/internal/util/Preconditions" "SIOOBE_FORMATTER" "Ljava/util/function/BiFunction;" G3) (rG3 : G3.isRef = true) (OA : Sta Z Z.heap "java/lang/StringUTF16" "$assertionsDisabled" "Z" (.int (1 : Int32))) (OH : Sta Z Z.heap "java/lang/StringUTF16" "HI_BYTE_SHIFT" "I" (.int (0 : Int32))) (OL : Sta Z Z.heap "java/lang/StringUTF16" "LO_BYTE_SHIFT" "I" (.int (8 : Int32))) (E_x : Exa Z h0 x "java/lang/String") (Fv_x : Fld Z h0 x "java/lang/String" "value" "[B" (.ref t)) (Fc_x : Fld Z h0 x "java/lang/String" "coder" "B" (.int cx)) (V_t : Arv Z h0 t kt .byte Nx vx (.int (0 : Int32))) (hCx : StrChars.Road.CodA ts cx Nx vx) (hot : own_Ok ts) (h3 : ts.length ≤ 3) (hl : l.stackTraces = true) (hR2 : ∀ d ∈ twoRefs, d.before a0 Z = true) (hT0 : ThS Z h0) :
    MetFree l (⟨"com/example/cohortwise/cohortwise/cli/Arguments", "missingOption", "(Ljava/lang/String;)Lcom/example/cohortwise/cohortwise/cli/InputRefusedException;"⟩ : MethodName) (head1 (Jvm.Cond.code (⟨"com/example/cohortwise/cohortwise/cli/Arguments", "missingOption", "(Ljava/lang/String;)Lcom/example/cohortwise/cohortwise/cli/InputRefusedException;"⟩ : MethodName) prog_1_method_5_code 1 (some (.object "com/example/cohortwise/cohortwise/cli/InputRefusedException")) :: ws) ⟨10, 10, 3018, 145⟩) (fun aA U => aA = #[(.ref x)] ∧ Z.Warmed39 U.vm ∧ U.heap = h0 ∧ CHv Z own_EL U.vm h0) (fun _ _ bl sK _ => sK.vm.MethodsKnown ∧ sK.vm.FramesKnown bl) (fun _ U oO U' => ∃ rV rL, oO = .returned rV ∧ QMiss Z ((([] : List Int32) ++ own_MS) ++ ts) h0 n0 rV U'.heap rL ∧ CHr Z own_EL U.vm U.heap U'.vm U'.heap ∧ ReturnedEndW U oO U' rL 10 3018) := by
  refine MetFree.of_bodySF (plainFor_of_name pn_12) hisR ?_
  intro p e s m args below meth cC s₁ Bd hml0 hP hK
  obtain ⟨rfl, hZ, hh, hC0⟩ := hP
  have hx := Bd.exec
  have hby := Bd.bytes
  have hml : cC.maxLocals = 1 := hml0
  have hown : s.vm.findClass "com/example/cohortwise/cohortwise/cli/Arguments" = some m.cls := findClass_of_methodNamed Bd.named
  have hnm := (name_of_methodNamed Bd.named Bd.method).1
  have hrt := Bd.returns
  have hlk : meth.locks = false := Bd.notSynchronized
  have X0 : Stand p l e ⟨10, 10, 3018, 145⟩ (s.setVm s.vm) m #[(.ref x)] below meth cC s₁ [] 0 0 := Stand.of_body Bd
  have e0 : s₁.heap = h0 := by rw [← hh, Bd.state]; rfl
  have N0 := Fr.nil n0
  have Z0 : n0 ≤ h0.size := O0.1 ▸ O0.2.1
  obtain ⟨hTK, hBelow⟩ : s.vm.MethodsKnown ∧ s.vm.FramesKnown below := hK
  have hS0 : s.Since s.vm 0 := (State.WarmedH.refl s).since 0
  have C0 : CHr Z own_EL s.vm h0 s.vm h0 := CHr.refl hC0
  have own_wS := own_wSt hw
  have own_hEL := own_hELt hw
  show own_Go p e below (s₁.setTop (entryFrame m #[(.ref x)] 1)) (fun oO U' => ∃ rV rL, oO = .returned rV ∧ QMiss Z ((([] : List Int32) ++ own_MS) ++ ts) h0 n0 rV U'.heap rL ∧ CHr Z own_EL s.vm s.heap U'.vm U'.heap ∧ ReturnedEndW s oO U' rL 10 3018)
  refine own_go (fun _ k => castTop (ef_rm_mis m x) k) ?_
  obtain ⟨T375, h375, X375, e375, E375, A375, D375, U375, st375⟩ := newO X0 hx hZ hown (tw hw 38 rfl) (tw hw 39 rfl) (tw hw 40 rfl) e0 (g := (mkF m 0 #[.val (.ref x)] [])) rfl (hb hby dq1_5_0) (by decide) (by decide)
  obtain ⟨b375, g375⟩ : ∃ z, z = h0.size := ⟨_, rfl⟩
  rw [← g375] at A375 D375 U375 st375
  refine own_go st375 ?_
  have C376 := C0.trans (CHr.ext E375 C0.1)
  have F375_cause : Fld Z h375 b375 "java/lang/Throwable" "cause" "Ljava/lang/Throwable;" .null := D375 (Or.inl (tw hw 174 rfl)) (ty := (.object "java/lang/Throwable")) (by decide)
  have F375_stackTrace : Fld Z h375 b375 "java/lang/Throwable" "stackTrace" "[Ljava/lang/StackTraceElement;" .null := D375 (Or.inl (tw hw 177 rfl)) (ty := (.array (.object "java/lang/StackTraceElement"))) (by decide)
  have F375_suppressedExceptions : Fld Z h375 b375 "java/lang/Throwable" "suppressedExceptions" "Ljava/util/List;" .null := D375 (Or.inl (tw hw 180 rfl)) (ty := (.object "java/util/List")) (by decide)
  have F375_detailMessage : Fld Z h375 b375 "java/lang/Throwable" "detailMessage" "Ljava/lang/String;" .null := D375 (Or.inl (tw hw 204 rfl)) (ty := (.object "java/lang/String")) (by decide)
  have F375_backtrace : Fld Z h375 b375 "java/lang/Throwable" "backtrace" "Ljava/lang/Object;" .null := D375 (Or.inl (tw hw 205 rfl)) (ty := (.object "java/lang/Object")) (by decide)
  have F375_depth : Fld Z h375 b375 "java/lang/Throwable" "depth" "I" (.int (0 : Int32)) := D375 (Or.inl (tw hw 206 rfl)) (ty := .int) (by decide)
  refine og (fun _ k => XS.dup X375.here hx rfl (hb hby dq1_5_3) rfl rfl k) ?_
  obtain ⟨T377, h377, X377, e377, E377, A377, D377, U377, st377⟩ := newO X375 hx hZ hown (tw hw 41 rfl) (tw hw 42 rfl) (tw hw 43 rfl) e375 (g := (mkF m 4 #[.val (.ref x)] [(.ref b375), (.ref b375)])) rfl (hb hby dq1_5_4) (by decide) (by decide)
  obtain ⟨b377, g377⟩ : ∃ z, z = h375.size := ⟨_, rfl⟩
  rw [← g377] at A377 D377 U377 st377
  refine own_go st377 ?_
  have C378 := C376.trans (CHr.ext E377 C376.1)
  have F377_value : Fld Z h377 b377 "java/lang/AbstractStringBuilder" "value" "[B" .null := D377 (Or.inl (tw hw 56 rfl)) (ty := (.array .byte)) (by decide)
  have F377_coder : Fld Z h377 b377 "java/lang/AbstractStringBuilder" "coder" "B" (.int (0 : Int32)) := D377 (Or.inl (tw hw 58 rfl)) (ty := .byte) (by decide)
  have F377_count : Fld Z h377 b377 "java/lang/AbstractStringBuilder" "count" "I" (.int (0 : Int32)) := D377 (Or.inl (tw hw 81 rfl)) (ty := .int) (by decide)
  have F377_maybeLatin1 : Fld Z h377 b377 "java/lang/AbstractStringBuilder" "maybeLatin1" "Z" (.int (0 : Int32)) := D377 (Or.inl (tw hw 289 rfl)) (ty := .boolean) (by decide)
  refine og (fun _ k => XS.dup X377.here hx rfl (hb hby dq1_5_7) rfl rfl k) ?_
  try dsimp only [mkF]
  obtain ⟨v379, _, ⟨T379, L379, k379, n379⟩, -, X379, ⟨Lc379, hQ379, l379, y379, z379⟩, st379⟩ := X377.specialBack hx (y := (⟨"java/lang/StringBuilder", "<init>", "()V"⟩ : MethodName)) rfl hown (mvT hZ (tw hw 44 rfl)) (mvT hZ (tw hw 45 rfl)) (mvT hZ (tw hw 46 rfl)) (by decide) (backOf (W := 3) (rm_sb l Z a0 hw [] b377 G1 h377 n0 ((O0.ext E375).ext E377) A377 F377_value F377_coder F377_count F377_maybeLatin1 (Nat.le_trans Z0 (Nat.le_trans E375.1 (Nat.le_of_eq g377.symm))) O2 P5) hZ (tw hw 46 rfl) (tw hw 43 rfl) (by decide) (by decide)) (g := (mkF m 8 #[.val (.ref x)] [(.ref b377), (.ref b377), (.ref b375), (.ref b375)])) rfl (by rw [hml]; rfl) (Steps.refl _) (a := b377) (argsL := []) (rest := [(.ref b377), (.ref b375), (.ref b375)]) (lenOf pd_19 rfl) rfl (by show 2 * 0 + _ ≤ _; exact Nat.le_of_eq rfl) (hb hby dq1_5_8) (fun _ _ => ⟨rfl, e377, (by decide : 2 + 1 ≤ _), (by decide : 10 + 16 ≤ _)⟩)
  dsimp only [Pt.U, Pt.locs, Pt.cells, Pt.slots] at X379 l379 y379 z379 st379 hQ379
  subst l379 y379 z379
  refine own_gos st379 ?_
  obtain ⟨v379, kv379, rfl, Nq379, K379, vg379, Fv379, Fc379, Fn379, Fm379, Vv379, Xv379⟩ := hQ379
  have f380 := (Safe.ext E377 C376.1 (Safe.new (Nat.le_of_eq g377.symm)))
  have C381 := C378.trans (CHr.keep K379 (sfS f380 sf0) C378.1)
  have N379 := Fr.app N0 Nq379
  obtain ⟨aL382, T382, h382, k1382, b382, kb382, X382, e382, E382, hS382, hk382, hZ382, hown382, Ea382, Fc382, Fv382, Va382, la382, lb382, A382, Li382, sf382, st382⟩ := ldcCH X379 hx hZ hown (tw hw 59 rfl) own_wS (rfl : T379.heap = T379.heap) hS0 (Nat.zero_le _) own_hEL (by decide) C381.1 (vs := [(.int (109 : Int32)), (.int (105 : Int32)), (.int (115 : Int32)), (.int (115 : Int32)), (.int (105 : Int32)), (.int (110 : Int32)), (.int (103 : Int32)), (.int (32 : Int32)), (.int (111 : Int32)), (.int (112 : Int32)), (.int (116 : Int32)), (.int (105 : Int32)), (.int (111 : Int32)), (.int (110 : Int32)), (.int (32 : Int32))]) (z := (15 : Int32)) ⟨by decide, by decide⟩ (by decide) (by decide) (g := (mkF m 11 #[.val (.ref x)] [(.ref b377), (.ref b375), (.ref b375)])) rfl (hb hby dq1_5_11) (n := 60) (by decide) (by decide) (by decide) (by decide)
  refine own_go st382 ?_
  have C383 := C381.trans A382
  have f384 := (A382.safe (Nat.lt_of_lt_of_le A377.lt K379.1) (Safe.keep K379 (sfS f380 sf0) C378.1 f380))
  have f385 := (A382.safe Vv379.lt (Safe.keep K379 (sfS f380 sf0) C378.1 (Safe.new vg379)))
  have f386 := ((A377.keep K379).ext E382)
  have f387 := ((((O0.ext E375).ext E377).keep K379 (allS (Nat.le_trans Z0 (Nat.le_trans E375.1 (Nat.le_of_eq g377.symm))) all0)).ext E382)
  obtain ⟨cq388, kq388, q388a, q388b, q388c⟩ := isOf hZ382 e382 f386
  obtain ⟨v388, _, ⟨T388, L388, k388, n388⟩, -, X388, ⟨Lc388, hQ388, l388, y388, z388⟩, st388⟩ := X382.virtualBack hx (y := (⟨"java/lang/StringBuilder", "append", "(Ljava/lang/String;)Ljava/lang/StringBuilder;"⟩ : MethodName)) (z := (⟨"java/lang/StringBuilder", "append", "(Ljava/lang/String;)Ljava/lang/StringBuilder;"⟩ : MethodName)) hown382 (mvT hZ382 (tw hw 60 rfl)) (mvT hZ382 (tw hw 61 rfl)) (notFace_of_selects (args := #[]) (mvT hZ382 (tw hw 63 rfl))) (mvT hZ382 (tw hw 63 rfl)) (mvT hZ382 (tw hw 62 rfl)) (by decide) (backOf (W := 2) (rm_apL l Z a0 hw [] b377 v379 kv379 ([] : List Int32) aL382 b382 kb382 own_MS G1 G3 h382 n0 f387 O2 P5 O4 rG3 OA OH OL f386 (Fv379.ext E382) (Fc379.ext E382) (Fn379.ext E382) (Fm379.ext E382) (Vv379.ext E382) (Xv379.ext E382) (fun c hc => nomatch hc) own_ok0 ⟨by decide, by decide⟩ (Nat.le_trans Z0 (Nat.le_trans E375.1 (Nat.le_of_eq g377.symm))) (Nat.le_trans Z0 (Nat.le_trans (Nat.le_trans E375.1 E377.1) vg379)) Ea382 Fv382 Fc382 Va382 own_msl own_okM (Ne.symm (sf382 _ f384).1) (Ne.symm (sf382 _ f385).2) (by decide)) hZ382 (tw hw 64 rfl) (tw hw 43 rfl) (by decide) (by decide)) q388a q388c (g := (mkF m 13 #[.val (.ref x)] [(.ref aL382), (.ref b377), (.ref b375), (.ref b375)])) rfl (by rw [hml]; rfl) (Steps.refl _) (argsL := [(.ref aL382)]) (rest := [(.ref b375), (.ref b375)]) (lenOf pd_29 rfl) rfl (by show 2 * 0 + _ ≤ _; exact Nat.le_of_eq rfl) (hb hby dq1_5_13) (fun _ _ => ⟨rfl, e382, (by decide : 5 + 0 ≤ _), (by decide : 90 + 0 ≤ _)⟩)
  dsimp only [Pt.U, Pt.locs, Pt.cells, Pt.slots] at X388 l388 y388 z388 st388 hQ388
  subst l388 y388 z388
  refine own_gos st388 ?_
  obtain ⟨rfl, Nq388, K388, Fv388, Fc388, Fn388, Fm388, Vv388⟩ := hQ388
  have C389 := C383.trans (CHr.keep K388 (sfS f384 (sfS f385 sf0)) C383.1)
  have N388 := Fr.app N379 Nq388
  have f390 := ((Xv379.ext E382).keep K388)
  refine og (fun _ k => XS.aloadN X388.here hx rfl (hb hby dq1_5_16) rfl rfl k) ?_
  have f391 := ((((E_x.ext E375).ext E377).keep K379).ext E382)
  have ne392 : x ≠ b377 := Nat.ne_of_lt (Nat.lt_of_lt_of_le (Nat.lt_of_lt_of_le E_x.lt E375.1) (Nat.le_of_eq g377.symm))
  have f393 := ((((Fv_x.ext E375).ext E377).keep K379 (ninS ne392 nin0)).ext E382)
  have ne394 : x ≠ v379 := Nat.ne_of_lt (Nat.lt_of_lt_of_le (Nat.lt_of_lt_of_le E_x.lt (Nat.le_trans E375.1 E377.1)) vg379)
  have f395 := (f393.keep K388 (ninS ne392 (ninS ne394 nin0)))
  have f396 := ((((Fc_x.ext E375).ext E377).keep K379 (ninS ne392 nin0)).ext E382)
  have f397 := (f396.keep K388 (ninS ne392 (ninS ne394 nin0)))
  have ne398 : t ≠ b377 := Nat.ne_of_lt (Nat.lt_of_lt_of_le (Nat.lt_of_lt_of_le V_t.lt E375.1) (Nat.le_of_eq g377.symm))
  have f399 := ((((V_t.ext E375).ext E377).keep K379 (ninS ne398 nin0)).ext E382)
  have ne400 : t ≠ v379 := Nat.ne_of_lt (Nat.lt_of_lt_of_le (Nat.lt_of_lt_of_le V_t.lt (Nat.le_trans E375.1 E377.1)) vg379)
  have f401 := (f399.keep K388 (ninS ne398 (ninS ne400 nin0)))
  have f402 := (f387.keep K388 (allS (Nat.le_trans Z0 (Nat.le_trans E375.1 (Nat.le_of_eq g377.symm))) (allS (Nat.le_trans Z0 (Nat.le_trans (Nat.le_trans E375.1 E377.1) vg379)) all0)))
  obtain ⟨cq403, kq403, q403a, q403b, q403c⟩ := isOf hZ382 (rfl : T388.heap = T388.heap) (f386.keep K388)
  obtain ⟨v403, _, ⟨T403, L403, k403, n403⟩, -, X403, ⟨Lc403, hQ403, l403, y403, z403⟩, st403⟩ := X388.virtualBack hx (y := (⟨"java/lang/StringBuilder", "append", "(Ljava/lang/String;)Ljava/lang/StringBuilder;"⟩ : MethodName)) (z := (⟨"java/lang/StringBuilder", "append", "(Ljava/lang/String;)Ljava/lang/StringBuilder;"⟩ : MethodName)) hown382 (mvT hZ382 (tw hw 60 rfl)) (mvT hZ382 (tw hw 61 rfl)) (notFace_of_selects (args := #[]) (mvT hZ382 (tw hw 63 rfl))) (mvT hZ382 (tw hw 63 rfl)) (mvT hZ382 (tw hw 62 rfl)) (by decide) (backOf (W := 2) (rm_apS l Z a0 hw [] b377 v379 kv379 (([] : List Int32) ++ own_MS) x t kt ts cx Nx vx G1 G3 T388.heap n0 f402 O2 P5 O4 rG3 OA OH OL (f386.keep K388) Fv388 Fc388 Fn388 Fm388 Vv388 f390 own_msl own_okM ⟨by decide, by decide⟩ (Nat.le_trans Z0 (Nat.le_trans E375.1 (Nat.le_of_eq g377.symm))) (Nat.le_trans Z0 (Nat.le_trans (Nat.le_trans E375.1 E377.1) vg379)) (f391.keep K388) f395 f397 f401 hCx hot ne392 ne400 (by show 15 + ts.length ≤ 34; omega)) hZ382 (tw hw 64 rfl) (tw hw 43 rfl) (by decide) (by decide)) q403a q403c (g := (mkF m 17 #[.val (.ref x)] [(.ref x), (.ref b377), (.ref b375), (.ref b375)])) rfl (by rw [hml]; rfl) (Steps.refl _) (argsL := [(.ref x)]) (rest := [(.ref b375), (.ref b375)]) (lenOf pd_29 rfl) rfl (by show 2 * 0 + _ ≤ _; exact Nat.le_of_eq rfl) (hb hby dq1_5_17) (fun _ _ => ⟨rfl, (rfl : T388.heap = T388.heap), (by decide : 5 + 2 ≤ _), (by decide : 90 + 102 ≤ _)⟩)
  dsimp only [Pt.U, Pt.locs, Pt.cells, Pt.slots] at X403 l403 y403 z403 st403 hQ403
  subst l403 y403 z403
  refine own_gos st403 ?_
  have f404 := (((((Keep.refl h0 []).ext E375).ext E377).trans K379 (allS (Or.inr (Nat.le_trans E375.1 (Nat.le_of_eq g377.symm))) all0)).ext E382)
  have f405 := (f404.trans K388 (allS (Or.inr (Nat.le_trans E375.1 (Nat.le_of_eq g377.symm))) (allS (Or.inr (Nat.le_trans (Nat.le_trans E375.1 E377.1) vg379)) all0)))
  obtain ⟨v403, kv403, M403, cd403, rfl, Nq403, K403, hor403, Fv403, Fc403, Fn403, Fm403, Vv403, Xv403, hcd403, hcM403, hM34403⟩ := hQ403
  have gv403 : n0 ≤ v403 := hor403.elim (fun q => q ▸ (Nat.le_trans Z0 (Nat.le_trans (Nat.le_trans E375.1 E377.1) vg379))) (fun q => Nat.le_trans (Nat.le_trans Z0 f405.1) q)
  have ge403 : h0.size ≤ v403 := hor403.elim (fun q => q ▸ (Nat.le_trans (Nat.le_trans E375.1 E377.1) vg379)) (fun q => Nat.le_trans f405.1 q)
  have f406 := (Safe.keep K388 (sfS f384 (sfS f385 sf0)) C383.1 f385)
  have f407 := (Safe.keep K388 (sfS f384 (sfS f385 sf0)) C383.1 f384)
  have C408 := C389.trans (CHr.keep K403 (sfS f407 (sfS f406 sf0)) C389.1)
  have N403 := Fr.app N388 Nq403
  try dsimp only [mkF]
  have f409 := ((f386.keep K388).keep K403)
  have f410 := (f402.keep K403 (allS (Nat.le_trans Z0 (Nat.le_trans E375.1 (Nat.le_of_eq g377.symm))) (allS (Nat.le_trans Z0 (Nat.le_trans (Nat.le_trans E375.1 E377.1) vg379)) all0)))
  obtain ⟨cq411, kq411, q411a, q411b, q411c⟩ := isOf hZ382 (rfl : T403.heap = T403.heap) f409
  obtain ⟨v411, _, ⟨T411, L411, k411, n411⟩, -, X411, ⟨Lc411, hQ411, l411, y411, z411⟩, st411⟩ := X403.virtualBack hx (y := (⟨"java/lang/StringBuilder", "toString", "()Ljava/lang/String;"⟩ : MethodName)) (z := (⟨"java/lang/StringBuilder", "toString", "()Ljava/lang/String;"⟩ : MethodName)) hown382 (mvT hZ382 (tw hw 107 rfl)) (mvT hZ382 (tw hw 108 rfl)) (notFace_of_selects (args := #[]) (mvT hZ382 (tw hw 110 rfl))) (mvT hZ382 (tw hw 110 rfl)) (mvT hZ382 (tw hw 109 rfl)) (by decide) (backOf (W := 2) (rm_tos l Z a0 hw [] b377 v403 kv403 M403 cd403 ((([] : List Int32) ++ own_MS) ++ ts) G1 G3 T403.heap n0 f410 O2 P5 O4 rG3 OA OH OL f409 Fv403 Fc403 Fn403 Fm403 Vv403 Xv403 hcd403 hcM403 hM34403) hZ382 (tw hw 111 rfl) (tw hw 43 rfl) (by decide) (by decide)) q411a q411c (g := (mkF m 20 #[.val (.ref x)] [(.ref b377), (.ref b375), (.ref b375)])) rfl (by rw [hml]; rfl) (Steps.refl _) (argsL := []) (rest := [(.ref b375), (.ref b375)]) (lenOf pd_30 rfl) rfl (by show 2 * 0 + _ ≤ _; exact Nat.le_of_eq rfl) (hb hby dq1_5_20) (fun _ _ => ⟨rfl, (rfl : T403.heap = T403.heap), (by decide : 7 + 2 ≤ _), (by decide : 192 + 74 ≤ _)⟩)
  dsimp only [Pt.U, Pt.locs, Pt.cells, Pt.slots] at X411 l411 y411 z411 st411 hQ411
  subst l411 y411 z411
  refine own_gos st411 ?_
  obtain ⟨x411, t411, kt411, cd411, N2411, vs411, rfl, Nq411, K411, xg411, Ex411, Fv411, Fc411, Vt411, hC411⟩ := hQ411
  have C412 := C408.trans (CHr.keep K411 sf0 C408.1)
  have N411 := Fr.app N403 Nq411
  have f413 := ((((A375.ext E377).keep K379).ext E382).keep K388)
  have f414 := ((f413.keep K403).keep K411)
  have nxt := Exa.neArv f414 Vt411 (tw hw 39 rfl)
  have ne415 : b375 ≠ b377 := Nat.ne_of_lt (Nat.lt_of_lt_of_le A375.lt (Nat.le_of_eq g377.symm))
  have ne416 : b375 ≠ v379 := Nat.ne_of_lt (Nat.lt_of_lt_of_le (Nat.lt_of_lt_of_le A375.lt E377.1) vg379)
  have f417 := (Unt.keep K388 (ninS ne415 (ninS ne416 nin0)) (Unt.ext E382 (Unt.keep K379 (ninS ne415 nin0) (Unt.ext E377 U375))))
  have f418 := (Unt.keep K411 nin0 (Unt.keep K403 (ninS ne415 (ninS ne416 nin0)) f417))
  have f419 := ((((F375_backtrace.ext E377).keep K379 (ninS ne415 nin0)).ext E382).keep K388 (ninS ne415 (ninS ne416 nin0)))
  have f420 := ((f419.keep K403 (ninS ne415 (ninS ne416 nin0))).keep K411 nin0)
  have f421 := ((((F375_cause.ext E377).keep K379 (ninS ne415 nin0)).ext E382).keep K388 (ninS ne415 (ninS ne416 nin0)))
  have f422 := ((f421.keep K403 (ninS ne415 (ninS ne416 nin0))).keep K411 nin0)
  have f423 := ((((F375_stackTrace.ext E377).keep K379 (ninS ne415 nin0)).ext E382).keep K388 (ninS ne415 (ninS ne416 nin0)))
  have f424 := ((f423.keep K403 (ninS ne415 (ninS ne416 nin0))).keep K411 nin0)
  have f425 := ((((F375_suppressedExceptions.ext E377).keep K379 (ninS ne415 nin0)).ext E382).keep K388 (ninS ne415 (ninS ne416 nin0)))
  have f426 := ((f425.keep K403 (ninS ne415 (ninS ne416 nin0))).keep K411 nin0)
  have f427 := ((((F375_detailMessage.ext E377).keep K379 (ninS ne415 nin0)).ext E382).keep K388 (ninS ne415 (ninS ne416 nin0)))
  have f428 := ((f427.keep K403 (ninS ne415 (ninS ne416 nin0))).keep K411 nin0)
  have f429 := (ThS.ext E382 (ThS.keep K379 (nsS (Exa.nostat A377) ns0) (ThS.ext E377 (ThS.ext E375 hT0))))
  have f430 := (ThS.keep K411 ns0 (ThS.keep K403 (nsS (Exa.nostat (f386.keep K388)) (nsS (Exa.nostat f390) ns0)) (ThS.keep K388 (nsS (Exa.nostat f386) (nsS (Exa.nostat (Xv379.ext E382)) ns0)) f429)))
  obtain ⟨v431, _, ⟨T431, L431, k431, n431⟩, -, X431, hS431, hg431, ⟨Lc431, hQ431, l431, y431, z431, A431⟩, st431⟩ := X411.specialBackS hx (y := (⟨"com/example/cohortwise/cohortwise/cli/InputRefusedException", "<init>", "(Ljava/lang/String;)V"⟩ : MethodName)) rfl hown382 (mvT hZ382 (tw hw 152 rfl)) (mvT hZ382 (tw hw 153 rfl)) (mvT hZ382 (tw hw 154 rfl)) (by decide) (backOfSKH (W := 1) (rm_ex3 l Z a0 hw [] b375 x411 T411.heap n0 (f410.keep K411 all0) (Nat.le_trans Z0 (Nat.le_of_eq g375.symm)) f414 f418 f420 f422 f424 f426 f428 hl hR2 f430) hZ382 (tw hw 154 rfl) (tw hw 40 rfl) (by decide) (by decide) own_hEL C412.1 (Vm.MethodsKnown.alikeC hS382.1.alike hTK) (Vm.FramesKnown.alikeC hS382.1.alike hBelow)) (g := (mkF m 23 #[.val (.ref x)] [(.ref x411), (.ref b375), (.ref b375)])) rfl (by rw [hml]; rfl) (Steps.refl _) (a := b375) (argsL := [(.ref x411)]) (rest := [(.ref b375)]) (lenOf pd_20 rfl) rfl (by show 2 * 0 + _ ≤ _; exact Nat.le_of_eq rfl) (hb hby dq1_5_23) (fun _ _ => ⟨rfl, (rfl : T411.heap = T411.heap), (by decide : 9 + 1 ≤ _), (by decide : 266 + 2752 ≤ _)⟩)
  dsimp only [Pt.U, Pt.locs, Pt.cells, Pt.slots] at X431 l431 y431 z431 st431 hQ431 hS431 hg431 A431
  subst l431 y431 z431
  refine own_gos st431 ?_
  have z432 := (Nat.le_trans (Nat.le_trans K388.1 K403.1) K411.1)
  obtain ⟨X431, hS431, hZ431, hown431⟩ := rebS hS382 (k0 := _) (n1 := T411.heap.size) (by rw [(rfl : T411.heap = T411.heap)]; exact (Nat.le_trans hk382 z432)) X431 hS431 hg431 hZ382 hown382
  obtain ⟨rfl, Nq431, K431, Ea431, Fa431⟩ := hQ431
  have C433 := C412.trans A431
  have N431 := Fr.app N411 Nq431
  have f434 := (((f405.trans K403 (allS (Or.inr (Nat.le_trans E375.1 (Nat.le_of_eq g377.symm))) (allS (Or.inr (Nat.le_trans (Nat.le_trans E375.1 E377.1) vg379)) all0))).trans K411 all0).trans K431 (allS (Or.inr (Nat.le_of_eq g375.symm)) all0))
  have z436 := (Nat.le_trans (Nat.le_trans (Nat.le_trans (Nat.le_trans E377.1 K379.1) E382.1) K388.1) K403.1)
  have ne435 : b375 ≠ x411 := Nat.ne_of_lt (Nat.lt_of_lt_of_le (Nat.lt_of_lt_of_le A375.lt z436) xg411)
  have f437 := (Fv411.keep K431 (ninS (Ne.symm ne435) nin0))
  have f438 := (Fc411.keep K431 (ninS (Ne.symm ne435) nin0))
  have f439 := (Vt411.keep K431 (ninS (Ne.symm nxt) nin0))
  refine own_finW (v := (some (.ref b375))) X431 hh hZ431 hS431 (by rw [(rfl : T431.heap = T431.heap)]; exact (Nat.le_refl _)) (fun h => by rw [hrt] at h; cases h) hlk (fun fs hr => retR X431 hx hrt (by rfl) rfl rfl (hb hby dq1_5_26) hr) (QQ := QMiss Z ((([] : List Int32) ++ own_MS) ++ ts) h0 n0) ?_ own_hEL (rfl : T431.heap = T431.heap) (C433) (by decide) (by decide)
  exact ⟨b375, x411, t411, _, _, _, _, rfl, N431, f434, Ea431, Fa431, (Ex411.keep K431), f437, f438, f439, hC411⟩

theorem own_wEq {Z : State} {a0 : Array Value} (hw : ∀ d ∈ tables_1, d.before a0 Z = true) : ∀ d ∈ StrChars.Road.wordsEq, d.before a0 Z = true := fun d hd => hw d ((by decide +kernel : ∀ d ∈ StrChars.Road.wordsEq, d ∈ tables_1) d hd)
theorem own_okL0 : own_Ok ([] : List Int32) := ⟨fun c hc => by simp only [List.mem_cons, List.not_mem_nil, or_false] at hc, Nat.le_of_ble_eq_true rfl⟩
theorem own_okE0 : own_Ok ([109, 105, 115, 115, 105, 110, 103, 32, 111, 112, 116, 105, 111, 110, 32] : List Int32) := ⟨fun c hc => by simp only [List.mem_cons, List.not_mem_nil, or_false] at hc; rcases hc with rfl | rfl | rfl | rfl | rfl | rfl | rfl | rfl | rfl | rfl | rfl | rfl | rfl | rfl | rfl <;> first | assumption | decide, Nat.le_of_ble_eq_true rfl⟩
theorem own_okL1 {c0 : Int32} (b_c0 : ¬ c0 < 0 ∧ ¬ (65535 : Int32) < c0) : own_Ok ([c0] : List Int32) := ⟨fun c hc => by simp only [List.mem_cons, List.not_mem_nil, or_false] at hc; rcases hc with rfl <;> assumption, Nat.le_of_ble_eq_true rfl⟩
theorem own_okE1 {c0 : Int32} (b_c0 : ¬ c0 < 0 ∧ ¬ (65535 : Int32) < c0) : own_Ok ([109, 105, 115, 115, 105, 110, 103, 32, 111, 112, 116, 105, 111, 110, 32, c0] : List Int32) := ⟨fun c hc => by simp only [List.mem_cons, List.not_mem_nil, or_false] at hc; rcases hc with rfl | rfl | rfl | rfl | rfl | rfl | rfl | rfl | rfl | rfl | rfl | rfl | rfl | rfl | rfl | rfl <;> first | assumption | decide, Nat.le_of_ble_eq_true rfl⟩
theorem own_okL2 {c0 c1 : Int32} (b_c0 : ¬ c0 < 0 ∧ ¬ (65535 : Int32) < c0) (b_c1 : ¬ c1 < 0 ∧ ¬ (65535 : Int32) < c1) : own_Ok ([c0, c1] : List Int32) := ⟨fun c hc => by simp only [List.mem_cons, List.not_mem_nil, or_false] at hc; rcases hc with rfl | rfl <;> assumption, Nat.le_of_ble_eq_true rfl⟩
theorem own_okE2 {c0 c1 : Int32} (b_c0 : ¬ c0 < 0 ∧ ¬ (65535 : Int32) < c0) (b_c1 : ¬ c1 < 0 ∧ ¬ (65535 : Int32) < c1) : own_Ok ([109, 105, 115, 115, 105, 110, 103, 32, 111, 112, 116, 105, 111, 110, 32, c0, c1] : List Int32) := ⟨fun c hc => by simp only [List.mem_cons, List.not_mem_nil, or_false] at hc; rcases hc with rfl | rfl | rfl | rfl | rfl | rfl | rfl | rfl | rfl | rfl | rfl | rfl | rfl | rfl | rfl | rfl | rfl <;> first | assumption | decide, Nat.le_of_ble_eq_true rfl⟩
theorem own_okL3 {c0 c1 c2 : Int32} (b_c0 : ¬ c0 < 0 ∧ ¬ (65535 : Int32) < c0) (b_c1 : ¬ c1 < 0 ∧ ¬ (65535 : Int32) < c1) (b_c2 : ¬ c2 < 0 ∧ ¬ (65535 : Int32) < c2) : own_Ok ([c0, c1, c2] : List Int32) := ⟨fun c hc => by simp only [List.mem_cons, List.not_mem_nil, or_false] at hc; rcases hc with rfl | rfl | rfl <;> assumption, Nat.le_of_ble_eq_true rfl⟩
theorem own_okE3 {c0 c1 c2 : Int32} (b_c0 : ¬ c0 < 0 ∧ ¬ (65535 : Int32) < c0) (b_c1 : ¬ c1 < 0 ∧ ¬ (65535 : Int32) < c1) (b_c2 : ¬ c2 < 0 ∧ ¬ (65535 : Int32) < c2) : own_Ok ([109, 105, 115, 115, 105, 110, 103, 32, 111, 112, 116, 105, 111, 110, 32, c0, c1, c2] : List Int32) := ⟨fun c hc => by simp only [List.mem_cons, List.not_mem_nil, or_false] at hc; rcases hc with rfl | rfl | rfl | rfl | rfl | rfl | rfl | rfl | rfl | rfl | rfl | rfl | rfl | rfl | rfl | rfl | rfl | rfl <;> first | assumption | decide, Nat.le_of_ble_eq_true rfl⟩
theorem own_eqE (ts : List Int32) : ((([] : List Int32) ++ own_MS) ++ ts) = 109 :: 105 :: 115 :: 115 :: 105 :: 110 :: 103 :: 32 :: 111 :: 112 :: 116 :: 105 :: 111 :: 110 :: 32 :: ts := rfl
theorem own_cod0 : StrChars.Road.CodA ([] : List Int32) 0 0 [] := Or.inl ⟨rfl, rfl, rfl, fun c hc => nomatch hc⟩
def QQ0 (n0 : Nat) (v : Option Value) (h : Heap) (L : List Loc) : Prop := v = some (.int 1) ∧ Fr n0 L
theorem pd_31 : parseMethodDescriptor "([C)V" = some ⟨[(.array .char)], none⟩ := by decide +kernel
theorem pd_32 : parseMethodDescriptor "(Ljava/lang/String;)Lcom/example/cohortwise/cohortwise/cli/InputRefusedException;" = some ⟨[(.object "java/lang/String")], some (.object "com/example/cohortwise/cohortwise/cli/InputRefusedException")⟩ := by decide +kernel
theorem pd_33 : parseMethodDescriptor "(Ljava/lang/Object;)Z" = some ⟨[(.object "java/lang/Object")], some .boolean⟩ := by decide +kernel
theorem pn_13 : plainName "com/example/cohortwise/cohortwise/cli/ArgumentsMissingOptionPinLaw" = true := by first | (simp [plainName, overriddenIn]; done) | decide +kernel
set_option maxRecDepth 65536 in
set_option maxHeartbeats 40000000 in
theorem own_fst0 (l : Launch) (Z : State) (a0 : Array Value) (hw : ∀ d ∈ tables_1, d.before a0 Z = true) (p1 p2 p3 p4 c0 c1 c2 G1 : Int32) (G3 : Value) (h0 : Heap) (n0 : Nat) {p : Program} {e : Env} {s : State} {vm0 : Vm} {m : MethodId} {below : List Frame} {meth : Method} {cC : Code} {T0 : State} {locs : List Loc} (X0 : Stand p l e room_1 (s.setVm vm0) m #[(.int p1), (.int p2), (.int p3), (.int p4)] below meth cC T0 locs 0 0) (hx : p.tables.exec = Jvm.exec) (hby : cC.code = code) (hml : cC.maxLocals = maxLocals) (hown : (s.setVm vm0).vm.findClass "com/example/cohortwise/cohortwise/cli/ArgumentsMissingOptionPinLaw" = some m.cls) (hZ : Z.Warmed39 (s.setVm vm0).vm) (hrt : meth.sig.returnType = ret) (hlk : meth.locks = false) (h1 : Heap) (e0 : T0.heap = h1) (N0 : Fr n0 locs) (Z0 : n0 ≤ h1.size) (O1 : Old Z n0 h1) (hh : s.heap = h0) {k0 : Nat} (hS0 : s.Since vm0 k0) (hk0 : k0 ≤ h1.size) (C0 : CHr Z own_EL s.vm h0 vm0 h1) (hTh : ThS Z h1) (O2 : Sta Z Z.heap "java/lang/String" "COMPACT_STRINGS" "Z" (.int G1)) (P5 : ¬ (G1 = (0 : Int32))) (O4 : Sta Z Z.heap "jdk/internal/util/Preconditions" "SIOOBE_FORMATTER" "Ljava/util/function/BiFunction;" G3) (rG3 : G3.isRef = true) (OA : Sta Z Z.heap "java/lang/StringUTF16" "$assertionsDisabled" "Z" (.int (1 : Int32))) (OH : Sta Z Z.heap "java/lang/StringUTF16" "HI_BYTE_SHIFT" "I" (.int (0 : Int32))) (OL : Sta Z Z.heap "java/lang/StringUTF16" "LO_BYTE_SHIFT" "I" (.int (8 : Int32))) (b_c0 : ¬ c0 < 0 ∧ ¬ (65535 : Int32) < c0) (b_c1 : ¬ c1 < 0 ∧ ¬ (65535 : Int32) < c1) (b_c2 : ¬ c2 < 0 ∧ ¬ (65535 : Int32) < c2) (hl : l.stackTraces = true) (hR2 : ∀ d ∈ twoRefs, d.before a0 Z = true) (hTK : s.vm.MethodsKnown) (hBelow : s.vm.FramesKnown below) :
    own_Go p e below (T0.setTop (mkF m 26 #[.val (.int p1), .val (.int p2), .val (.int p3), .val (.int p4), .val (.int (0 : Int32)), .val (.int c0), .val (.int c1), .val (.int c2), .unset, .unset, .unset] [])) (fun oO U' => ∃ rV rL, oO = .returned rV ∧ QQ0 n0 rV U'.heap rL ∧ CHr Z own_EL s.vm s.heap U'.vm U'.heap ∧ ReturnedEndW s oO U' rL 48 8192) := by
  have own_wS := own_wSt hw
  have own_hEL := own_hELt hw
  refine og (fun _ k => XS.iload X0.here hx rfl (hb hby at_26) rfl k) ?_
  refine og (fun _ k => XS.ifNo X0.here hx rfl (hb hby at_28) rfl ((if0 _ _).trans (teq (by decide : (0 : Int32) = (0 : Int32))).2) k) ?_
  obtain ⟨T440, h440, X440, e440, E440, A440, D440, U440, st440⟩ := newO X0 hx hZ hown (tw hw 1 rfl) (tw hw 2 rfl) (tw hw 3 rfl) e0 (g := (mkF m 31 #[.val (.int p1), .val (.int p2), .val (.int p3), .val (.int p4), .val (.int (0 : Int32)), .val (.int c0), .val (.int c1), .val (.int c2), .unset, .unset, .unset] [])) rfl (hb hby at_31) (by decide) (by decide)
  obtain ⟨b440, g440⟩ : ∃ z, z = h1.size := ⟨_, rfl⟩
  rw [← g440] at A440 D440 U440 st440
  refine own_go st440 ?_
  have C441 := C0.trans (CHr.ext E440 C0.1)
  have F440_value : Fld Z h440 b440 "java/lang/String" "value" "[B" .null := D440 (Or.inr (tw hw 17 rfl)) (ty := (.array .byte)) (by decide)
  have F440_coder : Fld Z h440 b440 "java/lang/String" "coder" "B" (.int (0 : Int32)) := D440 (Or.inr (tw hw 18 rfl)) (ty := .byte) (by decide)
  refine og (fun _ k => XS.dup X440.here hx rfl (hb hby at_34) rfl rfl k) ?_
  try dsimp only [mkF]
  refine og (fun _ k => XS.iconst X440.here hx rfl (hb hby at_35) k) ?_
  obtain ⟨T442, h442, k442, X442, e442, E442, A442, st442⟩ := newP X440 hx hZ (tw hw 4 rfl) e440 (g := (mkF m 36 #[.val (.int p1), .val (.int p2), .val (.int p3), .val (.int p4), .val (.int (0 : Int32)), .val (.int c0), .val (.int c1), .val (.int c2), .unset, .unset, .unset] [(.int (0 : Int32)), (.ref b440), (.ref b440)])) rfl (hb hby at_36) rfl (by decide) (cap := 0) (by decide) (by decide) (by decide) (by decide)
  obtain ⟨b442, g442⟩ : ∃ z, z = h440.size := ⟨_, rfl⟩
  rw [← g442] at A442 st442
  refine own_go st442 ?_
  have C443 := C441.trans (CHr.ext E442 C441.1)
  have V442 : Arv Z h442 b442 k442 .char (0 : Int32) [] (.int (0 : Int32)) := (Arv.new A442 (by decide)).pad (pad_rep [] (.int (0 : Int32)) 0)
  obtain ⟨v444, _, ⟨T444, L444, k444, n444⟩, -, X444, hS444, hg444, ⟨Lc444, hQ444, l444, y444, z444, A444⟩, st444⟩ := X442.specialBackS hx (y := (⟨"java/lang/String", "<init>", "([C)V"⟩ : MethodName)) rfl hown (mvT hZ (tw hw 5 rfl)) (mvT hZ (tw hw 6 rfl)) (mvT hZ (tw hw 7 rfl)) (by decide) (backOfSH (W := 1) (rm_i1e l Z a0 hw [] b440 b442 k442 h442 n0 ((O1.ext E440).ext E442) (A440.ext E442) (F440_value.ext E442) (F440_coder.ext E442) (Nat.le_trans Z0 (Nat.le_of_eq g440.symm)) V442) hZ (tw hw 7 rfl) (tw hw 3 rfl) (by decide) (by decide) own_hEL C443.1) (g := (mkF m 38 #[.val (.int p1), .val (.int p2), .val (.int p3), .val (.int p4), .val (.int (0 : Int32)), .val (.int c0), .val (.int c1), .val (.int c2), .unset, .unset, .unset] [(.ref b442), (.ref b440), (.ref b440)])) rfl (by rw [hml]; rfl) (Steps.refl _) (a := b440) (argsL := [(.ref b442)]) (rest := [(.ref b440)]) (lenOf pd_31 rfl) rfl (by show 2 * 0 + _ ≤ _; exact Nat.le_of_eq rfl) (hb hby at_38) (fun _ _ => ⟨rfl, e442, (by decide : 2 + 4 ≤ _), (by decide : 4 + 8 ≤ _)⟩)
  dsimp only [Pt.U, Pt.locs, Pt.cells, Pt.slots] at X444 l444 y444 z444 st444 hQ444 hS444 hg444 A444
  subst l444 y444 z444
  refine own_gos st444 ?_
  obtain ⟨X444, hS444, hZ444, hown444⟩ := rebS hS0 (k0 := _) (n1 := T442.heap.size) (by rw [e442]; exact (Nat.le_trans hk0 (Nat.le_trans E440.1 E442.1))) X444 hS444 hg444 hZ hown
  obtain ⟨t444, kt444, rfl, Nq444, K444, Fv444, Fc444, Vt444⟩ := hQ444
  have C445 := C443.trans A444
  have N444 := Fr.app N0 Nq444
  refine og (fun _ k => XS.astore X444.here hx rfl (hb hby at_41) rfl rfl (l' := #[.val (.int p1), .val (.int p2), .val (.int p3), .val (.int p4), .val (.int (0 : Int32)), .val (.int c0), .val (.int c1), .val (.int c2), .val (.ref b440), .unset, .unset]) rfl k) ?_
  obtain ⟨T446, h446, X446, e446, E446, A446, D446, U446, st446⟩ := newO X444 hx hZ444 hown444 (tw hw 1 rfl) (tw hw 2 rfl) (tw hw 3 rfl) (rfl : T444.heap = T444.heap) (g := (mkF m 43 #[.val (.int p1), .val (.int p2), .val (.int p3), .val (.int p4), .val (.int (0 : Int32)), .val (.int c0), .val (.int c1), .val (.int c2), .val (.ref b440), .unset, .unset] [])) rfl (hb hby at_43) (by decide) (by decide)
  obtain ⟨b446, g446⟩ : ∃ z, z = T444.heap.size := ⟨_, rfl⟩
  rw [← g446] at A446 D446 U446 st446
  refine own_go st446 ?_
  have C447 := C445.trans (CHr.ext E446 C445.1)
  have F446_value : Fld Z h446 b446 "java/lang/String" "value" "[B" .null := D446 (Or.inr (tw hw 17 rfl)) (ty := (.array .byte)) (by decide)
  have F446_coder : Fld Z h446 b446 "java/lang/String" "coder" "B" (.int (0 : Int32)) := D446 (Or.inr (tw hw 18 rfl)) (ty := .byte) (by decide)
  try dsimp only [mkF]
  refine og (fun _ k => XS.dup X446.here hx rfl (hb hby at_46) rfl rfl k) ?_
  refine og (fun _ k => XS.bipush X446.here hx rfl (hb hby at_47) k) ?_
  obtain ⟨T448, h448, k448, X448, e448, E448, A448, st448⟩ := newP X446 hx hZ444 (tw hw 4 rfl) e446 (g := (mkF m 49 #[.val (.int p1), .val (.int p2), .val (.int p3), .val (.int p4), .val (.int (0 : Int32)), .val (.int c0), .val (.int c1), .val (.int c2), .val (.ref b440), .unset, .unset] [(.int (15 : Int32)), (.ref b446), (.ref b446)])) rfl (hb hby at_49) rfl (by decide) (cap := 15) (by decide) (by decide) (by decide) (by decide)
  obtain ⟨b448, g448⟩ : ∃ z, z = h446.size := ⟨_, rfl⟩
  rw [← g448] at A448 st448
  refine own_go st448 ?_
  have C449 := C447.trans (CHr.ext E448 C447.1)
  have V448 : Arv Z h448 b448 k448 .char (15 : Int32) [(.int (0 : Int32)), (.int (0 : Int32)), (.int (0 : Int32)), (.int (0 : Int32)), (.int (0 : Int32)), (.int (0 : Int32)), (.int (0 : Int32)), (.int (0 : Int32)), (.int (0 : Int32)), (.int (0 : Int32)), (.int (0 : Int32)), (.int (0 : Int32)), (.int (0 : Int32)), (.int (0 : Int32)), (.int (0 : Int32))] (.int (0 : Int32)) := (Arv.new A448 (by decide)).pad (pad_rep [] (.int (0 : Int32)) 15)
  refine og (fun _ k => XS.dup X448.here hx rfl (hb hby at_51) rfl rfl k) ?_
  refine og (fun _ k => XS.iconst X448.here hx rfl (hb hby at_52) k) ?_
  try dsimp only [mkF]
  refine og (fun _ k => XS.bipush X448.here hx rfl (hb hby at_53) k) ?_
  obtain ⟨c450, A450, q450, S450, M450, Hs450, Gs450⟩ := id V448
  obtain ⟨T451, h451, X451, e451, W451, st451⟩ := stC X448 hx hZ444 e448 A450 (j := (0 : Int32)) (inb_of S450 ⟨by decide, by decide⟩) (g := (mkF m 55 #[.val (.int p1), .val (.int p2), .val (.int p3), .val (.int p4), .val (.int (0 : Int32)), .val (.int c0), .val (.int c1), .val (.int c2), .val (.ref b440), .unset, .unset] [(.int (109 : Int32)), (.int (0 : Int32)), (.ref b448), (.ref b448), (.ref b446), (.ref b446)])) rfl rfl (hb hby at_55)
  have z452 := (Nat.le_trans (Nat.le_trans (Nat.le_trans E440.1 E442.1) K444.1) E446.1)
  refine own_go st451 ?_
  have N451 := Fr.snoc X451 N444 (Nat.le_trans Z0 (Nat.le_trans z452 (Nat.le_of_eq g448.symm)))
  have f453 := (Safe.ext E448 C447.1 (Safe.new (Nat.le_of_eq g448.symm)))
  have C454 := C449.trans (CHr.wr W451 f453 C449.1)
  have V451 : Arv Z h451 b448 k448 .char (15 : Int32) [(.int (109 : Int32)), (.int (0 : Int32)), (.int (0 : Int32)), (.int (0 : Int32)), (.int (0 : Int32)), (.int (0 : Int32)), (.int (0 : Int32)), (.int (0 : Int32)), (.int (0 : Int32)), (.int (0 : Int32)), (.int (0 : Int32)), (.int (0 : Int32)), (.int (0 : Int32)), (.int (0 : Int32)), (.int (0 : Int32))] (.int (0 : Int32)) := Arv.set A450 q450 S450 M450 Hs450 Gs450 (fits_nar_char _) W451 0 rfl (Nat.le_of_ble_eq_true rfl)
  refine og (fun _ k => XS.dup X451.here hx rfl (hb hby at_56) rfl rfl k) ?_
  refine og (fun _ k => XS.iconst X451.here hx rfl (hb hby at_57) k) ?_
  refine og (fun _ k => XS.bipush X451.here hx rfl (hb hby at_58) k) ?_
  try dsimp only [mkF]
  obtain ⟨c455, A455, q455, S455, M455, Hs455, Gs455⟩ := id V451
  obtain ⟨T456, h456, X456, e456, W456, st456⟩ := stC X451 hx hZ444 e451 A455 (j := (1 : Int32)) (inb_of S455 ⟨by decide, by decide⟩) (g := (mkF m 60 #[.val (.int p1), .val (.int p2), .val (.int p3), .val (.int p4), .val (.int (0 : Int32)), .val (.int c0), .val (.int c1), .val (.int c2), .val (.ref b440), .unset, .unset] [(.int (105 : Int32)), (.int (1 : Int32)), (.ref b448), (.ref b448), (.ref b446), (.ref b446)])) rfl rfl (hb hby at_60)
  refine own_go st456 ?_
  have N456 := Fr.snoc X456 N451 (Nat.le_trans Z0 (Nat.le_trans z452 (Nat.le_of_eq g448.symm)))
  have f457 := (Safe.wr W451 f453 C449.1 f453)
  have C458 := C454.trans (CHr.wr W456 f457 C454.1)
  have V456 : Arv Z h456 b448 k448 .char (15 : Int32) [(.int (109 : Int32)), (.int (105 : Int32)), (.int (0 : Int32)), (.int (0 : Int32)), (.int (0 : Int32)), (.int (0 : Int32)), (.int (0 : Int32)), (.int (0 : Int32)), (.int (0 : Int32)), (.int (0 : Int32)), (.int (0 : Int32)), (.int (0 : Int32)), (.int (0 : Int32)), (.int (0 : Int32)), (.int (0 : Int32))] (.int (0 : Int32)) := Arv.set A455 q455 S455 M455 Hs455 Gs455 (fits_nar_char _) W456 1 rfl (Nat.le_of_ble_eq_true rfl)
  refine og (fun _ k => XS.dup X456.here hx rfl (hb hby at_61) rfl rfl k) ?_
  refine og (fun _ k => XS.iconst X456.here hx rfl (hb hby at_62) k) ?_
  refine og (fun _ k => XS.bipush X456.here hx rfl (hb hby at_63) k) ?_
  obtain ⟨c459, A459, q459, S459, M459, Hs459, Gs459⟩ := id V456
  obtain ⟨T460, h460, X460, e460, W460, st460⟩ := stC X456 hx hZ444 e456 A459 (j := (2 : Int32)) (inb_of S459 ⟨by decide, by decide⟩) (g := (mkF m 65 #[.val (.int p1), .val (.int p2), .val (.int p3), .val (.int p4), .val (.int (0 : Int32)), .val (.int c0), .val (.int c1), .val (.int c2), .val (.ref b440), .unset, .unset] [(.int (115 : Int32)), (.int (2 : Int32)), (.ref b448), (.ref b448), (.ref b446), (.ref b446)])) rfl rfl (hb hby at_65)
  refine own_go st460 ?_
  have N460 := Fr.snoc X460 N456 (Nat.le_trans Z0 (Nat.le_trans z452 (Nat.le_of_eq g448.symm)))
  obtain ⟨LL460, X460, N460⟩ := own_gl X460 N460
  have f461 := (Safe.wr W456 f457 C454.1 f457)
  have C462 := C458.trans (CHr.wr W460 f461 C458.1)
  have V460 : Arv Z h460 b448 k448 .char (15 : Int32) [(.int (109 : Int32)), (.int (105 : Int32)), (.int (115 : Int32)), (.int (0 : Int32)), (.int (0 : Int32)), (.int (0 : Int32)), (.int (0 : Int32)), (.int (0 : Int32)), (.int (0 : Int32)), (.int (0 : Int32)), (.int (0 : Int32)), (.int (0 : Int32)), (.int (0 : Int32)), (.int (0 : Int32)), (.int (0 : Int32))] (.int (0 : Int32)) := Arv.set A459 q459 S459 M459 Hs459 Gs459 (fits_nar_char _) W460 2 rfl (Nat.le_of_ble_eq_true rfl)
  try dsimp only [mkF]
  refine og (fun _ k => XS.dup X460.here hx rfl (hb hby at_66) rfl rfl k) ?_
  refine og (fun _ k => XS.iconst X460.here hx rfl (hb hby at_67) k) ?_
  refine og (fun _ k => XS.bipush X460.here hx rfl (hb hby at_68) k) ?_
  obtain ⟨c463, A463, q463, S463, M463, Hs463, Gs463⟩ := id V460
  obtain ⟨T464, h464, X464, e464, W464, st464⟩ := stC X460 hx hZ444 e460 A463 (j := (3 : Int32)) (inb_of S463 ⟨by decide, by decide⟩) (g := (mkF m 70 #[.val (.int p1), .val (.int p2), .val (.int p3), .val (.int p4), .val (.int (0 : Int32)), .val (.int c0), .val (.int c1), .val (.int c2), .val (.ref b440), .unset, .unset] [(.int (115 : Int32)), (.int (3 : Int32)), (.ref b448), (.ref b448), (.ref b446), (.ref b446)])) rfl rfl (hb hby at_70)
  refine own_go st464 ?_
  have N464 := Fr.snoc X464 N460 (Nat.le_trans Z0 (Nat.le_trans z452 (Nat.le_of_eq g448.symm)))
  have f465 := (Safe.wr W460 f461 C458.1 f461)
  have C466 := C462.trans (CHr.wr W464 f465 C462.1)
  have V464 : Arv Z h464 b448 k448 .char (15 : Int32) [(.int (109 : Int32)), (.int (105 : Int32)), (.int (115 : Int32)), (.int (115 : Int32)), (.int (0 : Int32)), (.int (0 : Int32)), (.int (0 : Int32)), (.int (0 : Int32)), (.int (0 : Int32)), (.int (0 : Int32)), (.int (0 : Int32)), (.int (0 : Int32)), (.int (0 : Int32)), (.int (0 : Int32)), (.int (0 : Int32))] (.int (0 : Int32)) := Arv.set A463 q463 S463 M463 Hs463 Gs463 (fits_nar_char _) W464 3 rfl (Nat.le_of_ble_eq_true rfl)
  refine og (fun _ k => XS.dup X464.here hx rfl (hb hby at_71) rfl rfl k) ?_
  try dsimp only [mkF]
  refine og (fun _ k => XS.iconst X464.here hx rfl (hb hby at_72) k) ?_
  refine og (fun _ k => XS.bipush X464.here hx rfl (hb hby at_73) k) ?_
  obtain ⟨c467, A467, q467, S467, M467, Hs467, Gs467⟩ := id V464
  obtain ⟨T468, h468, X468, e468, W468, st468⟩ := stC X464 hx hZ444 e464 A467 (j := (4 : Int32)) (inb_of S467 ⟨by decide, by decide⟩) (g := (mkF m 75 #[.val (.int p1), .val (.int p2), .val (.int p3), .val (.int p4), .val (.int (0 : Int32)), .val (.int c0), .val (.int c1), .val (.int c2), .val (.ref b440), .unset, .unset] [(.int (105 : Int32)), (.int (4 : Int32)), (.ref b448), (.ref b448), (.ref b446), (.ref b446)])) rfl rfl (hb hby at_75)
  refine own_go st468 ?_
  have N468 := Fr.snoc X468 N464 (Nat.le_trans Z0 (Nat.le_trans z452 (Nat.le_of_eq g448.symm)))
  have f469 := (Safe.wr W464 f465 C462.1 f465)
  have C470 := C466.trans (CHr.wr W468 f469 C466.1)
  have V468 : Arv Z h468 b448 k448 .char (15 : Int32) [(.int (109 : Int32)), (.int (105 : Int32)), (.int (115 : Int32)), (.int (115 : Int32)), (.int (105 : Int32)), (.int (0 : Int32)), (.int (0 : Int32)), (.int (0 : Int32)), (.int (0 : Int32)), (.int (0 : Int32)), (.int (0 : Int32)), (.int (0 : Int32)), (.int (0 : Int32)), (.int (0 : Int32)), (.int (0 : Int32))] (.int (0 : Int32)) := Arv.set A467 q467 S467 M467 Hs467 Gs467 (fits_nar_char _) W468 4 rfl (Nat.le_of_ble_eq_true rfl)
  refine og (fun _ k => XS.dup X468.here hx rfl (hb hby at_76) rfl rfl k) ?_
  refine og (fun _ k => XS.iconst X468.here hx rfl (hb hby at_77) k) ?_
  try dsimp only [mkF]
  refine og (fun _ k => XS.bipush X468.here hx rfl (hb hby at_78) k) ?_
  obtain ⟨c471, A471, q471, S471, M471, Hs471, Gs471⟩ := id V468
  obtain ⟨T472, h472, X472, e472, W472, st472⟩ := stC X468 hx hZ444 e468 A471 (j := (5 : Int32)) (inb_of S471 ⟨by decide, by decide⟩) (g := (mkF m 80 #[.val (.int p1), .val (.int p2), .val (.int p3), .val (.int p4), .val (.int (0 : Int32)), .val (.int c0), .val (.int c1), .val (.int c2), .val (.ref b440), .unset, .unset] [(.int (110 : Int32)), (.int (5 : Int32)), (.ref b448), (.ref b448), (.ref b446), (.ref b446)])) rfl rfl (hb hby at_80)
  refine own_go st472 ?_
  have N472 := Fr.snoc X472 N468 (Nat.le_trans Z0 (Nat.le_trans z452 (Nat.le_of_eq g448.symm)))
  obtain ⟨LL472, X472, N472⟩ := own_gl X472 N472
  have f473 := (Safe.wr W468 f469 C466.1 f469)
  have C474 := C470.trans (CHr.wr W472 f473 C470.1)
  have V472 : Arv Z h472 b448 k448 .char (15 : Int32) [(.int (109 : Int32)), (.int (105 : Int32)), (.int (115 : Int32)), (.int (115 : Int32)), (.int (105 : Int32)), (.int (110 : Int32)), (.int (0 : Int32)), (.int (0 : Int32)), (.int (0 : Int32)), (.int (0 : Int32)), (.int (0 : Int32)), (.int (0 : Int32)), (.int (0 : Int32)), (.int (0 : Int32)), (.int (0 : Int32))] (.int (0 : Int32)) := Arv.set A471 q471 S471 M471 Hs471 Gs471 (fits_nar_char _) W472 5 rfl (Nat.le_of_ble_eq_true rfl)
  refine og (fun _ k => XS.dup X472.here hx rfl (hb hby at_81) rfl rfl k) ?_
  refine og (fun _ k => XS.bipush X472.here hx rfl (hb hby at_82) k) ?_
  refine og (fun _ k => XS.bipush X472.here hx rfl (hb hby at_84) k) ?_
  try dsimp only [mkF]
  obtain ⟨c475, A475, q475, S475, M475, Hs475, Gs475⟩ := id V472
  obtain ⟨T476, h476, X476, e476, W476, st476⟩ := stC X472 hx hZ444 e472 A475 (j := (6 : Int32)) (inb_of S475 ⟨by decide, by decide⟩) (g := (mkF m 86 #[.val (.int p1), .val (.int p2), .val (.int p3), .val (.int p4), .val (.int (0 : Int32)), .val (.int c0), .val (.int c1), .val (.int c2), .val (.ref b440), .unset, .unset] [(.int (103 : Int32)), (.int (6 : Int32)), (.ref b448), (.ref b448), (.ref b446), (.ref b446)])) rfl rfl (hb hby at_86)
  refine own_go st476 ?_
  have N476 := Fr.snoc X476 N472 (Nat.le_trans Z0 (Nat.le_trans z452 (Nat.le_of_eq g448.symm)))
  have f477 := (Safe.wr W472 f473 C470.1 f473)
  have C478 := C474.trans (CHr.wr W476 f477 C474.1)
  have V476 : Arv Z h476 b448 k448 .char (15 : Int32) [(.int (109 : Int32)), (.int (105 : Int32)), (.int (115 : Int32)), (.int (115 : Int32)), (.int (105 : Int32)), (.int (110 : Int32)), (.int (103 : Int32)), (.int (0 : Int32)), (.int (0 : Int32)), (.int (0 : Int32)), (.int (0 : Int32)), (.int (0 : Int32)), (.int (0 : Int32)), (.int (0 : Int32)), (.int (0 : Int32))] (.int (0 : Int32)) := Arv.set A475 q475 S475 M475 Hs475 Gs475 (fits_nar_char _) W476 6 rfl (Nat.le_of_ble_eq_true rfl)
  refine og (fun _ k => XS.dup X476.here hx rfl (hb hby at_87) rfl rfl k) ?_
  refine og (fun _ k => XS.bipush X476.here hx rfl (hb hby at_88) k) ?_
  refine og (fun _ k => XS.bipush X476.here hx rfl (hb hby at_90) k) ?_
  obtain ⟨c479, A479, q479, S479, M479, Hs479, Gs479⟩ := id V476
  obtain ⟨T480, h480, X480, e480, W480, st480⟩ := stC X476 hx hZ444 e476 A479 (j := (7 : Int32)) (inb_of S479 ⟨by decide, by decide⟩) (g := (mkF m 92 #[.val (.int p1), .val (.int p2), .val (.int p3), .val (.int p4), .val (.int (0 : Int32)), .val (.int c0), .val (.int c1), .val (.int c2), .val (.ref b440), .unset, .unset] [(.int (32 : Int32)), (.int (7 : Int32)), (.ref b448), (.ref b448), (.ref b446), (.ref b446)])) rfl rfl (hb hby at_92)
  refine own_go st480 ?_
  have N480 := Fr.snoc X480 N476 (Nat.le_trans Z0 (Nat.le_trans z452 (Nat.le_of_eq g448.symm)))
  have f481 := (Safe.wr W476 f477 C474.1 f477)
  have C482 := C478.trans (CHr.wr W480 f481 C478.1)
  have V480 : Arv Z h480 b448 k448 .char (15 : Int32) [(.int (109 : Int32)), (.int (105 : Int32)), (.int (115 : Int32)), (.int (115 : Int32)), (.int (105 : Int32)), (.int (110 : Int32)), (.int (103 : Int32)), (.int (32 : Int32)), (.int (0 : Int32)), (.int (0 : Int32)), (.int (0 : Int32)), (.int (0 : Int32)), (.int (0 : Int32)), (.int (0 : Int32)), (.int (0 : Int32))] (.int (0 : Int32)) := Arv.set A479 q479 S479 M479 Hs479 Gs479 (fits_nar_char _) W480 7 rfl (Nat.le_of_ble_eq_true rfl)
  try dsimp only [mkF]
  refine og (fun _ k => XS.dup X480.here hx rfl (hb hby at_93) rfl rfl k) ?_
  refine og (fun _ k => XS.bipush X480.here hx rfl (hb hby at_94) k) ?_
  refine og (fun _ k => XS.bipush X480.here hx rfl (hb hby at_96) k) ?_
  obtain ⟨c483, A483, q483, S483, M483, Hs483, Gs483⟩ := id V480
  obtain ⟨T484, h484, X484, e484, W484, st484⟩ := stC X480 hx hZ444 e480 A483 (j := (8 : Int32)) (inb_of S483 ⟨by decide, by decide⟩) (g := (mkF m 98 #[.val (.int p1), .val (.int p2), .val (.int p3), .val (.int p4), .val (.int (0 : Int32)), .val (.int c0), .val (.int c1), .val (.int c2), .val (.ref b440), .unset, .unset] [(.int (111 : Int32)), (.int (8 : Int32)), (.ref b448), (.ref b448), (.ref b446), (.ref b446)])) rfl rfl (hb hby at_98)
  refine own_go st484 ?_
  have N484 := Fr.snoc X484 N480 (Nat.le_trans Z0 (Nat.le_trans z452 (Nat.le_of_eq g448.symm)))
  obtain ⟨LL484, X484, N484⟩ := own_gl X484 N484
  have f485 := (Safe.wr W480 f481 C478.1 f481)
  have C486 := C482.trans (CHr.wr W484 f485 C482.1)
  have V484 : Arv Z h484 b448 k448 .char (15 : Int32) [(.int (109 : Int32)), (.int (105 : Int32)), (.int (115 : Int32)), (.int (115 : Int32)), (.int (105 : Int32)), (.int (110 : Int32)), (.int (103 : Int32)), (.int (32 : Int32)), (.int (111 : Int32)), (.int (0 : Int32)), (.int (0 : Int32)), (.int (0 : Int32)), (.int (0 : Int32)), (.int (0 : Int32)), (.int (0 : Int32))] (.int (0 : Int32)) := Arv.set A483 q483 S483 M483 Hs483 Gs483 (fits_nar_char _) W484 8 rfl (Nat.le_of_ble_eq_true rfl)
  refine og (fun _ k => XS.dup X484.here hx rfl (hb hby at_99) rfl rfl k) ?_
  try dsimp only [mkF]
  refine og (fun _ k => XS.bipush X484.here hx rfl (hb hby at_100) k) ?_
  refine og (fun _ k => XS.bipush X484.here hx rfl (hb hby at_102) k) ?_
  obtain ⟨c487, A487, q487, S487, M487, Hs487, Gs487⟩ := id V484
  obtain ⟨T488, h488, X488, e488, W488, st488⟩ := stC X484 hx hZ444 e484 A487 (j := (9 : Int32)) (inb_of S487 ⟨by decide, by decide⟩) (g := (mkF m 104 #[.val (.int p1), .val (.int p2), .val (.int p3), .val (.int p4), .val (.int (0 : Int32)), .val (.int c0), .val (.int c1), .val (.int c2), .val (.ref b440), .unset, .unset] [(.int (112 : Int32)), (.int (9 : Int32)), (.ref b448), (.ref b448), (.ref b446), (.ref b446)])) rfl rfl (hb hby at_104)
  refine own_go st488 ?_
  have N488 := Fr.snoc X488 N484 (Nat.le_trans Z0 (Nat.le_trans z452 (Nat.le_of_eq g448.symm)))
  have f489 := (Safe.wr W484 f485 C482.1 f485)
  have C490 := C486.trans (CHr.wr W488 f489 C486.1)
  have V488 : Arv Z h488 b448 k448 .char (15 : Int32) [(.int (109 : Int32)), (.int (105 : Int32)), (.int (115 : Int32)), (.int (115 : Int32)), (.int (105 : Int32)), (.int (110 : Int32)), (.int (103 : Int32)), (.int (32 : Int32)), (.int (111 : Int32)), (.int (112 : Int32)), (.int (0 : Int32)), (.int (0 : Int32)), (.int (0 : Int32)), (.int (0 : Int32)), (.int (0 : Int32))] (.int (0 : Int32)) := Arv.set A487 q487 S487 M487 Hs487 Gs487 (fits_nar_char _) W488 9 rfl (Nat.le_of_ble_eq_true rfl)
  refine og (fun _ k => XS.dup X488.here hx rfl (hb hby at_105) rfl rfl k) ?_
  refine og (fun _ k => XS.bipush X488.here hx rfl (hb hby at_106) k) ?_
  try dsimp only [mkF]
  refine og (fun _ k => XS.bipush X488.here hx rfl (hb hby at_108) k) ?_
  obtain ⟨c491, A491, q491, S491, M491, Hs491, Gs491⟩ := id V488
  obtain ⟨T492, h492, X492, e492, W492, st492⟩ := stC X488 hx hZ444 e488 A491 (j := (10 : Int32)) (inb_of S491 ⟨by decide, by decide⟩) (g := (mkF m 110 #[.val (.int p1), .val (.int p2), .val (.int p3), .val (.int p4), .val (.int (0 : Int32)), .val (.int c0), .val (.int c1), .val (.int c2), .val (.ref b440), .unset, .unset] [(.int (116 : Int32)), (.int (10 : Int32)), (.ref b448), (.ref b448), (.ref b446), (.ref b446)])) rfl rfl (hb hby at_110)
  refine own_go st492 ?_
  have N492 := Fr.snoc X492 N488 (Nat.le_trans Z0 (Nat.le_trans z452 (Nat.le_of_eq g448.symm)))
  have f493 := (Safe.wr W488 f489 C486.1 f489)
  have C494 := C490.trans (CHr.wr W492 f493 C490.1)
  have V492 : Arv Z h492 b448 k448 .char (15 : Int32) [(.int (109 : Int32)), (.int (105 : Int32)), (.int (115 : Int32)), (.int (115 : Int32)), (.int (105 : Int32)), (.int (110 : Int32)), (.int (103 : Int32)), (.int (32 : Int32)), (.int (111 : Int32)), (.int (112 : Int32)), (.int (116 : Int32)), (.int (0 : Int32)), (.int (0 : Int32)), (.int (0 : Int32)), (.int (0 : Int32))] (.int (0 : Int32)) := Arv.set A491 q491 S491 M491 Hs491 Gs491 (fits_nar_char _) W492 10 rfl (Nat.le_of_ble_eq_true rfl)
  refine og (fun _ k => XS.dup X492.here hx rfl (hb hby at_111) rfl rfl k) ?_
  refine og (fun _ k => XS.bipush X492.here hx rfl (hb hby at_112) k) ?_
  refine og (fun _ k => XS.bipush X492.here hx rfl (hb hby at_114) k) ?_
  try dsimp only [mkF]
  obtain ⟨c495, A495, q495, S495, M495, Hs495, Gs495⟩ := id V492
  obtain ⟨T496, h496, X496, e496, W496, st496⟩ := stC X492 hx hZ444 e492 A495 (j := (11 : Int32)) (inb_of S495 ⟨by decide, by decide⟩) (g := (mkF m 116 #[.val (.int p1), .val (.int p2), .val (.int p3), .val (.int p4), .val (.int (0 : Int32)), .val (.int c0), .val (.int c1), .val (.int c2), .val (.ref b440), .unset, .unset] [(.int (105 : Int32)), (.int (11 : Int32)), (.ref b448), (.ref b448), (.ref b446), (.ref b446)])) rfl rfl (hb hby at_116)
  refine own_go st496 ?_
  have N496 := Fr.snoc X496 N492 (Nat.le_trans Z0 (Nat.le_trans z452 (Nat.le_of_eq g448.symm)))
  obtain ⟨LL496, X496, N496⟩ := own_gl X496 N496
  have f497 := (Safe.wr W492 f493 C490.1 f493)
  have C498 := C494.trans (CHr.wr W496 f497 C494.1)
  have V496 : Arv Z h496 b448 k448 .char (15 : Int32) [(.int (109 : Int32)), (.int (105 : Int32)), (.int (115 : Int32)), (.int (115 : Int32)), (.int (105 : Int32)), (.int (110 : Int32)), (.int (103 : Int32)), (.int (32 : Int32)), (.int (111 : Int32)), (.int (112 : Int32)), (.int (116 : Int32)), (.int (105 : Int32)), (.int (0 : Int32)), (.int (0 : Int32)), (.int (0 : Int32))] (.int (0 : Int32)) := Arv.set A495 q495 S495 M495 Hs495 Gs495 (fits_nar_char _) W496 11 rfl (Nat.le_of_ble_eq_true rfl)
  refine og (fun _ k => XS.dup X496.here hx rfl (hb hby at_117) rfl rfl k) ?_
  refine og (fun _ k => XS.bipush X496.here hx rfl (hb hby at_118) k) ?_
  refine og (fun _ k => XS.bipush X496.here hx rfl (hb hby at_120) k) ?_
  obtain ⟨c499, A499, q499, S499, M499, Hs499, Gs499⟩ := id V496
  obtain ⟨T500, h500, X500, e500, W500, st500⟩ := stC X496 hx hZ444 e496 A499 (j := (12 : Int32)) (inb_of S499 ⟨by decide, by decide⟩) (g := (mkF m 122 #[.val (.int p1), .val (.int p2), .val (.int p3), .val (.int p4), .val (.int (0 : Int32)), .val (.int c0), .val (.int c1), .val (.int c2), .val (.ref b440), .unset, .unset] [(.int (111 : Int32)), (.int (12 : Int32)), (.ref b448), (.ref b448), (.ref b446), (.ref b446)])) rfl rfl (hb hby at_122)
  refine own_go st500 ?_
  have N500 := Fr.snoc X500 N496 (Nat.le_trans Z0 (Nat.le_trans z452 (Nat.le_of_eq g448.symm)))
  have f501 := (Safe.wr W496 f497 C494.1 f497)
  have C502 := C498.trans (CHr.wr W500 f501 C498.1)
  have V500 : Arv Z h500 b448 k448 .char (15 : Int32) [(.int (109 : Int32)), (.int (105 : Int32)), (.int (115 : Int32)), (.int (115 : Int32)), (.int (105 : Int32)), (.int (110 : Int32)), (.int (103 : Int32)), (.int (32 : Int32)), (.int (111 : Int32)), (.int (112 : Int32)), (.int (116 : Int32)), (.int (105 : Int32)), (.int (111 : Int32)), (.int (0 : Int32)), (.int (0 : Int32))] (.int (0 : Int32)) := Arv.set A499 q499 S499 M499 Hs499 Gs499 (fits_nar_char _) W500 12 rfl (Nat.le_of_ble_eq_true rfl)
  try dsimp only [mkF]
  refine og (fun _ k => XS.dup X500.here hx rfl (hb hby at_123) rfl rfl k) ?_
  refine og (fun _ k => XS.bipush X500.here hx rfl (hb hby at_124) k) ?_
  refine og (fun _ k => XS.bipush X500.here hx rfl (hb hby at_126) k) ?_
  obtain ⟨c503, A503, q503, S503, M503, Hs503, Gs503⟩ := id V500
  obtain ⟨T504, h504, X504, e504, W504, st504⟩ := stC X500 hx hZ444 e500 A503 (j := (13 : Int32)) (inb_of S503 ⟨by decide, by decide⟩) (g := (mkF m 128 #[.val (.int p1), .val (.int p2), .val (.int p3), .val (.int p4), .val (.int (0 : Int32)), .val (.int c0), .val (.int c1), .val (.int c2), .val (.ref b440), .unset, .unset] [(.int (110 : Int32)), (.int (13 : Int32)), (.ref b448), (.ref b448), (.ref b446), (.ref b446)])) rfl rfl (hb hby at_128)
  refine own_go st504 ?_
  have N504 := Fr.snoc X504 N500 (Nat.le_trans Z0 (Nat.le_trans z452 (Nat.le_of_eq g448.symm)))
  have f505 := (Safe.wr W500 f501 C498.1 f501)
  have C506 := C502.trans (CHr.wr W504 f505 C502.1)
  have V504 : Arv Z h504 b448 k448 .char (15 : Int32) [(.int (109 : Int32)), (.int (105 : Int32)), (.int (115 : Int32)), (.int (115 : Int32)), (.int (105 : Int32)), (.int (110 : Int32)), (.int (103 : Int32)), (.int (32 : Int32)), (.int (111 : Int32)), (.int (112 : Int32)), (.int (116 : Int32)), (.int (105 : Int32)), (.int (111 : Int32)), (.int (110 : Int32)), (.int (0 : Int32))] (.int (0 : Int32)) := Arv.set A503 q503 S503 M503 Hs503 Gs503 (fits_nar_char _) W504 13 rfl (Nat.le_of_ble_eq_true rfl)
  refine og (fun _ k => XS.dup X504.here hx rfl (hb hby at_129) rfl rfl k) ?_
  try dsimp only [mkF]
  refine og (fun _ k => XS.bipush X504.here hx rfl (hb hby at_130) k) ?_
  refine og (fun _ k => XS.bipush X504.here hx rfl (hb hby at_132) k) ?_
  obtain ⟨c507, A507, q507, S507, M507, Hs507, Gs507⟩ := id V504
  obtain ⟨T508, h508, X508, e508, W508, st508⟩ := stC X504 hx hZ444 e504 A507 (j := (14 : Int32)) (inb_of S507 ⟨by decide, by decide⟩) (g := (mkF m 134 #[.val (.int p1), .val (.int p2), .val (.int p3), .val (.int p4), .val (.int (0 : Int32)), .val (.int c0), .val (.int c1), .val (.int c2), .val (.ref b440), .unset, .unset] [(.int (32 : Int32)), (.int (14 : Int32)), (.ref b448), (.ref b448), (.ref b446), (.ref b446)])) rfl rfl (hb hby at_134)
  refine own_go st508 ?_
  have N508 := Fr.snoc X508 N504 (Nat.le_trans Z0 (Nat.le_trans z452 (Nat.le_of_eq g448.symm)))
  obtain ⟨LL508, X508, N508⟩ := own_gl X508 N508
  have f509 := (Safe.wr W504 f505 C502.1 f505)
  have C510 := C506.trans (CHr.wr W508 f509 C506.1)
  have V508 : Arv Z h508 b448 k448 .char (15 : Int32) [(.int (109 : Int32)), (.int (105 : Int32)), (.int (115 : Int32)), (.int (115 : Int32)), (.int (105 : Int32)), (.int (110 : Int32)), (.int (103 : Int32)), (.int (32 : Int32)), (.int (111 : Int32)), (.int (112 : Int32)), (.int (116 : Int32)), (.int (105 : Int32)), (.int (111 : Int32)), (.int (110 : Int32)), (.int (32 : Int32))] (.int (0 : Int32)) := Arv.set A507 q507 S507 M507 Hs507 Gs507 (fits_nar_char _) W508 14 rfl (Nat.le_of_ble_eq_true rfl)
  have f511 := ((((A446.ext E448).wr W451).wr W456).wr W460)
  have f512 := ((((f511.wr W464).wr W468).wr W472).wr W476)
  have f513 := ((((f512.wr W480).wr W484).wr W488).wr W492)
  have f514 := ((((f513.wr W496).wr W500).wr W504).wr W508)
  have ne515 : b446 ≠ b448 := Nat.ne_of_lt (Nat.lt_of_lt_of_le A446.lt (Nat.le_of_eq g448.symm))
  have f516 := ((((F446_value.ext E448).other W451 (Or.inl ne515)).other W456 (Or.inl ne515)).other W460 (Or.inl ne515))
  have f517 := ((((f516.other W464 (Or.inl ne515)).other W468 (Or.inl ne515)).other W472 (Or.inl ne515)).other W476 (Or.inl ne515))
  have f518 := ((((f517.other W480 (Or.inl ne515)).other W484 (Or.inl ne515)).other W488 (Or.inl ne515)).other W492 (Or.inl ne515))
  have f519 := ((((f518.other W496 (Or.inl ne515)).other W500 (Or.inl ne515)).other W504 (Or.inl ne515)).other W508 (Or.inl ne515))
  have f520 := ((((F446_coder.ext E448).other W451 (Or.inl ne515)).other W456 (Or.inl ne515)).other W460 (Or.inl ne515))
  have f521 := ((((f520.other W464 (Or.inl ne515)).other W468 (Or.inl ne515)).other W472 (Or.inl ne515)).other W476 (Or.inl ne515))
  have f522 := ((((f521.other W480 (Or.inl ne515)).other W484 (Or.inl ne515)).other W488 (Or.inl ne515)).other W492 (Or.inl ne515))
  have f523 := ((((f522.other W496 (Or.inl ne515)).other W500 (Or.inl ne515)).other W504 (Or.inl ne515)).other W508 (Or.inl ne515))
  have z524 := (Nat.le_trans (Nat.le_trans E440.1 E442.1) K444.1)
  have f525 := ((((((O1.ext E440).ext E442).keep K444 (allS (Nat.le_trans Z0 (Nat.le_of_eq g440.symm)) all0)).ext E446).ext E448).wr W451 (Nat.le_trans Z0 (Nat.le_trans z452 (Nat.le_of_eq g448.symm))))
  have f526 := ((((f525.wr W456 (Nat.le_trans Z0 (Nat.le_trans z452 (Nat.le_of_eq g448.symm)))).wr W460 (Nat.le_trans Z0 (Nat.le_trans z452 (Nat.le_of_eq g448.symm)))).wr W464 (Nat.le_trans Z0 (Nat.le_trans z452 (Nat.le_of_eq g448.symm)))).wr W468 (Nat.le_trans Z0 (Nat.le_trans z452 (Nat.le_of_eq g448.symm))))
  have f527 := ((((f526.wr W472 (Nat.le_trans Z0 (Nat.le_trans z452 (Nat.le_of_eq g448.symm)))).wr W476 (Nat.le_trans Z0 (Nat.le_trans z452 (Nat.le_of_eq g448.symm)))).wr W480 (Nat.le_trans Z0 (Nat.le_trans z452 (Nat.le_of_eq g448.symm)))).wr W484 (Nat.le_trans Z0 (Nat.le_trans z452 (Nat.le_of_eq g448.symm))))
  have f528 := ((((f527.wr W488 (Nat.le_trans Z0 (Nat.le_trans z452 (Nat.le_of_eq g448.symm)))).wr W492 (Nat.le_trans Z0 (Nat.le_trans z452 (Nat.le_of_eq g448.symm)))).wr W496 (Nat.le_trans Z0 (Nat.le_trans z452 (Nat.le_of_eq g448.symm)))).wr W500 (Nat.le_trans Z0 (Nat.le_trans z452 (Nat.le_of_eq g448.symm))))
  have f529 := ((f528.wr W504 (Nat.le_trans Z0 (Nat.le_trans z452 (Nat.le_of_eq g448.symm)))).wr W508 (Nat.le_trans Z0 (Nat.le_trans z452 (Nat.le_of_eq g448.symm))))
  obtain ⟨v530, _, ⟨T530, L530, k530, n530⟩, -, X530, ⟨Lc530, hQ530, l530, y530, z530⟩, st530⟩ := X508.specialBack hx (y := (⟨"java/lang/String", "<init>", "([C)V"⟩ : MethodName)) rfl hown444 (mvT hZ444 (tw hw 5 rfl)) (mvT hZ444 (tw hw 6 rfl)) (mvT hZ444 (tw hw 7 rfl)) (by decide) (backOf (W := 1) (rm_i1 l Z a0 hw [] b446 b448 k448 (.int (0 : Int32)) ([109, 105, 115, 115, 105, 110, 103, 32, 111, 112, 116, 105, 111, 110, 32] : List Int32) G1 h508 n0 f529 f514 f519 f523 (Nat.le_trans Z0 (Nat.le_trans z524 (Nat.le_of_eq g446.symm))) OA OH OL O2 P5 (own_okE0) V508 (Nat.le_of_ble_eq_true rfl) (Nat.le_of_ble_eq_true rfl)) hZ444 (tw hw 7 rfl) (tw hw 3 rfl) (by decide) (by decide)) (g := (mkF m 135 #[.val (.int p1), .val (.int p2), .val (.int p3), .val (.int p4), .val (.int (0 : Int32)), .val (.int c0), .val (.int c1), .val (.int c2), .val (.ref b440), .unset, .unset] [(.ref b448), (.ref b446), (.ref b446)])) rfl (by rw [hml]; rfl) (Steps.refl _) (a := b446) (argsL := [(.ref b448)]) (rest := [(.ref b446)]) (lenOf pd_31 rfl) rfl (by show 2 * 0 + _ ≤ _; exact Nat.le_of_eq rfl) (hb hby at_135) (fun _ _ => ⟨rfl, e508, (by decide : 8 + 2 ≤ _), (by decide : 31 + 86 ≤ _)⟩)
  dsimp only [Pt.U, Pt.locs, Pt.cells, Pt.slots] at X530 l530 y530 z530 st530 hQ530
  subst l530 y530 z530
  refine own_gos st530 ?_
  obtain ⟨t530, kt530, cd530, N2530, vs530, rfl, Nq530, K530, Fv530, Fc530, Vt530, hC530⟩ := hQ530
  have f531 := (Safe.wr W456 f457 C454.1 (Safe.wr W451 f453 C449.1 (Safe.ext E448 C447.1 (Safe.ext E446 C445.1 (Safe.new (Nat.le_of_eq g446.symm))))))
  have f532 := (Safe.wr W472 f473 C470.1 (Safe.wr W468 f469 C466.1 (Safe.wr W464 f465 C462.1 (Safe.wr W460 f461 C458.1 f531))))
  have f533 := (Safe.wr W488 f489 C486.1 (Safe.wr W484 f485 C482.1 (Safe.wr W480 f481 C478.1 (Safe.wr W476 f477 C474.1 f532))))
  have f534 := (Safe.wr W504 f505 C502.1 (Safe.wr W500 f501 C498.1 (Safe.wr W496 f497 C494.1 (Safe.wr W492 f493 C490.1 f533))))
  have f535 := (Safe.wr W508 f509 C506.1 f534)
  have C536 := C510.trans (CHr.keep K530 (sfS f535 sf0) C510.1)
  have N530 := Fr.app N508 Nq530
  refine og (fun _ k => XS.astore X530.here hx rfl (hb hby at_138) rfl rfl (l' := #[.val (.int p1), .val (.int p2), .val (.int p3), .val (.int p4), .val (.int (0 : Int32)), .val (.int c0), .val (.int c1), .val (.int c2), .val (.ref b440), .val (.ref b446), .unset]) rfl k) ?_
  try dsimp only [mkF]
  refine og (fun _ k => XS.goto X530.here hx rfl (pc0 := 140) (pc' := 554) rfl (hb hby at_140) (by decide) (by decide) k) ?_
  refine og (fun _ k => XS.aload X530.here hx rfl (hb hby at_554) rfl rfl k) ?_
  have f537 := (((((A440.ext E442).keep K444).ext E446).ext E448).wr W451)
  have f538 := ((((f537.wr W456).wr W460).wr W464).wr W468)
  have f539 := ((((f538.wr W472).wr W476).wr W480).wr W484)
  have f540 := ((((f539.wr W488).wr W492).wr W496).wr W500)
  have f541 := (((f540.wr W504).wr W508).keep K530)
  have z543 := (Nat.le_trans (Nat.le_trans E442.1 K444.1) E446.1)
  have ne542 : b440 ≠ b448 := Nat.ne_of_lt (Nat.lt_of_lt_of_le (Nat.lt_of_lt_of_le A440.lt z543) (Nat.le_of_eq g448.symm))
  have f544 := ((((Fv444.ext E446).ext E448).other W451 (Or.inl ne542)).other W456 (Or.inl ne542))
  have f545 := ((((f544.other W460 (Or.inl ne542)).other W464 (Or.inl ne542)).other W468 (Or.inl ne542)).other W472 (Or.inl ne542))
  have f546 := ((((f545.other W476 (Or.inl ne542)).other W480 (Or.inl ne542)).other W484 (Or.inl ne542)).other W488 (Or.inl ne542))
  have f547 := ((((f546.other W492 (Or.inl ne542)).other W496 (Or.inl ne542)).other W500 (Or.inl ne542)).other W504 (Or.inl ne542))
  have ne548 : b440 ≠ b446 := Nat.ne_of_lt (Nat.lt_of_lt_of_le (Nat.lt_of_lt_of_le A440.lt (Nat.le_trans E442.1 K444.1)) (Nat.le_of_eq g446.symm))
  have f549 := ((f547.other W508 (Or.inl ne542)).keep K530 (ninS ne548 nin0))
  have f550 := ((((Fc444.ext E446).ext E448).other W451 (Or.inl ne542)).other W456 (Or.inl ne542))
  have f551 := ((((f550.other W460 (Or.inl ne542)).other W464 (Or.inl ne542)).other W468 (Or.inl ne542)).other W472 (Or.inl ne542))
  have f552 := ((((f551.other W476 (Or.inl ne542)).other W480 (Or.inl ne542)).other W484 (Or.inl ne542)).other W488 (Or.inl ne542))
  have f553 := ((((f552.other W492 (Or.inl ne542)).other W496 (Or.inl ne542)).other W500 (Or.inl ne542)).other W504 (Or.inl ne542))
  have f554 := ((f553.other W508 (Or.inl ne542)).keep K530 (ninS ne548 nin0))
  have ne555 : t444 ≠ b448 := Nat.ne_of_lt (Nat.lt_of_lt_of_le (Nat.lt_of_lt_of_le Vt444.lt E446.1) (Nat.le_of_eq g448.symm))
  have f556 := ((((Vt444.ext E446).ext E448).other W451 ne555).other W456 ne555)
  have f557 := ((((f556.other W460 ne555).other W464 ne555).other W468 ne555).other W472 ne555)
  have f558 := ((((f557.other W476 ne555).other W480 ne555).other W484 ne555).other W488 ne555)
  have f559 := ((((f558.other W492 ne555).other W496 ne555).other W500 ne555).other W504 ne555)
  have ne560 : t444 ≠ b446 := Nat.ne_of_lt (Nat.lt_of_lt_of_le Vt444.lt (Nat.le_of_eq g446.symm))
  have f561 := ((f559.other W508 ne555).keep K530 (ninS ne560 nin0))
  have f562 := (ThS.ext E446 (ThS.keep K444 (nsS (Exa.nostat (A440.ext E442)) ns0) (ThS.ext E442 (ThS.ext E440 hTh))))
  have f563 := (ThS.wr W460 (ThS.wr W456 (ThS.wr W451 (ThS.ext E448 f562))))
  have f564 := (ThS.wr W476 (ThS.wr W472 (ThS.wr W468 (ThS.wr W464 f563))))
  have f565 := (ThS.wr W492 (ThS.wr W488 (ThS.wr W484 (ThS.wr W480 f564))))
  have f566 := (ThS.wr W508 (ThS.wr W504 (ThS.wr W500 (ThS.wr W496 f565))))
  have f567 := (ThS.keep K530 (nsS (Exa.nostat f514) ns0) f566)
  have f568 := (f529.keep K530 (allS (Nat.le_trans Z0 (Nat.le_trans z524 (Nat.le_of_eq g446.symm))) all0))
  obtain ⟨v569, _, ⟨T569, L569, k569, n569⟩, -, X569, hS569, hg569, ⟨Lc569, hQ569, l569, y569, z569, A569⟩, st569⟩ := callSS X530 hx (y := (⟨"com/example/cohortwise/cohortwise/cli/Arguments", "missingOption", "(Ljava/lang/String;)Lcom/example/cohortwise/cohortwise/cli/InputRefusedException;"⟩ : MethodName)) hown444 (mvT hZ444 (tw hw 34 rfl)) (mvT hZ444 (tw hw 35 rfl)) (mvT hZ444 (tw hw 36 rfl)) (mvT hZ444 (tw hw 37 rfl)) (by decide) (backOfSKH (W := 0) (rm_mis l Z a0 hw [] b440 t444 kt444 ([] : List Int32) (0 : Int32) (0 : Int32) [] G1 G3 T530.heap n0 f568 O2 P5 O4 rG3 OA OH OL f541 f549 f554 f561 own_cod0 (own_okL0) (Nat.le_of_ble_eq_true rfl) hl hR2 f567) hZ444 (tw hw 37 rfl) (tw hw 36 rfl) (by decide) (by decide) own_hEL C536.1 (Vm.MethodsKnown.alikeC hS444.1.alike hTK) (Vm.FramesKnown.alikeC hS444.1.alike hBelow)) (g := (mkF m 556 #[.val (.int p1), .val (.int p2), .val (.int p3), .val (.int p4), .val (.int (0 : Int32)), .val (.int c0), .val (.int c1), .val (.int c2), .val (.ref b440), .val (.ref b446), .unset] [(.ref b440)])) rfl (by rw [hml]; rfl) (argsL := [(.ref b440)]) (rest := []) (lenOf pd_32 rfl) rfl (by show 2 * 0 + _ ≤ _; exact Nat.le_of_eq rfl) (hb hby at_556) (fun _ _ => ⟨rfl, (rfl : T530.heap = T530.heap), (by decide : 10 + 10 ≤ _), (by decide : 117 + 3018 ≤ _)⟩)
  dsimp only [Pt.U, Pt.locs, Pt.cells, Pt.slots] at X569 l569 y569 z569 st569 hQ569 hS569 hg569 A569
  subst l569 y569 z569
  refine own_gos st569 ?_
  have z570 := (Nat.le_trans (Nat.le_trans (Nat.le_trans (Nat.le_trans E446.1 E448.1) (Keep.of_wr W451).1) (Keep.of_wr W456).1) (Keep.of_wr W460).1)
  have z571 := (Nat.le_trans (Nat.le_trans (Nat.le_trans (Nat.le_trans z570 (Keep.of_wr W464).1) (Keep.of_wr W468).1) (Keep.of_wr W472).1) (Keep.of_wr W476).1)
  have z572 := (Nat.le_trans (Nat.le_trans (Nat.le_trans (Nat.le_trans z571 (Keep.of_wr W480).1) (Keep.of_wr W484).1) (Keep.of_wr W488).1) (Keep.of_wr W492).1)
  have z573 := (Nat.le_trans (Nat.le_trans (Nat.le_trans (Nat.le_trans z572 (Keep.of_wr W496).1) (Keep.of_wr W500).1) (Keep.of_wr W504).1) (Keep.of_wr W508).1)
  obtain ⟨X569, hS569, hZ569, hown569⟩ := rebS hS444 (k0 := _) (n1 := T530.heap.size) (by rw [(rfl : T530.heap = T530.heap)]; exact (Nat.le_trans (Nat.le_refl _) (Nat.le_trans z573 K530.1))) X569 hS569 hg569 hZ444 hown444
  obtain ⟨a569, x569, t569, kt569, cd569, N2569, vs569, rfl, Nq569, K569, Ea569, Fm569, Ex569, Fv569, Fc569, Vt569, hC569⟩ := hQ569
  have C574 := C536.trans A569
  have N569 := Fr.app N530 Nq569
  refine og (fun _ k => XS.astore X569.here hx rfl (hb hby at_559) rfl rfl (l' := #[.val (.int p1), .val (.int p2), .val (.int p3), .val (.int p4), .val (.int (0 : Int32)), .val (.int c0), .val (.int c1), .val (.int c2), .val (.ref b440), .val (.ref b446), .val (.ref a569)]) rfl k) ?_
  refine og (fun _ k => XS.aload X569.here hx rfl (hb hby at_561) rfl rfl k) ?_
  try dsimp only [mkF]
  refine og (fun _ k => XS.ifnonnullYes X569.here hx rfl (pc0 := 563) (pc' := 568) rfl (hb hby at_563) rfl (by decide) (by decide) k) ?_
  refine og (fun _ k => XS.aload X569.here hx rfl (hb hby at_568) rfl rfl k) ?_
  refine og (fun _ k => XS.aload X569.here hx rfl (hb hby at_570) rfl rfl k) ?_
  obtain ⟨cq575, kq575, q575a, q575b, q575c⟩ := isOf hZ569 (rfl : T569.heap = T569.heap) Ea569
  obtain ⟨v575, _, ⟨T575, L575, k575, n575⟩, -, X575, ⟨Lc575, hQ575, l575, y575, z575⟩, st575⟩ := X569.virtualBackUp hx (owner := "java/lang/Throwable") (x := (⟨"com/example/cohortwise/cohortwise/cli/InputRefusedException", "getMessage", "()Ljava/lang/String;"⟩ : MethodName)) (y := (⟨"java/lang/Throwable", "getMessage", "()Ljava/lang/String;"⟩ : MethodName)) hown569 (mvT hZ569 (tw hw 209 rfl)) (mvT hZ569 (tw hw 210 rfl)) (mvT hZ569 (tw hw 211 rfl)) (by decide) (mvT hZ569 (tw hw 213 rfl)) (mvT hZ569 (tw hw 212 rfl)) (backOf (W := 1) (rm_gm l Z a0 hw [] a569 x569 T569.heap n0 (f568.keep K569 all0) Ea569 Fm569) hZ569 (tw hw 214 rfl) (tw hw 170 rfl) (by decide) (by decide)) q575a q575c (g := (mkF m 572 #[.val (.int p1), .val (.int p2), .val (.int p3), .val (.int p4), .val (.int (0 : Int32)), .val (.int c0), .val (.int c1), .val (.int c2), .val (.ref b440), .val (.ref b446), .val (.ref a569)] [(.ref a569), (.ref b446)])) rfl (by rw [hml]; rfl) (Steps.refl _) (argsL := []) (rest := [(.ref b446)]) (lenOf pd_30 rfl) rfl (by show 2 * 0 + _ ≤ _; exact Nat.le_of_eq rfl) (hb hby at_572) (fun _ _ => ⟨rfl, (rfl : T569.heap = T569.heap), (by decide : 20 + 0 ≤ _), (by decide : 3135 + 0 ≤ _)⟩)
  dsimp only [Pt.U, Pt.locs, Pt.cells, Pt.slots] at X575 l575 y575 z575 st575 hQ575
  subst l575 y575 z575
  refine own_gos st575 ?_
  obtain ⟨rfl, Nq575, e575⟩ := hQ575
  have N575 := Fr.app N569 Nq575
  have f576 := ((f514.keep K530).keep K569)
  obtain ⟨cq577, kq577, q577a, q577b, q577c⟩ := isOf hZ569 e575 f576
  obtain ⟨v577, _, ⟨T577, L577, k577, n577⟩, -, X577, ⟨Lc577, hQ577, l577, y577, z577⟩, st577⟩ := X575.virtualBack hx (y := (⟨"java/lang/String", "equals", "(Ljava/lang/Object;)Z"⟩ : MethodName)) (z := (⟨"java/lang/String", "equals", "(Ljava/lang/Object;)Z"⟩ : MethodName)) hown569 (mvT hZ569 (tw hw 215 rfl)) (mvT hZ569 (tw hw 216 rfl)) (notFace_of_selects (args := #[]) (mvT hZ569 (tw hw 218 rfl))) (mvT hZ569 (tw hw 218 rfl)) (mvT hZ569 (tw hw 217 rfl)) (by decide) (StrChars.Road.eqW (W := 0) hZ569 (own_wEq hw) (kI := 4) (tw hw 2 rfl) f576 (Fv530.keep K569 nin0) (Fc530.keep K569 nin0) (Vt530.keep K569 nin0) hC530 (own_okE0).1 (own_okE0).2 Ex569 Fv569 Fc569 Vt569 hC569 (Eq.mpr (congrArg own_Ok (own_eqE ([] : List Int32))) (own_okE0)).1 (Eq.mpr (congrArg own_Ok (own_eqE ([] : List Int32))) (own_okE0)).2 (O2.ext (f568.keep K569 all0).2) P5 (by decide) (by decide)) q577a q577c (g := (mkF m 575 #[.val (.int p1), .val (.int p2), .val (.int p3), .val (.int p4), .val (.int (0 : Int32)), .val (.int c0), .val (.int c1), .val (.int c2), .val (.ref b440), .val (.ref b446), .val (.ref a569)] [(.ref x569), (.ref b446)])) rfl (by rw [hml]; rfl) (Steps.refl _) (argsL := [(.ref x569)]) (rest := []) (lenOf pd_33 rfl) rfl (by show 2 * 0 + _ ≤ _; exact Nat.le_of_eq rfl) (hb hby at_575) (fun _ _ => ⟨rfl, e575, (by decide : 20 + 0 ≤ _), (by decide : 3135 + 0 ≤ _)⟩)
  dsimp only [Pt.U, Pt.locs, Pt.cells, Pt.slots] at X577 l577 y577 z577 st577 hQ577
  subst l577 y577 z577
  refine own_gos st577 ?_
  obtain ⟨rfl, rfl, e577⟩ : _ = some (Value.int (1 : Int32)) ∧ _ = ([] : List Loc) ∧ _ := ⟨hQ577.1.elim (fun h => h.1) (fun h => absurd ((own_eqE ([] : List Int32)).symm) h.2), hQ577.2⟩
  have Nq577 : Fr n0 ([] : List Loc) := Fr.nil n0
  have N577 := Fr.app N575 Nq577
  try dsimp only [mkF]
  refine own_finW (v := (some (.int (nar .boolean (1 : Int32))))) X577 hh hZ569 hS569 (by rw [e577]; exact (Nat.le_refl _)) (fun h => by rw [hrt] at h; cases h) hlk (fun fs hr => retN X577 hx (t := .boolean) hrt (by simp) (hb hby at_578) hr) (QQ := QQ0 n0) ?_ own_hEL e577 (C574) (by decide) (by decide)
  rw [e577]
  exact ⟨rfl, N577⟩

set_option maxRecDepth 65536 in
set_option maxHeartbeats 40000000 in
theorem own_fst1 (l : Launch) (Z : State) (a0 : Array Value) (hw : ∀ d ∈ tables_1, d.before a0 Z = true) (p1 p2 p3 p4 c0 c1 c2 G1 : Int32) (G3 : Value) (h0 : Heap) (n0 : Nat) {p : Program} {e : Env} {s : State} {vm0 : Vm} {m : MethodId} {below : List Frame} {meth : Method} {cC : Code} {T0 : State} {locs : List Loc} (X0 : Stand p l e room_1 (s.setVm vm0) m #[(.int p1), (.int p2), (.int p3), (.int p4)] below meth cC T0 locs 0 0) (hx : p.tables.exec = Jvm.exec) (hby : cC.code = code) (hml : cC.maxLocals = maxLocals) (hown : (s.setVm vm0).vm.findClass "com/example/cohortwise/cohortwise/cli/ArgumentsMissingOptionPinLaw" = some m.cls) (hZ : Z.Warmed39 (s.setVm vm0).vm) (hrt : meth.sig.returnType = ret) (hlk : meth.locks = false) (h1 : Heap) (e0 : T0.heap = h1) (N0 : Fr n0 locs) (Z0 : n0 ≤ h1.size) (O1 : Old Z n0 h1) (hh : s.heap = h0) {k0 : Nat} (hS0 : s.Since vm0 k0) (hk0 : k0 ≤ h1.size) (C0 : CHr Z own_EL s.vm h0 vm0 h1) (hTh : ThS Z h1) (O2 : Sta Z Z.heap "java/lang/String" "COMPACT_STRINGS" "Z" (.int G1)) (P5 : ¬ (G1 = (0 : Int32))) (O4 : Sta Z Z.heap "jdk/internal/util/Preconditions" "SIOOBE_FORMATTER" "Ljava/util/function/BiFunction;" G3) (rG3 : G3.isRef = true) (OA : Sta Z Z.heap "java/lang/StringUTF16" "$assertionsDisabled" "Z" (.int (1 : Int32))) (OH : Sta Z Z.heap "java/lang/StringUTF16" "HI_BYTE_SHIFT" "I" (.int (0 : Int32))) (OL : Sta Z Z.heap "java/lang/StringUTF16" "LO_BYTE_SHIFT" "I" (.int (8 : Int32))) (b_c0 : ¬ c0 < 0 ∧ ¬ (65535 : Int32) < c0) (b_c1 : ¬ c1 < 0 ∧ ¬ (65535 : Int32) < c1) (b_c2 : ¬ c2 < 0 ∧ ¬ (65535 : Int32) < c2) (hl : l.stackTraces = true) (hR2 : ∀ d ∈ twoRefs, d.before a0 Z = true) (hTK : s.vm.MethodsKnown) (hBelow : s.vm.FramesKnown below) :
    own_Go p e below (T0.setTop (mkF m 26 #[.val (.int p1), .val (.int p2), .val (.int p3), .val (.int p4), .val (.int (1 : Int32)), .val (.int c0), .val (.int c1), .val (.int c2), .unset, .unset, .unset] [])) (fun oO U' => ∃ rV rL, oO = .returned rV ∧ QQ0 n0 rV U'.heap rL ∧ CHr Z own_EL s.vm s.heap U'.vm U'.heap ∧ ReturnedEndW s oO U' rL 48 8192) := by
  have own_wS := own_wSt hw
  have own_hEL := own_hELt hw
  refine og (fun _ k => XS.iload X0.here hx rfl (hb hby at_26) rfl k) ?_
  refine og (fun _ k => XS.ifYes X0.here hx rfl (pc0 := 28) (pc' := 143) rfl (hb hby at_28) rfl ((if0 _ _).trans (feq (by decide : ¬ ((1 : Int32) = (0 : Int32)))).2) (by decide) (by decide) k) ?_
  refine og (fun _ k => XS.iload X0.here hx rfl (hb hby at_143) rfl k) ?_
  refine og (fun _ k => XS.iconst X0.here hx rfl (hb hby at_145) k) ?_
  try dsimp only [mkF]
  refine og (fun _ k => XS.icmpNo X0.here hx rfl (hb hby at_146) rfl (teq (by decide : (1 : Int32) = (1 : Int32))).2 k) ?_
  obtain ⟨T578, h578, X578, e578, E578, A578, D578, U578, st578⟩ := newO X0 hx hZ hown (tw hw 1 rfl) (tw hw 2 rfl) (tw hw 3 rfl) e0 (g := (mkF m 149 #[.val (.int p1), .val (.int p2), .val (.int p3), .val (.int p4), .val (.int (1 : Int32)), .val (.int c0), .val (.int c1), .val (.int c2), .unset, .unset, .unset] [])) rfl (hb hby at_149) (by decide) (by decide)
  obtain ⟨b578, g578⟩ : ∃ z, z = h1.size := ⟨_, rfl⟩
  rw [← g578] at A578 D578 U578 st578
  refine own_go st578 ?_
  have C579 := C0.trans (CHr.ext E578 C0.1)
  have F578_value : Fld Z h578 b578 "java/lang/String" "value" "[B" .null := D578 (Or.inr (tw hw 17 rfl)) (ty := (.array .byte)) (by decide)
  have F578_coder : Fld Z h578 b578 "java/lang/String" "coder" "B" (.int (0 : Int32)) := D578 (Or.inr (tw hw 18 rfl)) (ty := .byte) (by decide)
  refine og (fun _ k => XS.dup X578.here hx rfl (hb hby at_152) rfl rfl k) ?_
  refine og (fun _ k => XS.iconst X578.here hx rfl (hb hby at_153) k) ?_
  obtain ⟨T580, h580, k580, X580, e580, E580, A580, st580⟩ := newP X578 hx hZ (tw hw 4 rfl) e578 (g := (mkF m 154 #[.val (.int p1), .val (.int p2), .val (.int p3), .val (.int p4), .val (.int (1 : Int32)), .val (.int c0), .val (.int c1), .val (.int c2), .unset, .unset, .unset] [(.int (1 : Int32)), (.ref b578), (.ref b578)])) rfl (hb hby at_154) rfl (by decide) (cap := 1) (by decide) (by decide) (by decide) (by decide)
  obtain ⟨b580, g580⟩ : ∃ z, z = h578.size := ⟨_, rfl⟩
  rw [← g580] at A580 st580
  refine own_go st580 ?_
  have C581 := C579.trans (CHr.ext E580 C579.1)
  have V580 : Arv Z h580 b580 k580 .char (1 : Int32) [(.int (0 : Int32))] (.int (0 : Int32)) := (Arv.new A580 (by decide)).pad (pad_rep [] (.int (0 : Int32)) 1)
  try dsimp only [mkF]
  refine og (fun _ k => XS.dup X580.here hx rfl (hb hby at_156) rfl rfl k) ?_
  refine og (fun _ k => XS.iconst X580.here hx rfl (hb hby at_157) k) ?_
  refine og (fun _ k => XS.iload X580.here hx rfl (hb hby at_158) rfl k) ?_
  obtain ⟨c582, A582, q582, S582, M582, Hs582, Gs582⟩ := id V580
  obtain ⟨T583, h583, X583, e583, W583, st583⟩ := stC X580 hx hZ e580 A582 (j := (0 : Int32)) (inb_of S582 ⟨by decide, by decide⟩) (g := (mkF m 160 #[.val (.int p1), .val (.int p2), .val (.int p3), .val (.int p4), .val (.int (1 : Int32)), .val (.int c0), .val (.int c1), .val (.int c2), .unset, .unset, .unset] [(.int c0), (.int (0 : Int32)), (.ref b580), (.ref b580), (.ref b578), (.ref b578)])) rfl rfl (hb hby at_160)
  refine own_go st583 ?_
  have N583 := Fr.snoc X583 N0 (Nat.le_trans Z0 (Nat.le_trans E578.1 (Nat.le_of_eq g580.symm)))
  have f584 := (Safe.ext E580 C579.1 (Safe.new (Nat.le_of_eq g580.symm)))
  have C585 := C581.trans (CHr.wr W583 f584 C581.1)
  have V583 : Arv Z h583 b580 k580 .char (1 : Int32) [(.int (nar .char c0))] (.int (0 : Int32)) := Arv.set A582 q582 S582 M582 Hs582 Gs582 (fits_nar_char _) W583 0 rfl (Nat.le_of_ble_eq_true rfl)
  have V583q : Arv Z h583 b580 k580 .char (1 : Int32) [(.int c0)] (.int (0 : Int32)) := by rw [show nar .char c0 = c0 from (own_nc b_c0.1 b_c0.2)] at V583; exact V583
  have f586 := ((A578.ext E580).wr W583)
  have ne587 : b578 ≠ b580 := Nat.ne_of_lt (Nat.lt_of_lt_of_le A578.lt (Nat.le_of_eq g580.symm))
  have f588 := ((F578_value.ext E580).other W583 (Or.inl ne587))
  have f589 := ((F578_coder.ext E580).other W583 (Or.inl ne587))
  have f590 := (((O1.ext E578).ext E580).wr W583 (Nat.le_trans Z0 (Nat.le_trans E578.1 (Nat.le_of_eq g580.symm))))
  obtain ⟨v591, _, ⟨T591, L591, k591, n591⟩, -, X591, ⟨Lc591, hQ591, l591, y591, z591⟩, st591⟩ := X583.specialBack hx (y := (⟨"java/lang/String", "<init>", "([C)V"⟩ : MethodName)) rfl hown (mvT hZ (tw hw 5 rfl)) (mvT hZ (tw hw 6 rfl)) (mvT hZ (tw hw 7 rfl)) (by decide) (backOf (W := 1) (rm_i1 l Z a0 hw [] b578 b580 k580 (.int (0 : Int32)) ([c0] : List Int32) G1 h583 n0 f590 f586 f588 f589 (Nat.le_trans Z0 (Nat.le_of_eq g578.symm)) OA OH OL O2 P5 (own_okL1 b_c0) V583q (Nat.le_of_ble_eq_true rfl) (Nat.le_of_ble_eq_true rfl)) hZ (tw hw 7 rfl) (tw hw 3 rfl) (by decide) (by decide)) (g := (mkF m 161 #[.val (.int p1), .val (.int p2), .val (.int p3), .val (.int p4), .val (.int (1 : Int32)), .val (.int c0), .val (.int c1), .val (.int c2), .unset, .unset, .unset] [(.ref b580), (.ref b578), (.ref b578)])) rfl (by rw [hml]; rfl) (Steps.refl _) (a := b578) (argsL := [(.ref b580)]) (rest := [(.ref b578)]) (lenOf pd_31 rfl) rfl (by show 2 * 0 + _ ≤ _; exact Nat.le_of_eq rfl) (hb hby at_161) (fun _ _ => ⟨rfl, e583, (by decide : 2 + 2 ≤ _), (by decide : 5 + 86 ≤ _)⟩)
  dsimp only [Pt.U, Pt.locs, Pt.cells, Pt.slots] at X591 l591 y591 z591 st591 hQ591
  subst l591 y591 z591
  refine own_gos st591 ?_
  obtain ⟨t591, kt591, cd591, N2591, vs591, rfl, Nq591, K591, Fv591, Fc591, Vt591, hC591⟩ := hQ591
  have f592 := (Safe.wr W583 f584 C581.1 (Safe.ext E580 C579.1 (Safe.ext E578 C0.1 (Safe.new (Nat.le_of_eq g578.symm)))))
  have C593 := C585.trans (CHr.keep K591 (sfS f592 sf0) C585.1)
  have N591 := Fr.app N583 Nq591
  try dsimp only [mkF]
  refine og (fun _ k => XS.astore X591.here hx rfl (hb hby at_164) rfl rfl (l' := #[.val (.int p1), .val (.int p2), .val (.int p3), .val (.int p4), .val (.int (1 : Int32)), .val (.int c0), .val (.int c1), .val (.int c2), .val (.ref b578), .unset, .unset]) rfl k) ?_
  obtain ⟨T594, h594, X594, e594, E594, A594, D594, U594, st594⟩ := newO X591 hx hZ hown (tw hw 1 rfl) (tw hw 2 rfl) (tw hw 3 rfl) (rfl : T591.heap = T591.heap) (g := (mkF m 166 #[.val (.int p1), .val (.int p2), .val (.int p3), .val (.int p4), .val (.int (1 : Int32)), .val (.int c0), .val (.int c1), .val (.int c2), .val (.ref b578), .unset, .unset] [])) rfl (hb hby at_166) (by decide) (by decide)
  obtain ⟨b594, g594⟩ : ∃ z, z = T591.heap.size := ⟨_, rfl⟩
  rw [← g594] at A594 D594 U594 st594
  refine own_go st594 ?_
  have C595 := C593.trans (CHr.ext E594 C593.1)
  have F594_value : Fld Z h594 b594 "java/lang/String" "value" "[B" .null := D594 (Or.inr (tw hw 17 rfl)) (ty := (.array .byte)) (by decide)
  have F594_coder : Fld Z h594 b594 "java/lang/String" "coder" "B" (.int (0 : Int32)) := D594 (Or.inr (tw hw 18 rfl)) (ty := .byte) (by decide)
  refine og (fun _ k => XS.dup X594.here hx rfl (hb hby at_169) rfl rfl k) ?_
  refine og (fun _ k => XS.bipush X594.here hx rfl (hb hby at_170) k) ?_
  obtain ⟨T596, h596, k596, X596, e596, E596, A596, st596⟩ := newP X594 hx hZ (tw hw 4 rfl) e594 (g := (mkF m 172 #[.val (.int p1), .val (.int p2), .val (.int p3), .val (.int p4), .val (.int (1 : Int32)), .val (.int c0), .val (.int c1), .val (.int c2), .val (.ref b578), .unset, .unset] [(.int (16 : Int32)), (.ref b594), (.ref b594)])) rfl (hb hby at_172) rfl (by decide) (cap := 16) (by decide) (by decide) (by decide) (by decide)
  obtain ⟨b596, g596⟩ : ∃ z, z = h594.size := ⟨_, rfl⟩
  rw [← g596] at A596 st596
  refine own_go st596 ?_
  have C597 := C595.trans (CHr.ext E596 C595.1)
  have V596 : Arv Z h596 b596 k596 .char (16 : Int32) [(.int (0 : Int32)), (.int (0 : Int32)), (.int (0 : Int32)), (.int (0 : Int32)), (.int (0 : Int32)), (.int (0 : Int32)), (.int (0 : Int32)), (.int (0 : Int32)), (.int (0 : Int32)), (.int (0 : Int32)), (.int (0 : Int32)), (.int (0 : Int32)), (.int (0 : Int32)), (.int (0 : Int32)), (.int (0 : Int32)), (.int (0 : Int32))] (.int (0 : Int32)) := (Arv.new A596 (by decide)).pad (pad_rep [] (.int (0 : Int32)) 16)
  try dsimp only [mkF]
  refine og (fun _ k => XS.dup X596.here hx rfl (hb hby at_174) rfl rfl k) ?_
  refine og (fun _ k => XS.iconst X596.here hx rfl (hb hby at_175) k) ?_
  refine og (fun _ k => XS.bipush X596.here hx rfl (hb hby at_176) k) ?_
  obtain ⟨c598, A598, q598, S598, M598, Hs598, Gs598⟩ := id V596
  obtain ⟨T599, h599, X599, e599, W599, st599⟩ := stC X596 hx hZ e596 A598 (j := (0 : Int32)) (inb_of S598 ⟨by decide, by decide⟩) (g := (mkF m 178 #[.val (.int p1), .val (.int p2), .val (.int p3), .val (.int p4), .val (.int (1 : Int32)), .val (.int c0), .val (.int c1), .val (.int c2), .val (.ref b578), .unset, .unset] [(.int (109 : Int32)), (.int (0 : Int32)), (.ref b596), (.ref b596), (.ref b594), (.ref b594)])) rfl rfl (hb hby at_178)
  have z600 := (Nat.le_trans (Nat.le_trans (Nat.le_trans (Nat.le_trans E578.1 E580.1) (Keep.of_wr W583).1) K591.1) E594.1)
  refine own_go st599 ?_
  have N599 := Fr.snoc X599 N591 (Nat.le_trans Z0 (Nat.le_trans z600 (Nat.le_of_eq g596.symm)))
  have f601 := (Safe.ext E596 C595.1 (Safe.new (Nat.le_of_eq g596.symm)))
  have C602 := C597.trans (CHr.wr W599 f601 C597.1)
  have V599 : Arv Z h599 b596 k596 .char (16 : Int32) [(.int (109 : Int32)), (.int (0 : Int32)), (.int (0 : Int32)), (.int (0 : Int32)), (.int (0 : Int32)), (.int (0 : Int32)), (.int (0 : Int32)), (.int (0 : Int32)), (.int (0 : Int32)), (.int (0 : Int32)), (.int (0 : Int32)), (.int (0 : Int32)), (.int (0 : Int32)), (.int (0 : Int32)), (.int (0 : Int32)), (.int (0 : Int32))] (.int (0 : Int32)) := Arv.set A598 q598 S598 M598 Hs598 Gs598 (fits_nar_char _) W599 0 rfl (Nat.le_of_ble_eq_true rfl)
  refine og (fun _ k => XS.dup X599.here hx rfl (hb hby at_179) rfl rfl k) ?_
  try dsimp only [mkF]
  refine og (fun _ k => XS.iconst X599.here hx rfl (hb hby at_180) k) ?_
  refine og (fun _ k => XS.bipush X599.here hx rfl (hb hby at_181) k) ?_
  obtain ⟨c603, A603, q603, S603, M603, Hs603, Gs603⟩ := id V599
  obtain ⟨T604, h604, X604, e604, W604, st604⟩ := stC X599 hx hZ e599 A603 (j := (1 : Int32)) (inb_of S603 ⟨by decide, by decide⟩) (g := (mkF m 183 #[.val (.int p1), .val (.int p2), .val (.int p3), .val (.int p4), .val (.int (1 : Int32)), .val (.int c0), .val (.int c1), .val (.int c2), .val (.ref b578), .unset, .unset] [(.int (105 : Int32)), (.int (1 : Int32)), (.ref b596), (.ref b596), (.ref b594), (.ref b594)])) rfl rfl (hb hby at_183)
  refine own_go st604 ?_
  have N604 := Fr.snoc X604 N599 (Nat.le_trans Z0 (Nat.le_trans z600 (Nat.le_of_eq g596.symm)))
  obtain ⟨LL604, X604, N604⟩ := own_gl X604 N604
  have f605 := (Safe.wr W599 f601 C597.1 f601)
  have C606 := C602.trans (CHr.wr W604 f605 C602.1)
  have V604 : Arv Z h604 b596 k596 .char (16 : Int32) [(.int (109 : Int32)), (.int (105 : Int32)), (.int (0 : Int32)), (.int (0 : Int32)), (.int (0 : Int32)), (.int (0 : Int32)), (.int (0 : Int32)), (.int (0 : Int32)), (.int (0 : Int32)), (.int (0 : Int32)), (.int (0 : Int32)), (.int (0 : Int32)), (.int (0 : Int32)), (.int (0 : Int32)), (.int (0 : Int32)), (.int (0 : Int32))] (.int (0 : Int32)) := Arv.set A603 q603 S603 M603 Hs603 Gs603 (fits_nar_char _) W604 1 rfl (Nat.le_of_ble_eq_true rfl)
  refine og (fun _ k => XS.dup X604.here hx rfl (hb hby at_184) rfl rfl k) ?_
  refine og (fun _ k => XS.iconst X604.here hx rfl (hb hby at_185) k) ?_
  try dsimp only [mkF]
  refine og (fun _ k => XS.bipush X604.here hx rfl (hb hby at_186) k) ?_
  obtain ⟨c607, A607, q607, S607, M607, Hs607, Gs607⟩ := id V604
  obtain ⟨T608, h608, X608, e608, W608, st608⟩ := stC X604 hx hZ e604 A607 (j := (2 : Int32)) (inb_of S607 ⟨by decide, by decide⟩) (g := (mkF m 188 #[.val (.int p1), .val (.int p2), .val (.int p3), .val (.int p4), .val (.int (1 : Int32)), .val (.int c0), .val (.int c1), .val (.int c2), .val (.ref b578), .unset, .unset] [(.int (115 : Int32)), (.int (2 : Int32)), (.ref b596), (.ref b596), (.ref b594), (.ref b594)])) rfl rfl (hb hby at_188)
  refine own_go st608 ?_
  have N608 := Fr.snoc X608 N604 (Nat.le_trans Z0 (Nat.le_trans z600 (Nat.le_of_eq g596.symm)))
  have f609 := (Safe.wr W604 f605 C602.1 f605)
  have C610 := C606.trans (CHr.wr W608 f609 C606.1)
  have V608 : Arv Z h608 b596 k596 .char (16 : Int32) [(.int (109 : Int32)), (.int (105 : Int32)), (.int (115 : Int32)), (.int (0 : Int32)), (.int (0 : Int32)), (.int (0 : Int32)), (.int (0 : Int32)), (.int (0 : Int32)), (.int (0 : Int32)), (.int (0 : Int32)), (.int (0 : Int32)), (.int (0 : Int32)), (.int (0 : Int32)), (.int (0 : Int32)), (.int (0 : Int32)), (.int (0 : Int32))] (.int (0 : Int32)) := Arv.set A607 q607 S607 M607 Hs607 Gs607 (fits_nar_char _) W608 2 rfl (Nat.le_of_ble_eq_true rfl)
  refine og (fun _ k => XS.dup X608.here hx rfl (hb hby at_189) rfl rfl k) ?_
  refine og (fun _ k => XS.iconst X608.here hx rfl (hb hby at_190) k) ?_
  refine og (fun _ k => XS.bipush X608.here hx rfl (hb hby at_191) k) ?_
  try dsimp only [mkF]
  obtain ⟨c611, A611, q611, S611, M611, Hs611, Gs611⟩ := id V608
  obtain ⟨T612, h612, X612, e612, W612, st612⟩ := stC X608 hx hZ e608 A611 (j := (3 : Int32)) (inb_of S611 ⟨by decide, by decide⟩) (g := (mkF m 193 #[.val (.int p1), .val (.int p2), .val (.int p3), .val (.int p4), .val (.int (1 : Int32)), .val (.int c0), .val (.int c1), .val (.int c2), .val (.ref b578), .unset, .unset] [(.int (115 : Int32)), (.int (3 : Int32)), (.ref b596), (.ref b596), (.ref b594), (.ref b594)])) rfl rfl (hb hby at_193)
  refine own_go st612 ?_
  have N612 := Fr.snoc X612 N608 (Nat.le_trans Z0 (Nat.le_trans z600 (Nat.le_of_eq g596.symm)))
  have f613 := (Safe.wr W608 f609 C606.1 f609)
  have C614 := C610.trans (CHr.wr W612 f613 C610.1)
  have V612 : Arv Z h612 b596 k596 .char (16 : Int32) [(.int (109 : Int32)), (.int (105 : Int32)), (.int (115 : Int32)), (.int (115 : Int32)), (.int (0 : Int32)), (.int (0 : Int32)), (.int (0 : Int32)), (.int (0 : Int32)), (.int (0 : Int32)), (.int (0 : Int32)), (.int (0 : Int32)), (.int (0 : Int32)), (.int (0 : Int32)), (.int (0 : Int32)), (.int (0 : Int32)), (.int (0 : Int32))] (.int (0 : Int32)) := Arv.set A611 q611 S611 M611 Hs611 Gs611 (fits_nar_char _) W612 3 rfl (Nat.le_of_ble_eq_true rfl)
  refine og (fun _ k => XS.dup X612.here hx rfl (hb hby at_194) rfl rfl k) ?_
  refine og (fun _ k => XS.iconst X612.here hx rfl (hb hby at_195) k) ?_
  refine og (fun _ k => XS.bipush X612.here hx rfl (hb hby at_196) k) ?_
  obtain ⟨c615, A615, q615, S615, M615, Hs615, Gs615⟩ := id V612
  obtain ⟨T616, h616, X616, e616, W616, st616⟩ := stC X612 hx hZ e612 A615 (j := (4 : Int32)) (inb_of S615 ⟨by decide, by decide⟩) (g := (mkF m 198 #[.val (.int p1), .val (.int p2), .val (.int p3), .val (.int p4), .val (.int (1 : Int32)), .val (.int c0), .val (.int c1), .val (.int c2), .val (.ref b578), .unset, .unset] [(.int (105 : Int32)), (.int (4 : Int32)), (.ref b596), (.ref b596), (.ref b594), (.ref b594)])) rfl rfl (hb hby at_198)
  refine own_go st616 ?_
  have N616 := Fr.snoc X616 N612 (Nat.le_trans Z0 (Nat.le_trans z600 (Nat.le_of_eq g596.symm)))
  obtain ⟨LL616, X616, N616⟩ := own_gl X616 N616
  have f617 := (Safe.wr W612 f613 C610.1 f613)
  have C618 := C614.trans (CHr.wr W616 f617 C614.1)
  have V616 : Arv Z h616 b596 k596 .char (16 : Int32) [(.int (109 : Int32)), (.int (105 : Int32)), (.int (115 : Int32)), (.int (115 : Int32)), (.int (105 : Int32)), (.int (0 : Int32)), (.int (0 : Int32)), (.int (0 : Int32)), (.int (0 : Int32)), (.int (0 : Int32)), (.int (0 : Int32)), (.int (0 : Int32)), (.int (0 : Int32)), (.int (0 : Int32)), (.int (0 : Int32)), (.int (0 : Int32))] (.int (0 : Int32)) := Arv.set A615 q615 S615 M615 Hs615 Gs615 (fits_nar_char _) W616 4 rfl (Nat.le_of_ble_eq_true rfl)
  try dsimp only [mkF]
  refine og (fun _ k => XS.dup X616.here hx rfl (hb hby at_199) rfl rfl k) ?_
  refine og (fun _ k => XS.iconst X616.here hx rfl (hb hby at_200) k) ?_
  refine og (fun _ k => XS.bipush X616.here hx rfl (hb hby at_201) k) ?_
  obtain ⟨c619, A619, q619, S619, M619, Hs619, Gs619⟩ := id V616
  obtain ⟨T620, h620, X620, e620, W620, st620⟩ := stC X616 hx hZ e616 A619 (j := (5 : Int32)) (inb_of S619 ⟨by decide, by decide⟩) (g := (mkF m 203 #[.val (.int p1), .val (.int p2), .val (.int p3), .val (.int p4), .val (.int (1 : Int32)), .val (.int c0), .val (.int c1), .val (.int c2), .val (.ref b578), .unset, .unset] [(.int (110 : Int32)), (.int (5 : Int32)), (.ref b596), (.ref b596), (.ref b594), (.ref b594)])) rfl rfl (hb hby at_203)
  refine own_go st620 ?_
  have N620 := Fr.snoc X620 N616 (Nat.le_trans Z0 (Nat.le_trans z600 (Nat.le_of_eq g596.symm)))
  have f621 := (Safe.wr W616 f617 C614.1 f617)
  have C622 := C618.trans (CHr.wr W620 f621 C618.1)
  have V620 : Arv Z h620 b596 k596 .char (16 : Int32) [(.int (109 : Int32)), (.int (105 : Int32)), (.int (115 : Int32)), (.int (115 : Int32)), (.int (105 : Int32)), (.int (110 : Int32)), (.int (0 : Int32)), (.int (0 : Int32)), (.int (0 : Int32)), (.int (0 : Int32)), (.int (0 : Int32)), (.int (0 : Int32)), (.int (0 : Int32)), (.int (0 : Int32)), (.int (0 : Int32)), (.int (0 : Int32))] (.int (0 : Int32)) := Arv.set A619 q619 S619 M619 Hs619 Gs619 (fits_nar_char _) W620 5 rfl (Nat.le_of_ble_eq_true rfl)
  refine og (fun _ k => XS.dup X620.here hx rfl (hb hby at_204) rfl rfl k) ?_
  try dsimp only [mkF]
  refine og (fun _ k => XS.bipush X620.here hx rfl (hb hby at_205) k) ?_
  refine og (fun _ k => XS.bipush X620.here hx rfl (hb hby at_207) k) ?_
  obtain ⟨c623, A623, q623, S623, M623, Hs623, Gs623⟩ := id V620
  obtain ⟨T624, h624, X624, e624, W624, st624⟩ := stC X620 hx hZ e620 A623 (j := (6 : Int32)) (inb_of S623 ⟨by decide, by decide⟩) (g := (mkF m 209 #[.val (.int p1), .val (.int p2), .val (.int p3), .val (.int p4), .val (.int (1 : Int32)), .val (.int c0), .val (.int c1), .val (.int c2), .val (.ref b578), .unset, .unset] [(.int (103 : Int32)), (.int (6 : Int32)), (.ref b596), (.ref b596), (.ref b594), (.ref b594)])) rfl rfl (hb hby at_209)
  refine own_go st624 ?_
  have N624 := Fr.snoc X624 N620 (Nat.le_trans Z0 (Nat.le_trans z600 (Nat.le_of_eq g596.symm)))
  have f625 := (Safe.wr W620 f621 C618.1 f621)
  have C626 := C622.trans (CHr.wr W624 f625 C622.1)
  have V624 : Arv Z h624 b596 k596 .char (16 : Int32) [(.int (109 : Int32)), (.int (105 : Int32)), (.int (115 : Int32)), (.int (115 : Int32)), (.int (105 : Int32)), (.int (110 : Int32)), (.int (103 : Int32)), (.int (0 : Int32)), (.int (0 : Int32)), (.int (0 : Int32)), (.int (0 : Int32)), (.int (0 : Int32)), (.int (0 : Int32)), (.int (0 : Int32)), (.int (0 : Int32)), (.int (0 : Int32))] (.int (0 : Int32)) := Arv.set A623 q623 S623 M623 Hs623 Gs623 (fits_nar_char _) W624 6 rfl (Nat.le_of_ble_eq_true rfl)
  refine og (fun _ k => XS.dup X624.here hx rfl (hb hby at_210) rfl rfl k) ?_
  refine og (fun _ k => XS.bipush X624.here hx rfl (hb hby at_211) k) ?_
  try dsimp only [mkF]
  refine og (fun _ k => XS.bipush X624.here hx rfl (hb hby at_213) k) ?_
  obtain ⟨c627, A627, q627, S627, M627, Hs627, Gs627⟩ := id V624
  obtain ⟨T628, h628, X628, e628, W628, st628⟩ := stC X624 hx hZ e624 A627 (j := (7 : Int32)) (inb_of S627 ⟨by decide, by decide⟩) (g := (mkF m 215 #[.val (.int p1), .val (.int p2), .val (.int p3), .val (.int p4), .val (.int (1 : Int32)), .val (.int c0), .val (.int c1), .val (.int c2), .val (.ref b578), .unset, .unset] [(.int (32 : Int32)), (.int (7 : Int32)), (.ref b596), (.ref b596), (.ref b594), (.ref b594)])) rfl rfl (hb hby at_215)
  refine own_go st628 ?_
  have N628 := Fr.snoc X628 N624 (Nat.le_trans Z0 (Nat.le_trans z600 (Nat.le_of_eq g596.symm)))
  obtain ⟨LL628, X628, N628⟩ := own_gl X628 N628
  have f629 := (Safe.wr W624 f625 C622.1 f625)
  have C630 := C626.trans (CHr.wr W628 f629 C626.1)
  have V628 : Arv Z h628 b596 k596 .char (16 : Int32) [(.int (109 : Int32)), (.int (105 : Int32)), (.int (115 : Int32)), (.int (115 : Int32)), (.int (105 : Int32)), (.int (110 : Int32)), (.int (103 : Int32)), (.int (32 : Int32)), (.int (0 : Int32)), (.int (0 : Int32)), (.int (0 : Int32)), (.int (0 : Int32)), (.int (0 : Int32)), (.int (0 : Int32)), (.int (0 : Int32)), (.int (0 : Int32))] (.int (0 : Int32)) := Arv.set A627 q627 S627 M627 Hs627 Gs627 (fits_nar_char _) W628 7 rfl (Nat.le_of_ble_eq_true rfl)
  refine og (fun _ k => XS.dup X628.here hx rfl (hb hby at_216) rfl rfl k) ?_
  refine og (fun _ k => XS.bipush X628.here hx rfl (hb hby at_217) k) ?_
  refine og (fun _ k => XS.bipush X628.here hx rfl (hb hby at_219) k) ?_
  try dsimp only [mkF]
  obtain ⟨c631, A631, q631, S631, M631, Hs631, Gs631⟩ := id V628
  obtain ⟨T632, h632, X632, e632, W632, st632⟩ := stC X628 hx hZ e628 A631 (j := (8 : Int32)) (inb_of S631 ⟨by decide, by decide⟩) (g := (mkF m 221 #[.val (.int p1), .val (.int p2), .val (.int p3), .val (.int p4), .val (.int (1 : Int32)), .val (.int c0), .val (.int c1), .val (.int c2), .val (.ref b578), .unset, .unset] [(.int (111 : Int32)), (.int (8 : Int32)), (.ref b596), (.ref b596), (.ref b594), (.ref b594)])) rfl rfl (hb hby at_221)
  refine own_go st632 ?_
  have N632 := Fr.snoc X632 N628 (Nat.le_trans Z0 (Nat.le_trans z600 (Nat.le_of_eq g596.symm)))
  have f633 := (Safe.wr W628 f629 C626.1 f629)
  have C634 := C630.trans (CHr.wr W632 f633 C630.1)
  have V632 : Arv Z h632 b596 k596 .char (16 : Int32) [(.int (109 : Int32)), (.int (105 : Int32)), (.int (115 : Int32)), (.int (115 : Int32)), (.int (105 : Int32)), (.int (110 : Int32)), (.int (103 : Int32)), (.int (32 : Int32)), (.int (111 : Int32)), (.int (0 : Int32)), (.int (0 : Int32)), (.int (0 : Int32)), (.int (0 : Int32)), (.int (0 : Int32)), (.int (0 : Int32)), (.int (0 : Int32))] (.int (0 : Int32)) := Arv.set A631 q631 S631 M631 Hs631 Gs631 (fits_nar_char _) W632 8 rfl (Nat.le_of_ble_eq_true rfl)
  refine og (fun _ k => XS.dup X632.here hx rfl (hb hby at_222) rfl rfl k) ?_
  refine og (fun _ k => XS.bipush X632.here hx rfl (hb hby at_223) k) ?_
  refine og (fun _ k => XS.bipush X632.here hx rfl (hb hby at_225) k) ?_
  obtain ⟨c635, A635, q635, S635, M635, Hs635, Gs635⟩ := id V632
  obtain ⟨T636, h636, X636, e636, W636, st636⟩ := stC X632 hx hZ e632 A635 (j := (9 : Int32)) (inb_of S635 ⟨by decide, by decide⟩) (g := (mkF m 227 #[.val (.int p1), .val (.int p2), .val (.int p3), .val (.int p4), .val (.int (1 : Int32)), .val (.int c0), .val (.int c1), .val (.int c2), .val (.ref b578), .unset, .unset] [(.int (112 : Int32)), (.int (9 : Int32)), (.ref b596), (.ref b596), (.ref b594), (.ref b594)])) rfl rfl (hb hby at_227)
  refine own_go st636 ?_
  have N636 := Fr.snoc X636 N632 (Nat.le_trans Z0 (Nat.le_trans z600 (Nat.le_of_eq g596.symm)))
  have f637 := (Safe.wr W632 f633 C630.1 f633)
  have C638 := C634.trans (CHr.wr W636 f637 C634.1)
  have V636 : Arv Z h636 b596 k596 .char (16 : Int32) [(.int (109 : Int32)), (.int (105 : Int32)), (.int (115 : Int32)), (.int (115 : Int32)), (.int (105 : Int32)), (.int (110 : Int32)), (.int (103 : Int32)), (.int (32 : Int32)), (.int (111 : Int32)), (.int (112 : Int32)), (.int (0 : Int32)), (.int (0 : Int32)), (.int (0 : Int32)), (.int (0 : Int32)), (.int (0 : Int32)), (.int (0 : Int32))] (.int (0 : Int32)) := Arv.set A635 q635 S635 M635 Hs635 Gs635 (fits_nar_char _) W636 9 rfl (Nat.le_of_ble_eq_true rfl)
  try dsimp only [mkF]
  refine og (fun _ k => XS.dup X636.here hx rfl (hb hby at_228) rfl rfl k) ?_
  refine og (fun _ k => XS.bipush X636.here hx rfl (hb hby at_229) k) ?_
  refine og (fun _ k => XS.bipush X636.here hx rfl (hb hby at_231) k) ?_
  obtain ⟨c639, A639, q639, S639, M639, Hs639, Gs639⟩ := id V636
  obtain ⟨T640, h640, X640, e640, W640, st640⟩ := stC X636 hx hZ e636 A639 (j := (10 : Int32)) (inb_of S639 ⟨by decide, by decide⟩) (g := (mkF m 233 #[.val (.int p1), .val (.int p2), .val (.int p3), .val (.int p4), .val (.int (1 : Int32)), .val (.int c0), .val (.int c1), .val (.int c2), .val (.ref b578), .unset, .unset] [(.int (116 : Int32)), (.int (10 : Int32)), (.ref b596), (.ref b596), (.ref b594), (.ref b594)])) rfl rfl (hb hby at_233)
  refine own_go st640 ?_
  have N640 := Fr.snoc X640 N636 (Nat.le_trans Z0 (Nat.le_trans z600 (Nat.le_of_eq g596.symm)))
  obtain ⟨LL640, X640, N640⟩ := own_gl X640 N640
  have f641 := (Safe.wr W636 f637 C634.1 f637)
  have C642 := C638.trans (CHr.wr W640 f641 C638.1)
  have V640 : Arv Z h640 b596 k596 .char (16 : Int32) [(.int (109 : Int32)), (.int (105 : Int32)), (.int (115 : Int32)), (.int (115 : Int32)), (.int (105 : Int32)), (.int (110 : Int32)), (.int (103 : Int32)), (.int (32 : Int32)), (.int (111 : Int32)), (.int (112 : Int32)), (.int (116 : Int32)), (.int (0 : Int32)), (.int (0 : Int32)), (.int (0 : Int32)), (.int (0 : Int32)), (.int (0 : Int32))] (.int (0 : Int32)) := Arv.set A639 q639 S639 M639 Hs639 Gs639 (fits_nar_char _) W640 10 rfl (Nat.le_of_ble_eq_true rfl)
  refine og (fun _ k => XS.dup X640.here hx rfl (hb hby at_234) rfl rfl k) ?_
  try dsimp only [mkF]
  refine og (fun _ k => XS.bipush X640.here hx rfl (hb hby at_235) k) ?_
  refine og (fun _ k => XS.bipush X640.here hx rfl (hb hby at_237) k) ?_
  obtain ⟨c643, A643, q643, S643, M643, Hs643, Gs643⟩ := id V640
  obtain ⟨T644, h644, X644, e644, W644, st644⟩ := stC X640 hx hZ e640 A643 (j := (11 : Int32)) (inb_of S643 ⟨by decide, by decide⟩) (g := (mkF m 239 #[.val (.int p1), .val (.int p2), .val (.int p3), .val (.int p4), .val (.int (1 : Int32)), .val (.int c0), .val (.int c1), .val (.int c2), .val (.ref b578), .unset, .unset] [(.int (105 : Int32)), (.int (11 : Int32)), (.ref b596), (.ref b596), (.ref b594), (.ref b594)])) rfl rfl (hb hby at_239)
  refine own_go st644 ?_
  have N644 := Fr.snoc X644 N640 (Nat.le_trans Z0 (Nat.le_trans z600 (Nat.le_of_eq g596.symm)))
  have f645 := (Safe.wr W640 f641 C638.1 f641)
  have C646 := C642.trans (CHr.wr W644 f645 C642.1)
  have V644 : Arv Z h644 b596 k596 .char (16 : Int32) [(.int (109 : Int32)), (.int (105 : Int32)), (.int (115 : Int32)), (.int (115 : Int32)), (.int (105 : Int32)), (.int (110 : Int32)), (.int (103 : Int32)), (.int (32 : Int32)), (.int (111 : Int32)), (.int (112 : Int32)), (.int (116 : Int32)), (.int (105 : Int32)), (.int (0 : Int32)), (.int (0 : Int32)), (.int (0 : Int32)), (.int (0 : Int32))] (.int (0 : Int32)) := Arv.set A643 q643 S643 M643 Hs643 Gs643 (fits_nar_char _) W644 11 rfl (Nat.le_of_ble_eq_true rfl)
  refine og (fun _ k => XS.dup X644.here hx rfl (hb hby at_240) rfl rfl k) ?_
  refine og (fun _ k => XS.bipush X644.here hx rfl (hb hby at_241) k) ?_
  try dsimp only [mkF]
  refine og (fun _ k => XS.bipush X644.here hx rfl (hb hby at_243) k) ?_
  obtain ⟨c647, A647, q647, S647, M647, Hs647, Gs647⟩ := id V644
  obtain ⟨T648, h648, X648, e648, W648, st648⟩ := stC X644 hx hZ e644 A647 (j := (12 : Int32)) (inb_of S647 ⟨by decide, by decide⟩) (g := (mkF m 245 #[.val (.int p1), .val (.int p2), .val (.int p3), .val (.int p4), .val (.int (1 : Int32)), .val (.int c0), .val (.int c1), .val (.int c2), .val (.ref b578), .unset, .unset] [(.int (111 : Int32)), (.int (12 : Int32)), (.ref b596), (.ref b596), (.ref b594), (.ref b594)])) rfl rfl (hb hby at_245)
  refine own_go st648 ?_
  have N648 := Fr.snoc X648 N644 (Nat.le_trans Z0 (Nat.le_trans z600 (Nat.le_of_eq g596.symm)))
  have f649 := (Safe.wr W644 f645 C642.1 f645)
  have C650 := C646.trans (CHr.wr W648 f649 C646.1)
  have V648 : Arv Z h648 b596 k596 .char (16 : Int32) [(.int (109 : Int32)), (.int (105 : Int32)), (.int (115 : Int32)), (.int (115 : Int32)), (.int (105 : Int32)), (.int (110 : Int32)), (.int (103 : Int32)), (.int (32 : Int32)), (.int (111 : Int32)), (.int (112 : Int32)), (.int (116 : Int32)), (.int (105 : Int32)), (.int (111 : Int32)), (.int (0 : Int32)), (.int (0 : Int32)), (.int (0 : Int32))] (.int (0 : Int32)) := Arv.set A647 q647 S647 M647 Hs647 Gs647 (fits_nar_char _) W648 12 rfl (Nat.le_of_ble_eq_true rfl)
  refine og (fun _ k => XS.dup X648.here hx rfl (hb hby at_246) rfl rfl k) ?_
  refine og (fun _ k => XS.bipush X648.here hx rfl (hb hby at_247) k) ?_
  refine og (fun _ k => XS.bipush X648.here hx rfl (hb hby at_249) k) ?_
  try dsimp only [mkF]
  obtain ⟨c651, A651, q651, S651, M651, Hs651, Gs651⟩ := id V648
  obtain ⟨T652, h652, X652, e652, W652, st652⟩ := stC X648 hx hZ e648 A651 (j := (13 : Int32)) (inb_of S651 ⟨by decide, by decide⟩) (g := (mkF m 251 #[.val (.int p1), .val (.int p2), .val (.int p3), .val (.int p4), .val (.int (1 : Int32)), .val (.int c0), .val (.int c1), .val (.int c2), .val (.ref b578), .unset, .unset] [(.int (110 : Int32)), (.int (13 : Int32)), (.ref b596), (.ref b596), (.ref b594), (.ref b594)])) rfl rfl (hb hby at_251)
  refine own_go st652 ?_
  have N652 := Fr.snoc X652 N648 (Nat.le_trans Z0 (Nat.le_trans z600 (Nat.le_of_eq g596.symm)))
  obtain ⟨LL652, X652, N652⟩ := own_gl X652 N652
  have f653 := (Safe.wr W648 f649 C646.1 f649)
  have C654 := C650.trans (CHr.wr W652 f653 C650.1)
  have V652 : Arv Z h652 b596 k596 .char (16 : Int32) [(.int (109 : Int32)), (.int (105 : Int32)), (.int (115 : Int32)), (.int (115 : Int32)), (.int (105 : Int32)), (.int (110 : Int32)), (.int (103 : Int32)), (.int (32 : Int32)), (.int (111 : Int32)), (.int (112 : Int32)), (.int (116 : Int32)), (.int (105 : Int32)), (.int (111 : Int32)), (.int (110 : Int32)), (.int (0 : Int32)), (.int (0 : Int32))] (.int (0 : Int32)) := Arv.set A651 q651 S651 M651 Hs651 Gs651 (fits_nar_char _) W652 13 rfl (Nat.le_of_ble_eq_true rfl)
  refine og (fun _ k => XS.dup X652.here hx rfl (hb hby at_252) rfl rfl k) ?_
  refine og (fun _ k => XS.bipush X652.here hx rfl (hb hby at_253) k) ?_
  refine og (fun _ k => XS.bipush X652.here hx rfl (hb hby at_255) k) ?_
  obtain ⟨c655, A655, q655, S655, M655, Hs655, Gs655⟩ := id V652
  obtain ⟨T656, h656, X656, e656, W656, st656⟩ := stC X652 hx hZ e652 A655 (j := (14 : Int32)) (inb_of S655 ⟨by decide, by decide⟩) (g := (mkF m 257 #[.val (.int p1), .val (.int p2), .val (.int p3), .val (.int p4), .val (.int (1 : Int32)), .val (.int c0), .val (.int c1), .val (.int c2), .val (.ref b578), .unset, .unset] [(.int (32 : Int32)), (.int (14 : Int32)), (.ref b596), (.ref b596), (.ref b594), (.ref b594)])) rfl rfl (hb hby at_257)
  refine own_go st656 ?_
  have N656 := Fr.snoc X656 N652 (Nat.le_trans Z0 (Nat.le_trans z600 (Nat.le_of_eq g596.symm)))
  have f657 := (Safe.wr W652 f653 C650.1 f653)
  have C658 := C654.trans (CHr.wr W656 f657 C654.1)
  have V656 : Arv Z h656 b596 k596 .char (16 : Int32) [(.int (109 : Int32)), (.int (105 : Int32)), (.int (115 : Int32)), (.int (115 : Int32)), (.int (105 : Int32)), (.int (110 : Int32)), (.int (103 : Int32)), (.int (32 : Int32)), (.int (111 : Int32)), (.int (112 : Int32)), (.int (116 : Int32)), (.int (105 : Int32)), (.int (111 : Int32)), (.int (110 : Int32)), (.int (32 : Int32)), (.int (0 : Int32))] (.int (0 : Int32)) := Arv.set A655 q655 S655 M655 Hs655 Gs655 (fits_nar_char _) W656 14 rfl (Nat.le_of_ble_eq_true rfl)
  try dsimp only [mkF]
  refine og (fun _ k => XS.dup X656.here hx rfl (hb hby at_258) rfl rfl k) ?_
  refine og (fun _ k => XS.bipush X656.here hx rfl (hb hby at_259) k) ?_
  refine og (fun _ k => XS.iload X656.here hx rfl (hb hby at_261) rfl k) ?_
  obtain ⟨c659, A659, q659, S659, M659, Hs659, Gs659⟩ := id V656
  obtain ⟨T660, h660, X660, e660, W660, st660⟩ := stC X656 hx hZ e656 A659 (j := (15 : Int32)) (inb_of S659 ⟨by decide, by decide⟩) (g := (mkF m 263 #[.val (.int p1), .val (.int p2), .val (.int p3), .val (.int p4), .val (.int (1 : Int32)), .val (.int c0), .val (.int c1), .val (.int c2), .val (.ref b578), .unset, .unset] [(.int c0), (.int (15 : Int32)), (.ref b596), (.ref b596), (.ref b594), (.ref b594)])) rfl rfl (hb hby at_263)
  refine own_go st660 ?_
  have N660 := Fr.snoc X660 N656 (Nat.le_trans Z0 (Nat.le_trans z600 (Nat.le_of_eq g596.symm)))
  have f661 := (Safe.wr W656 f657 C654.1 f657)
  have C662 := C658.trans (CHr.wr W660 f661 C658.1)
  have V660 : Arv Z h660 b596 k596 .char (16 : Int32) [(.int (109 : Int32)), (.int (105 : Int32)), (.int (115 : Int32)), (.int (115 : Int32)), (.int (105 : Int32)), (.int (110 : Int32)), (.int (103 : Int32)), (.int (32 : Int32)), (.int (111 : Int32)), (.int (112 : Int32)), (.int (116 : Int32)), (.int (105 : Int32)), (.int (111 : Int32)), (.int (110 : Int32)), (.int (32 : Int32)), (.int (nar .char c0))] (.int (0 : Int32)) := Arv.set A659 q659 S659 M659 Hs659 Gs659 (fits_nar_char _) W660 15 rfl (Nat.le_of_ble_eq_true rfl)
  have V660q : Arv Z h660 b596 k596 .char (16 : Int32) [(.int (109 : Int32)), (.int (105 : Int32)), (.int (115 : Int32)), (.int (115 : Int32)), (.int (105 : Int32)), (.int (110 : Int32)), (.int (103 : Int32)), (.int (32 : Int32)), (.int (111 : Int32)), (.int (112 : Int32)), (.int (116 : Int32)), (.int (105 : Int32)), (.int (111 : Int32)), (.int (110 : Int32)), (.int (32 : Int32)), (.int c0)] (.int (0 : Int32)) := by rw [show nar .char c0 = c0 from (own_nc b_c0.1 b_c0.2)] at V660; exact V660
  have f663 := ((((A594.ext E596).wr W599).wr W604).wr W608)
  have f664 := ((((f663.wr W612).wr W616).wr W620).wr W624)
  have f665 := ((((f664.wr W628).wr W632).wr W636).wr W640)
  have f666 := ((((f665.wr W644).wr W648).wr W652).wr W656)
  have ne667 : b594 ≠ b596 := Nat.ne_of_lt (Nat.lt_of_lt_of_le A594.lt (Nat.le_of_eq g596.symm))
  have f668 := ((((F594_value.ext E596).other W599 (Or.inl ne667)).other W604 (Or.inl ne667)).other W608 (Or.inl ne667))
  have f669 := ((((f668.other W612 (Or.inl ne667)).other W616 (Or.inl ne667)).other W620 (Or.inl ne667)).other W624 (Or.inl ne667))
  have f670 := ((((f669.other W628 (Or.inl ne667)).other W632 (Or.inl ne667)).other W636 (Or.inl ne667)).other W640 (Or.inl ne667))
  have f671 := ((((f670.other W644 (Or.inl ne667)).other W648 (Or.inl ne667)).other W652 (Or.inl ne667)).other W656 (Or.inl ne667))
  have f672 := (f671.other W660 (Or.inl ne667))
  have f673 := ((((F594_coder.ext E596).other W599 (Or.inl ne667)).other W604 (Or.inl ne667)).other W608 (Or.inl ne667))
  have f674 := ((((f673.other W612 (Or.inl ne667)).other W616 (Or.inl ne667)).other W620 (Or.inl ne667)).other W624 (Or.inl ne667))
  have f675 := ((((f674.other W628 (Or.inl ne667)).other W632 (Or.inl ne667)).other W636 (Or.inl ne667)).other W640 (Or.inl ne667))
  have f676 := ((((f675.other W644 (Or.inl ne667)).other W648 (Or.inl ne667)).other W652 (Or.inl ne667)).other W656 (Or.inl ne667))
  have f677 := (f676.other W660 (Or.inl ne667))
  have z678 := (Nat.le_trans (Nat.le_trans (Nat.le_trans E578.1 E580.1) (Keep.of_wr W583).1) K591.1)
  have f679 := ((((f590.keep K591 (allS (Nat.le_trans Z0 (Nat.le_of_eq g578.symm)) all0)).ext E594).ext E596).wr W599 (Nat.le_trans Z0 (Nat.le_trans z600 (Nat.le_of_eq g596.symm))))
  have f680 := ((((f679.wr W604 (Nat.le_trans Z0 (Nat.le_trans z600 (Nat.le_of_eq g596.symm)))).wr W608 (Nat.le_trans Z0 (Nat.le_trans z600 (Nat.le_of_eq g596.symm)))).wr W612 (Nat.le_trans Z0 (Nat.le_trans z600 (Nat.le_of_eq g596.symm)))).wr W616 (Nat.le_trans Z0 (Nat.le_trans z600 (Nat.le_of_eq g596.symm))))
  have f681 := ((((f680.wr W620 (Nat.le_trans Z0 (Nat.le_trans z600 (Nat.le_of_eq g596.symm)))).wr W624 (Nat.le_trans Z0 (Nat.le_trans z600 (Nat.le_of_eq g596.symm)))).wr W628 (Nat.le_trans Z0 (Nat.le_trans z600 (Nat.le_of_eq g596.symm)))).wr W632 (Nat.le_trans Z0 (Nat.le_trans z600 (Nat.le_of_eq g596.symm))))
  have f682 := ((((f681.wr W636 (Nat.le_trans Z0 (Nat.le_trans z600 (Nat.le_of_eq g596.symm)))).wr W640 (Nat.le_trans Z0 (Nat.le_trans z600 (Nat.le_of_eq g596.symm)))).wr W644 (Nat.le_trans Z0 (Nat.le_trans z600 (Nat.le_of_eq g596.symm)))).wr W648 (Nat.le_trans Z0 (Nat.le_trans z600 (Nat.le_of_eq g596.symm))))
  have f683 := (((f682.wr W652 (Nat.le_trans Z0 (Nat.le_trans z600 (Nat.le_of_eq g596.symm)))).wr W656 (Nat.le_trans Z0 (Nat.le_trans z600 (Nat.le_of_eq g596.symm)))).wr W660 (Nat.le_trans Z0 (Nat.le_trans z600 (Nat.le_of_eq g596.symm))))
  obtain ⟨v684, _, ⟨T684, L684, k684, n684⟩, -, X684, ⟨Lc684, hQ684, l684, y684, z684⟩, st684⟩ := X660.specialBack hx (y := (⟨"java/lang/String", "<init>", "([C)V"⟩ : MethodName)) rfl hown (mvT hZ (tw hw 5 rfl)) (mvT hZ (tw hw 6 rfl)) (mvT hZ (tw hw 7 rfl)) (by decide) (backOf (W := 1) (rm_i1 l Z a0 hw [] b594 b596 k596 (.int (0 : Int32)) ([109, 105, 115, 115, 105, 110, 103, 32, 111, 112, 116, 105, 111, 110, 32, c0] : List Int32) G1 h660 n0 f683 (f666.wr W660) f672 f677 (Nat.le_trans Z0 (Nat.le_trans z678 (Nat.le_of_eq g594.symm))) OA OH OL O2 P5 (own_okE1 b_c0) V660q (Nat.le_of_ble_eq_true rfl) (Nat.le_of_ble_eq_true rfl)) hZ (tw hw 7 rfl) (tw hw 3 rfl) (by decide) (by decide)) (g := (mkF m 264 #[.val (.int p1), .val (.int p2), .val (.int p3), .val (.int p4), .val (.int (1 : Int32)), .val (.int c0), .val (.int c1), .val (.int c2), .val (.ref b578), .unset, .unset] [(.ref b596), (.ref b594), (.ref b594)])) rfl (by rw [hml]; rfl) (Steps.refl _) (a := b594) (argsL := [(.ref b596)]) (rest := [(.ref b594)]) (lenOf pd_31 rfl) rfl (by show 2 * 0 + _ ≤ _; exact Nat.le_of_eq rfl) (hb hby at_264) (fun _ _ => ⟨rfl, e660, (by decide : 6 + 2 ≤ _), (by decide : 111 + 86 ≤ _)⟩)
  dsimp only [Pt.U, Pt.locs, Pt.cells, Pt.slots] at X684 l684 y684 z684 st684 hQ684
  subst l684 y684 z684
  refine own_gos st684 ?_
  obtain ⟨t684, kt684, cd684, N2684, vs684, rfl, Nq684, K684, Fv684, Fc684, Vt684, hC684⟩ := hQ684
  have f685 := (Safe.wr W604 f605 C602.1 (Safe.wr W599 f601 C597.1 (Safe.ext E596 C595.1 (Safe.ext E594 C593.1 (Safe.new (Nat.le_of_eq g594.symm))))))
  have f686 := (Safe.wr W620 f621 C618.1 (Safe.wr W616 f617 C614.1 (Safe.wr W612 f613 C610.1 (Safe.wr W608 f609 C606.1 f685))))
  have f687 := (Safe.wr W636 f637 C634.1 (Safe.wr W632 f633 C630.1 (Safe.wr W628 f629 C626.1 (Safe.wr W624 f625 C622.1 f686))))
  have f688 := (Safe.wr W652 f653 C650.1 (Safe.wr W648 f649 C646.1 (Safe.wr W644 f645 C642.1 (Safe.wr W640 f641 C638.1 f687))))
  have f689 := (Safe.wr W660 f661 C658.1 (Safe.wr W656 f657 C654.1 f688))
  have C690 := C662.trans (CHr.keep K684 (sfS f689 sf0) C662.1)
  have N684 := Fr.app N660 Nq684
  try dsimp only [mkF]
  refine og (fun _ k => XS.astore X684.here hx rfl (hb hby at_267) rfl rfl (l' := #[.val (.int p1), .val (.int p2), .val (.int p3), .val (.int p4), .val (.int (1 : Int32)), .val (.int c0), .val (.int c1), .val (.int c2), .val (.ref b578), .val (.ref b594), .unset]) rfl k) ?_
  refine og (fun _ k => XS.goto X684.here hx rfl (pc0 := 269) (pc' := 554) rfl (hb hby at_269) (by decide) (by decide) k) ?_
  refine og (fun _ k => XS.aload X684.here hx rfl (hb hby at_554) rfl rfl k) ?_
  have f691 := ((((f586.keep K591).ext E594).ext E596).wr W599)
  have f692 := ((((f691.wr W604).wr W608).wr W612).wr W616)
  have f693 := ((((f692.wr W620).wr W624).wr W628).wr W632)
  have f694 := ((((f693.wr W636).wr W640).wr W644).wr W648)
  have f695 := ((((f694.wr W652).wr W656).wr W660).keep K684)
  have z697 := (Nat.le_trans (Nat.le_trans (Nat.le_trans E580.1 (Keep.of_wr W583).1) K591.1) E594.1)
  have ne696 : b578 ≠ b596 := Nat.ne_of_lt (Nat.lt_of_lt_of_le (Nat.lt_of_lt_of_le A578.lt z697) (Nat.le_of_eq g596.symm))
  have f698 := ((((Fv591.ext E594).ext E596).other W599 (Or.inl ne696)).other W604 (Or.inl ne696))
  have f699 := ((((f698.other W608 (Or.inl ne696)).other W612 (Or.inl ne696)).other W616 (Or.inl ne696)).other W620 (Or.inl ne696))
  have f700 := ((((f699.other W624 (Or.inl ne696)).other W628 (Or.inl ne696)).other W632 (Or.inl ne696)).other W636 (Or.inl ne696))
  have f701 := ((((f700.other W640 (Or.inl ne696)).other W644 (Or.inl ne696)).other W648 (Or.inl ne696)).other W652 (Or.inl ne696))
  have z703 := (Nat.le_trans (Nat.le_trans E580.1 (Keep.of_wr W583).1) K591.1)
  have ne702 : b578 ≠ b594 := Nat.ne_of_lt (Nat.lt_of_lt_of_le (Nat.lt_of_lt_of_le A578.lt z703) (Nat.le_of_eq g594.symm))
  have f704 := (((f701.other W656 (Or.inl ne696)).other W660 (Or.inl ne696)).keep K684 (ninS ne702 nin0))
  have f705 := ((((Fc591.ext E594).ext E596).other W599 (Or.inl ne696)).other W604 (Or.inl ne696))
  have f706 := ((((f705.other W608 (Or.inl ne696)).other W612 (Or.inl ne696)).other W616 (Or.inl ne696)).other W620 (Or.inl ne696))
  have f707 := ((((f706.other W624 (Or.inl ne696)).other W628 (Or.inl ne696)).other W632 (Or.inl ne696)).other W636 (Or.inl ne696))
  have f708 := ((((f707.other W640 (Or.inl ne696)).other W644 (Or.inl ne696)).other W648 (Or.inl ne696)).other W652 (Or.inl ne696))
  have f709 := (((f708.other W656 (Or.inl ne696)).other W660 (Or.inl ne696)).keep K684 (ninS ne702 nin0))
  have ne710 : t591 ≠ b596 := Nat.ne_of_lt (Nat.lt_of_lt_of_le (Nat.lt_of_lt_of_le Vt591.lt E594.1) (Nat.le_of_eq g596.symm))
  have f711 := ((((Vt591.ext E594).ext E596).other W599 ne710).other W604 ne710)
  have f712 := ((((f711.other W608 ne710).other W612 ne710).other W616 ne710).other W620 ne710)
  have f713 := ((((f712.other W624 ne710).other W628 ne710).other W632 ne710).other W636 ne710)
  have f714 := ((((f713.other W640 ne710).other W644 ne710).other W648 ne710).other W652 ne710)
  have ne715 : t591 ≠ b594 := Nat.ne_of_lt (Nat.lt_of_lt_of_le Vt591.lt (Nat.le_of_eq g594.symm))
  have f716 := (((f714.other W656 ne710).other W660 ne710).keep K684 (ninS ne715 nin0))
  have f717 := (ThS.keep K591 (nsS (Exa.nostat f586) ns0) (ThS.wr W583 (ThS.ext E580 (ThS.ext E578 hTh))))
  have f718 := (ThS.wr W604 (ThS.wr W599 (ThS.ext E596 (ThS.ext E594 f717))))
  have f719 := (ThS.wr W620 (ThS.wr W616 (ThS.wr W612 (ThS.wr W608 f718))))
  have f720 := (ThS.wr W636 (ThS.wr W632 (ThS.wr W628 (ThS.wr W624 f719))))
  have f721 := (ThS.wr W652 (ThS.wr W648 (ThS.wr W644 (ThS.wr W640 f720))))
  have f722 := (ThS.keep K684 (nsS (Exa.nostat (f666.wr W660)) ns0) (ThS.wr W660 (ThS.wr W656 f721)))
  have f723 := (f683.keep K684 (allS (Nat.le_trans Z0 (Nat.le_trans z678 (Nat.le_of_eq g594.symm))) all0))
  obtain ⟨v724, _, ⟨T724, L724, k724, n724⟩, -, X724, hS724, hg724, ⟨Lc724, hQ724, l724, y724, z724, A724⟩, st724⟩ := callSS X684 hx (y := (⟨"com/example/cohortwise/cohortwise/cli/Arguments", "missingOption", "(Ljava/lang/String;)Lcom/example/cohortwise/cohortwise/cli/InputRefusedException;"⟩ : MethodName)) hown (mvT hZ (tw hw 34 rfl)) (mvT hZ (tw hw 35 rfl)) (mvT hZ (tw hw 36 rfl)) (mvT hZ (tw hw 37 rfl)) (by decide) (backOfSKH (W := 0) (rm_mis l Z a0 hw [] b578 t591 kt591 ([c0] : List Int32) cd591 N2591 vs591 G1 G3 T684.heap n0 f723 O2 P5 O4 rG3 OA OH OL f695 f704 f709 f716 hC591 (own_okL1 b_c0) (Nat.le_of_ble_eq_true rfl) hl hR2 f722) hZ (tw hw 37 rfl) (tw hw 36 rfl) (by decide) (by decide) own_hEL C690.1 (Vm.MethodsKnown.alikeC hS0.1.alike hTK) (Vm.FramesKnown.alikeC hS0.1.alike hBelow)) (g := (mkF m 556 #[.val (.int p1), .val (.int p2), .val (.int p3), .val (.int p4), .val (.int (1 : Int32)), .val (.int c0), .val (.int c1), .val (.int c2), .val (.ref b578), .val (.ref b594), .unset] [(.ref b578)])) rfl (by rw [hml]; rfl) (argsL := [(.ref b578)]) (rest := []) (lenOf pd_32 rfl) rfl (by show 2 * 0 + _ ≤ _; exact Nat.le_of_eq rfl) (hb hby at_556) (fun _ _ => ⟨rfl, (rfl : T684.heap = T684.heap), (by decide : 8 + 10 ≤ _), (by decide : 197 + 3018 ≤ _)⟩)
  dsimp only [Pt.U, Pt.locs, Pt.cells, Pt.slots] at X724 l724 y724 z724 st724 hQ724 hS724 hg724 A724
  subst l724 y724 z724
  refine own_gos st724 ?_
  have z725 := (Nat.le_trans (Nat.le_trans (Nat.le_trans (Nat.le_trans z600 E596.1) (Keep.of_wr W599).1) (Keep.of_wr W604).1) (Keep.of_wr W608).1)
  have z726 := (Nat.le_trans (Nat.le_trans (Nat.le_trans (Nat.le_trans z725 (Keep.of_wr W612).1) (Keep.of_wr W616).1) (Keep.of_wr W620).1) (Keep.of_wr W624).1)
  have z727 := (Nat.le_trans (Nat.le_trans (Nat.le_trans (Nat.le_trans z726 (Keep.of_wr W628).1) (Keep.of_wr W632).1) (Keep.of_wr W636).1) (Keep.of_wr W640).1)
  have z728 := (Nat.le_trans (Nat.le_trans (Nat.le_trans (Nat.le_trans z727 (Keep.of_wr W644).1) (Keep.of_wr W648).1) (Keep.of_wr W652).1) (Keep.of_wr W656).1)
  have z729 := (Nat.le_trans (Nat.le_trans z728 (Keep.of_wr W660).1) K684.1)
  obtain ⟨X724, hS724, hZ724, hown724⟩ := rebS hS0 (k0 := _) (n1 := T684.heap.size) (by rw [(rfl : T684.heap = T684.heap)]; exact (Nat.le_trans hk0 z729)) X724 hS724 hg724 hZ hown
  obtain ⟨a724, x724, t724, kt724, cd724, N2724, vs724, rfl, Nq724, K724, Ea724, Fm724, Ex724, Fv724, Fc724, Vt724, hC724⟩ := hQ724
  have C730 := C690.trans A724
  have N724 := Fr.app N684 Nq724
  refine og (fun _ k => XS.astore X724.here hx rfl (hb hby at_559) rfl rfl (l' := #[.val (.int p1), .val (.int p2), .val (.int p3), .val (.int p4), .val (.int (1 : Int32)), .val (.int c0), .val (.int c1), .val (.int c2), .val (.ref b578), .val (.ref b594), .val (.ref a724)]) rfl k) ?_
  try dsimp only [mkF]
  refine og (fun _ k => XS.aload X724.here hx rfl (hb hby at_561) rfl rfl k) ?_
  refine og (fun _ k => XS.ifnonnullYes X724.here hx rfl (pc0 := 563) (pc' := 568) rfl (hb hby at_563) rfl (by decide) (by decide) k) ?_
  refine og (fun _ k => XS.aload X724.here hx rfl (hb hby at_568) rfl rfl k) ?_
  refine og (fun _ k => XS.aload X724.here hx rfl (hb hby at_570) rfl rfl k) ?_
  obtain ⟨cq731, kq731, q731a, q731b, q731c⟩ := isOf hZ724 (rfl : T724.heap = T724.heap) Ea724
  obtain ⟨v731, _, ⟨T731, L731, k731, n731⟩, -, X731, ⟨Lc731, hQ731, l731, y731, z731⟩, st731⟩ := X724.virtualBackUp hx (owner := "java/lang/Throwable") (x := (⟨"com/example/cohortwise/cohortwise/cli/InputRefusedException", "getMessage", "()Ljava/lang/String;"⟩ : MethodName)) (y := (⟨"java/lang/Throwable", "getMessage", "()Ljava/lang/String;"⟩ : MethodName)) hown724 (mvT hZ724 (tw hw 209 rfl)) (mvT hZ724 (tw hw 210 rfl)) (mvT hZ724 (tw hw 211 rfl)) (by decide) (mvT hZ724 (tw hw 213 rfl)) (mvT hZ724 (tw hw 212 rfl)) (backOf (W := 1) (rm_gm l Z a0 hw [] a724 x724 T724.heap n0 (f723.keep K724 all0) Ea724 Fm724) hZ724 (tw hw 214 rfl) (tw hw 170 rfl) (by decide) (by decide)) q731a q731c (g := (mkF m 572 #[.val (.int p1), .val (.int p2), .val (.int p3), .val (.int p4), .val (.int (1 : Int32)), .val (.int c0), .val (.int c1), .val (.int c2), .val (.ref b578), .val (.ref b594), .val (.ref a724)] [(.ref a724), (.ref b594)])) rfl (by rw [hml]; rfl) (Steps.refl _) (argsL := []) (rest := [(.ref b594)]) (lenOf pd_30 rfl) rfl (by show 2 * 0 + _ ≤ _; exact Nat.le_of_eq rfl) (hb hby at_572) (fun _ _ => ⟨rfl, (rfl : T724.heap = T724.heap), (by decide : 18 + 0 ≤ _), (by decide : 3215 + 0 ≤ _)⟩)
  dsimp only [Pt.U, Pt.locs, Pt.cells, Pt.slots] at X731 l731 y731 z731 st731 hQ731
  subst l731 y731 z731
  refine own_gos st731 ?_
  obtain ⟨rfl, Nq731, e731⟩ := hQ731
  have N731 := Fr.app N724 Nq731
  try dsimp only [mkF]
  have f732 := (((f666.wr W660).keep K684).keep K724)
  obtain ⟨cq733, kq733, q733a, q733b, q733c⟩ := isOf hZ724 e731 f732
  obtain ⟨v733, _, ⟨T733, L733, k733, n733⟩, -, X733, ⟨Lc733, hQ733, l733, y733, z733⟩, st733⟩ := X731.virtualBack hx (y := (⟨"java/lang/String", "equals", "(Ljava/lang/Object;)Z"⟩ : MethodName)) (z := (⟨"java/lang/String", "equals", "(Ljava/lang/Object;)Z"⟩ : MethodName)) hown724 (mvT hZ724 (tw hw 215 rfl)) (mvT hZ724 (tw hw 216 rfl)) (notFace_of_selects (args := #[]) (mvT hZ724 (tw hw 218 rfl))) (mvT hZ724 (tw hw 218 rfl)) (mvT hZ724 (tw hw 217 rfl)) (by decide) (StrChars.Road.eqW (W := 0) hZ724 (own_wEq hw) (kI := 4) (tw hw 2 rfl) f732 (Fv684.keep K724 nin0) (Fc684.keep K724 nin0) (Vt684.keep K724 nin0) hC684 (own_okE1 b_c0).1 (own_okE1 b_c0).2 Ex724 Fv724 Fc724 Vt724 hC724 (Eq.mpr (congrArg own_Ok (own_eqE ([c0] : List Int32))) (own_okE1 b_c0)).1 (Eq.mpr (congrArg own_Ok (own_eqE ([c0] : List Int32))) (own_okE1 b_c0)).2 (O2.ext (f723.keep K724 all0).2) P5 (by decide) (by decide)) q733a q733c (g := (mkF m 575 #[.val (.int p1), .val (.int p2), .val (.int p3), .val (.int p4), .val (.int (1 : Int32)), .val (.int c0), .val (.int c1), .val (.int c2), .val (.ref b578), .val (.ref b594), .val (.ref a724)] [(.ref x724), (.ref b594)])) rfl (by rw [hml]; rfl) (Steps.refl _) (argsL := [(.ref x724)]) (rest := []) (lenOf pd_33 rfl) rfl (by show 2 * 0 + _ ≤ _; exact Nat.le_of_eq rfl) (hb hby at_575) (fun _ _ => ⟨rfl, e731, (by decide : 18 + 0 ≤ _), (by decide : 3215 + 0 ≤ _)⟩)
  dsimp only [Pt.U, Pt.locs, Pt.cells, Pt.slots] at X733 l733 y733 z733 st733 hQ733
  subst l733 y733 z733
  refine own_gos st733 ?_
  obtain ⟨rfl, rfl, e733⟩ : _ = some (Value.int (1 : Int32)) ∧ _ = ([] : List Loc) ∧ _ := ⟨hQ733.1.elim (fun h => h.1) (fun h => absurd ((own_eqE ([c0] : List Int32)).symm) h.2), hQ733.2⟩
  have Nq733 : Fr n0 ([] : List Loc) := Fr.nil n0
  have N733 := Fr.app N731 Nq733
  refine own_finW (v := (some (.int (nar .boolean (1 : Int32))))) X733 hh hZ724 hS724 (by rw [e733]; exact (Nat.le_refl _)) (fun h => by rw [hrt] at h; cases h) hlk (fun fs hr => retN X733 hx (t := .boolean) hrt (by simp) (hb hby at_578) hr) (QQ := QQ0 n0) ?_ own_hEL e733 (C730) (by decide) (by decide)
  rw [e733]
  exact ⟨rfl, N733⟩

set_option maxRecDepth 65536 in
set_option maxHeartbeats 40000000 in
theorem own_fst2 (l : Launch) (Z : State) (a0 : Array Value) (hw : ∀ d ∈ tables_1, d.before a0 Z = true) (p1 p2 p3 p4 c0 c1 c2 G1 : Int32) (G3 : Value) (h0 : Heap) (n0 : Nat) {p : Program} {e : Env} {s : State} {vm0 : Vm} {m : MethodId} {below : List Frame} {meth : Method} {cC : Code} {T0 : State} {locs : List Loc} (X0 : Stand p l e room_1 (s.setVm vm0) m #[(.int p1), (.int p2), (.int p3), (.int p4)] below meth cC T0 locs 0 0) (hx : p.tables.exec = Jvm.exec) (hby : cC.code = code) (hml : cC.maxLocals = maxLocals) (hown : (s.setVm vm0).vm.findClass "com/example/cohortwise/cohortwise/cli/ArgumentsMissingOptionPinLaw" = some m.cls) (hZ : Z.Warmed39 (s.setVm vm0).vm) (hrt : meth.sig.returnType = ret) (hlk : meth.locks = false) (h1 : Heap) (e0 : T0.heap = h1) (N0 : Fr n0 locs) (Z0 : n0 ≤ h1.size) (O1 : Old Z n0 h1) (hh : s.heap = h0) {k0 : Nat} (hS0 : s.Since vm0 k0) (hk0 : k0 ≤ h1.size) (C0 : CHr Z own_EL s.vm h0 vm0 h1) (hTh : ThS Z h1) (O2 : Sta Z Z.heap "java/lang/String" "COMPACT_STRINGS" "Z" (.int G1)) (P5 : ¬ (G1 = (0 : Int32))) (O4 : Sta Z Z.heap "jdk/internal/util/Preconditions" "SIOOBE_FORMATTER" "Ljava/util/function/BiFunction;" G3) (rG3 : G3.isRef = true) (OA : Sta Z Z.heap "java/lang/StringUTF16" "$assertionsDisabled" "Z" (.int (1 : Int32))) (OH : Sta Z Z.heap "java/lang/StringUTF16" "HI_BYTE_SHIFT" "I" (.int (0 : Int32))) (OL : Sta Z Z.heap "java/lang/StringUTF16" "LO_BYTE_SHIFT" "I" (.int (8 : Int32))) (b_c0 : ¬ c0 < 0 ∧ ¬ (65535 : Int32) < c0) (b_c1 : ¬ c1 < 0 ∧ ¬ (65535 : Int32) < c1) (b_c2 : ¬ c2 < 0 ∧ ¬ (65535 : Int32) < c2) (hl : l.stackTraces = true) (hR2 : ∀ d ∈ twoRefs, d.before a0 Z = true) (hTK : s.vm.MethodsKnown) (hBelow : s.vm.FramesKnown below) :
    own_Go p e below (T0.setTop (mkF m 26 #[.val (.int p1), .val (.int p2), .val (.int p3), .val (.int p4), .val (.int (2 : Int32)), .val (.int c0), .val (.int c1), .val (.int c2), .unset, .unset, .unset] [])) (fun oO U' => ∃ rV rL, oO = .returned rV ∧ QQ0 n0 rV U'.heap rL ∧ CHr Z own_EL s.vm s.heap U'.vm U'.heap ∧ ReturnedEndW s oO U' rL 48 8192) := by
  have own_wS := own_wSt hw
  have own_hEL := own_hELt hw
  refine og (fun _ k => XS.iload X0.here hx rfl (hb hby at_26) rfl k) ?_
  refine og (fun _ k => XS.ifYes X0.here hx rfl (pc0 := 28) (pc' := 143) rfl (hb hby at_28) rfl ((if0 _ _).trans (feq (by decide : ¬ ((2 : Int32) = (0 : Int32)))).2) (by decide) (by decide) k) ?_
  refine og (fun _ k => XS.iload X0.here hx rfl (hb hby at_143) rfl k) ?_
  refine og (fun _ k => XS.iconst X0.here hx rfl (hb hby at_145) k) ?_
  try dsimp only [mkF]
  refine og (fun _ k => XS.icmpYes X0.here hx rfl (pc0 := 146) (pc' := 272) rfl (hb hby at_146) rfl (feq (by decide : ¬ ((2 : Int32) = (1 : Int32)))).2 (by decide) (by decide) k) ?_
  refine og (fun _ k => XS.iload X0.here hx rfl (hb hby at_272) rfl k) ?_
  refine og (fun _ k => XS.iconst X0.here hx rfl (hb hby at_274) k) ?_
  refine og (fun _ k => XS.icmpNo X0.here hx rfl (hb hby at_275) rfl (teq (by decide : (2 : Int32) = (2 : Int32))).2 k) ?_
  obtain ⟨T734, h734, X734, e734, E734, A734, D734, U734, st734⟩ := newO X0 hx hZ hown (tw hw 1 rfl) (tw hw 2 rfl) (tw hw 3 rfl) e0 (g := (mkF m 278 #[.val (.int p1), .val (.int p2), .val (.int p3), .val (.int p4), .val (.int (2 : Int32)), .val (.int c0), .val (.int c1), .val (.int c2), .unset, .unset, .unset] [])) rfl (hb hby at_278) (by decide) (by decide)
  obtain ⟨b734, g734⟩ : ∃ z, z = h1.size := ⟨_, rfl⟩
  rw [← g734] at A734 D734 U734 st734
  refine own_go st734 ?_
  have C735 := C0.trans (CHr.ext E734 C0.1)
  have F734_value : Fld Z h734 b734 "java/lang/String" "value" "[B" .null := D734 (Or.inr (tw hw 17 rfl)) (ty := (.array .byte)) (by decide)
  have F734_coder : Fld Z h734 b734 "java/lang/String" "coder" "B" (.int (0 : Int32)) := D734 (Or.inr (tw hw 18 rfl)) (ty := .byte) (by decide)
  try dsimp only [mkF]
  refine og (fun _ k => XS.dup X734.here hx rfl (hb hby at_281) rfl rfl k) ?_
  refine og (fun _ k => XS.iconst X734.here hx rfl (hb hby at_282) k) ?_
  obtain ⟨T736, h736, k736, X736, e736, E736, A736, st736⟩ := newP X734 hx hZ (tw hw 4 rfl) e734 (g := (mkF m 283 #[.val (.int p1), .val (.int p2), .val (.int p3), .val (.int p4), .val (.int (2 : Int32)), .val (.int c0), .val (.int c1), .val (.int c2), .unset, .unset, .unset] [(.int (2 : Int32)), (.ref b734), (.ref b734)])) rfl (hb hby at_283) rfl (by decide) (cap := 2) (by decide) (by decide) (by decide) (by decide)
  obtain ⟨b736, g736⟩ : ∃ z, z = h734.size := ⟨_, rfl⟩
  rw [← g736] at A736 st736
  refine own_go st736 ?_
  have C737 := C735.trans (CHr.ext E736 C735.1)
  have V736 : Arv Z h736 b736 k736 .char (2 : Int32) [(.int (0 : Int32)), (.int (0 : Int32))] (.int (0 : Int32)) := (Arv.new A736 (by decide)).pad (pad_rep [] (.int (0 : Int32)) 2)
  refine og (fun _ k => XS.dup X736.here hx rfl (hb hby at_285) rfl rfl k) ?_
  refine og (fun _ k => XS.iconst X736.here hx rfl (hb hby at_286) k) ?_
  try dsimp only [mkF]
  refine og (fun _ k => XS.iload X736.here hx rfl (hb hby at_287) rfl k) ?_
  obtain ⟨c738, A738, q738, S738, M738, Hs738, Gs738⟩ := id V736
  obtain ⟨T739, h739, X739, e739, W739, st739⟩ := stC X736 hx hZ e736 A738 (j := (0 : Int32)) (inb_of S738 ⟨by decide, by decide⟩) (g := (mkF m 289 #[.val (.int p1), .val (.int p2), .val (.int p3), .val (.int p4), .val (.int (2 : Int32)), .val (.int c0), .val (.int c1), .val (.int c2), .unset, .unset, .unset] [(.int c0), (.int (0 : Int32)), (.ref b736), (.ref b736), (.ref b734), (.ref b734)])) rfl rfl (hb hby at_289)
  refine own_go st739 ?_
  have N739 := Fr.snoc X739 N0 (Nat.le_trans Z0 (Nat.le_trans E734.1 (Nat.le_of_eq g736.symm)))
  have f740 := (Safe.ext E736 C735.1 (Safe.new (Nat.le_of_eq g736.symm)))
  have C741 := C737.trans (CHr.wr W739 f740 C737.1)
  have V739 : Arv Z h739 b736 k736 .char (2 : Int32) [(.int (nar .char c0)), (.int (0 : Int32))] (.int (0 : Int32)) := Arv.set A738 q738 S738 M738 Hs738 Gs738 (fits_nar_char _) W739 0 rfl (Nat.le_of_ble_eq_true rfl)
  have V739q : Arv Z h739 b736 k736 .char (2 : Int32) [(.int c0), (.int (0 : Int32))] (.int (0 : Int32)) := by rw [show nar .char c0 = c0 from (own_nc b_c0.1 b_c0.2)] at V739; exact V739
  refine og (fun _ k => XS.dup X739.here hx rfl (hb hby at_290) rfl rfl k) ?_
  refine og (fun _ k => XS.iconst X739.here hx rfl (hb hby at_291) k) ?_
  refine og (fun _ k => XS.iload X739.here hx rfl (hb hby at_292) rfl k) ?_
  try dsimp only [mkF]
  obtain ⟨c742, A742, q742, S742, M742, Hs742, Gs742⟩ := id V739q
  obtain ⟨T743, h743, X743, e743, W743, st743⟩ := stC X739 hx hZ e739 A742 (j := (1 : Int32)) (inb_of S742 ⟨by decide, by decide⟩) (g := (mkF m 294 #[.val (.int p1), .val (.int p2), .val (.int p3), .val (.int p4), .val (.int (2 : Int32)), .val (.int c0), .val (.int c1), .val (.int c2), .unset, .unset, .unset] [(.int c1), (.int (1 : Int32)), (.ref b736), (.ref b736), (.ref b734), (.ref b734)])) rfl rfl (hb hby at_294)
  refine own_go st743 ?_
  have N743 := Fr.snoc X743 N739 (Nat.le_trans Z0 (Nat.le_trans E734.1 (Nat.le_of_eq g736.symm)))
  have f744 := (Safe.wr W739 f740 C737.1 f740)
  have C745 := C741.trans (CHr.wr W743 f744 C741.1)
  have V743 : Arv Z h743 b736 k736 .char (2 : Int32) [(.int c0), (.int (nar .char c1))] (.int (0 : Int32)) := Arv.set A742 q742 S742 M742 Hs742 Gs742 (fits_nar_char _) W743 1 rfl (Nat.le_of_ble_eq_true rfl)
  have V743q : Arv Z h743 b736 k736 .char (2 : Int32) [(.int c0), (.int c1)] (.int (0 : Int32)) := by rw [show nar .char c1 = c1 from (own_nc b_c1.1 b_c1.2)] at V743; exact V743
  have f746 := (((A734.ext E736).wr W739).wr W743)
  have ne747 : b734 ≠ b736 := Nat.ne_of_lt (Nat.lt_of_lt_of_le A734.lt (Nat.le_of_eq g736.symm))
  have f748 := (((F734_value.ext E736).other W739 (Or.inl ne747)).other W743 (Or.inl ne747))
  have f749 := (((F734_coder.ext E736).other W739 (Or.inl ne747)).other W743 (Or.inl ne747))
  have f750 := ((((O1.ext E734).ext E736).wr W739 (Nat.le_trans Z0 (Nat.le_trans E734.1 (Nat.le_of_eq g736.symm)))).wr W743 (Nat.le_trans Z0 (Nat.le_trans E734.1 (Nat.le_of_eq g736.symm))))
  obtain ⟨v751, _, ⟨T751, L751, k751, n751⟩, -, X751, ⟨Lc751, hQ751, l751, y751, z751⟩, st751⟩ := X743.specialBack hx (y := (⟨"java/lang/String", "<init>", "([C)V"⟩ : MethodName)) rfl hown (mvT hZ (tw hw 5 rfl)) (mvT hZ (tw hw 6 rfl)) (mvT hZ (tw hw 7 rfl)) (by decide) (backOf (W := 1) (rm_i1 l Z a0 hw [] b734 b736 k736 (.int (0 : Int32)) ([c0, c1] : List Int32) G1 h743 n0 f750 f746 f748 f749 (Nat.le_trans Z0 (Nat.le_of_eq g734.symm)) OA OH OL O2 P5 (own_okL2 b_c0 b_c1) V743q (Nat.le_of_ble_eq_true rfl) (Nat.le_of_ble_eq_true rfl)) hZ (tw hw 7 rfl) (tw hw 3 rfl) (by decide) (by decide)) (g := (mkF m 295 #[.val (.int p1), .val (.int p2), .val (.int p3), .val (.int p4), .val (.int (2 : Int32)), .val (.int c0), .val (.int c1), .val (.int c2), .unset, .unset, .unset] [(.ref b736), (.ref b734), (.ref b734)])) rfl (by rw [hml]; rfl) (Steps.refl _) (a := b734) (argsL := [(.ref b736)]) (rest := [(.ref b734)]) (lenOf pd_31 rfl) rfl (by show 2 * 0 + _ ≤ _; exact Nat.le_of_eq rfl) (hb hby at_295) (fun _ _ => ⟨rfl, e743, (by decide : 2 + 2 ≤ _), (by decide : 6 + 86 ≤ _)⟩)
  dsimp only [Pt.U, Pt.locs, Pt.cells, Pt.slots] at X751 l751 y751 z751 st751 hQ751
  subst l751 y751 z751
  refine own_gos st751 ?_
  obtain ⟨t751, kt751, cd751, N2751, vs751, rfl, Nq751, K751, Fv751, Fc751, Vt751, hC751⟩ := hQ751
  have f752 := (Safe.wr W743 f744 C741.1 (Safe.wr W739 f740 C737.1 (Safe.ext E736 C735.1 (Safe.ext E734 C0.1 (Safe.new (Nat.le_of_eq g734.symm))))))
  have C753 := C745.trans (CHr.keep K751 (sfS f752 sf0) C745.1)
  have N751 := Fr.app N743 Nq751
  refine og (fun _ k => XS.astore X751.here hx rfl (hb hby at_298) rfl rfl (l' := #[.val (.int p1), .val (.int p2), .val (.int p3), .val (.int p4), .val (.int (2 : Int32)), .val (.int c0), .val (.int c1), .val (.int c2), .val (.ref b734), .unset, .unset]) rfl k) ?_
  obtain ⟨T754, h754, X754, e754, E754, A754, D754, U754, st754⟩ := newO X751 hx hZ hown (tw hw 1 rfl) (tw hw 2 rfl) (tw hw 3 rfl) (rfl : T751.heap = T751.heap) (g := (mkF m 300 #[.val (.int p1), .val (.int p2), .val (.int p3), .val (.int p4), .val (.int (2 : Int32)), .val (.int c0), .val (.int c1), .val (.int c2), .val (.ref b734), .unset, .unset] [])) rfl (hb hby at_300) (by decide) (by decide)
  obtain ⟨b754, g754⟩ : ∃ z, z = T751.heap.size := ⟨_, rfl⟩
  rw [← g754] at A754 D754 U754 st754
  refine own_go st754 ?_
  have C755 := C753.trans (CHr.ext E754 C753.1)
  have F754_value : Fld Z h754 b754 "java/lang/String" "value" "[B" .null := D754 (Or.inr (tw hw 17 rfl)) (ty := (.array .byte)) (by decide)
  have F754_coder : Fld Z h754 b754 "java/lang/String" "coder" "B" (.int (0 : Int32)) := D754 (Or.inr (tw hw 18 rfl)) (ty := .byte) (by decide)
  refine og (fun _ k => XS.dup X754.here hx rfl (hb hby at_303) rfl rfl k) ?_
  try dsimp only [mkF]
  refine og (fun _ k => XS.bipush X754.here hx rfl (hb hby at_304) k) ?_
  obtain ⟨T756, h756, k756, X756, e756, E756, A756, st756⟩ := newP X754 hx hZ (tw hw 4 rfl) e754 (g := (mkF m 306 #[.val (.int p1), .val (.int p2), .val (.int p3), .val (.int p4), .val (.int (2 : Int32)), .val (.int c0), .val (.int c1), .val (.int c2), .val (.ref b734), .unset, .unset] [(.int (17 : Int32)), (.ref b754), (.ref b754)])) rfl (hb hby at_306) rfl (by decide) (cap := 17) (by decide) (by decide) (by decide) (by decide)
  obtain ⟨b756, g756⟩ : ∃ z, z = h754.size := ⟨_, rfl⟩
  rw [← g756] at A756 st756
  refine own_go st756 ?_
  have C757 := C755.trans (CHr.ext E756 C755.1)
  have V756 : Arv Z h756 b756 k756 .char (17 : Int32) [(.int (0 : Int32)), (.int (0 : Int32)), (.int (0 : Int32)), (.int (0 : Int32)), (.int (0 : Int32)), (.int (0 : Int32)), (.int (0 : Int32)), (.int (0 : Int32)), (.int (0 : Int32)), (.int (0 : Int32)), (.int (0 : Int32)), (.int (0 : Int32)), (.int (0 : Int32)), (.int (0 : Int32)), (.int (0 : Int32)), (.int (0 : Int32)), (.int (0 : Int32))] (.int (0 : Int32)) := (Arv.new A756 (by decide)).pad (pad_rep [] (.int (0 : Int32)) 17)
  refine og (fun _ k => XS.dup X756.here hx rfl (hb hby at_308) rfl rfl k) ?_
  refine og (fun _ k => XS.iconst X756.here hx rfl (hb hby at_309) k) ?_
  refine og (fun _ k => XS.bipush X756.here hx rfl (hb hby at_310) k) ?_
  try dsimp only [mkF]
  obtain ⟨c758, A758, q758, S758, M758, Hs758, Gs758⟩ := id V756
  obtain ⟨T759, h759, X759, e759, W759, st759⟩ := stC X756 hx hZ e756 A758 (j := (0 : Int32)) (inb_of S758 ⟨by decide, by decide⟩) (g := (mkF m 312 #[.val (.int p1), .val (.int p2), .val (.int p3), .val (.int p4), .val (.int (2 : Int32)), .val (.int c0), .val (.int c1), .val (.int c2), .val (.ref b734), .unset, .unset] [(.int (109 : Int32)), (.int (0 : Int32)), (.ref b756), (.ref b756), (.ref b754), (.ref b754)])) rfl rfl (hb hby at_312)
  have z760 := (Nat.le_trans (Nat.le_trans (Nat.le_trans (Nat.le_trans E734.1 E736.1) (Keep.of_wr W739).1) (Keep.of_wr W743).1) K751.1)
  refine own_go st759 ?_
  have N759 := Fr.snoc X759 N751 (Nat.le_trans Z0 (Nat.le_trans (Nat.le_trans z760 E754.1) (Nat.le_of_eq g756.symm)))
  obtain ⟨LL759, X759, N759⟩ := own_gl X759 N759
  have f761 := (Safe.ext E756 C755.1 (Safe.new (Nat.le_of_eq g756.symm)))
  have C762 := C757.trans (CHr.wr W759 f761 C757.1)
  have V759 : Arv Z h759 b756 k756 .char (17 : Int32) [(.int (109 : Int32)), (.int (0 : Int32)), (.int (0 : Int32)), (.int (0 : Int32)), (.int (0 : Int32)), (.int (0 : Int32)), (.int (0 : Int32)), (.int (0 : Int32)), (.int (0 : Int32)), (.int (0 : Int32)), (.int (0 : Int32)), (.int (0 : Int32)), (.int (0 : Int32)), (.int (0 : Int32)), (.int (0 : Int32)), (.int (0 : Int32)), (.int (0 : Int32))] (.int (0 : Int32)) := Arv.set A758 q758 S758 M758 Hs758 Gs758 (fits_nar_char _) W759 0 rfl (Nat.le_of_ble_eq_true rfl)
  refine og (fun _ k => XS.dup X759.here hx rfl (hb hby at_313) rfl rfl k) ?_
  refine og (fun _ k => XS.iconst X759.here hx rfl (hb hby at_314) k) ?_
  refine og (fun _ k => XS.bipush X759.here hx rfl (hb hby at_315) k) ?_
  obtain ⟨c763, A763, q763, S763, M763, Hs763, Gs763⟩ := id V759
  obtain ⟨T764, h764, X764, e764, W764, st764⟩ := stC X759 hx hZ e759 A763 (j := (1 : Int32)) (inb_of S763 ⟨by decide, by decide⟩) (g := (mkF m 317 #[.val (.int p1), .val (.int p2), .val (.int p3), .val (.int p4), .val (.int (2 : Int32)), .val (.int c0), .val (.int c1), .val (.int c2), .val (.ref b734), .unset, .unset] [(.int (105 : Int32)), (.int (1 : Int32)), (.ref b756), (.ref b756), (.ref b754), (.ref b754)])) rfl rfl (hb hby at_317)
  refine own_go st764 ?_
  have N764 := Fr.snoc X764 N759 (Nat.le_trans Z0 (Nat.le_trans (Nat.le_trans z760 E754.1) (Nat.le_of_eq g756.symm)))
  have f765 := (Safe.wr W759 f761 C757.1 f761)
  have C766 := C762.trans (CHr.wr W764 f765 C762.1)
  have V764 : Arv Z h764 b756 k756 .char (17 : Int32) [(.int (109 : Int32)), (.int (105 : Int32)), (.int (0 : Int32)), (.int (0 : Int32)), (.int (0 : Int32)), (.int (0 : Int32)), (.int (0 : Int32)), (.int (0 : Int32)), (.int (0 : Int32)), (.int (0 : Int32)), (.int (0 : Int32)), (.int (0 : Int32)), (.int (0 : Int32)), (.int (0 : Int32)), (.int (0 : Int32)), (.int (0 : Int32)), (.int (0 : Int32))] (.int (0 : Int32)) := Arv.set A763 q763 S763 M763 Hs763 Gs763 (fits_nar_char _) W764 1 rfl (Nat.le_of_ble_eq_true rfl)
  try dsimp only [mkF]
  refine og (fun _ k => XS.dup X764.here hx rfl (hb hby at_318) rfl rfl k) ?_
  refine og (fun _ k => XS.iconst X764.here hx rfl (hb hby at_319) k) ?_
  refine og (fun _ k => XS.bipush X764.here hx rfl (hb hby at_320) k) ?_
  obtain ⟨c767, A767, q767, S767, M767, Hs767, Gs767⟩ := id V764
  obtain ⟨T768, h768, X768, e768, W768, st768⟩ := stC X764 hx hZ e764 A767 (j := (2 : Int32)) (inb_of S767 ⟨by decide, by decide⟩) (g := (mkF m 322 #[.val (.int p1), .val (.int p2), .val (.int p3), .val (.int p4), .val (.int (2 : Int32)), .val (.int c0), .val (.int c1), .val (.int c2), .val (.ref b734), .unset, .unset] [(.int (115 : Int32)), (.int (2 : Int32)), (.ref b756), (.ref b756), (.ref b754), (.ref b754)])) rfl rfl (hb hby at_322)
  refine own_go st768 ?_
  have N768 := Fr.snoc X768 N764 (Nat.le_trans Z0 (Nat.le_trans (Nat.le_trans z760 E754.1) (Nat.le_of_eq g756.symm)))
  have f769 := (Safe.wr W764 f765 C762.1 f765)
  have C770 := C766.trans (CHr.wr W768 f769 C766.1)
  have V768 : Arv Z h768 b756 k756 .char (17 : Int32) [(.int (109 : Int32)), (.int (105 : Int32)), (.int (115 : Int32)), (.int (0 : Int32)), (.int (0 : Int32)), (.int (0 : Int32)), (.int (0 : Int32)), (.int (0 : Int32)), (.int (0 : Int32)), (.int (0 : Int32)), (.int (0 : Int32)), (.int (0 : Int32)), (.int (0 : Int32)), (.int (0 : Int32)), (.int (0 : Int32)), (.int (0 : Int32)), (.int (0 : Int32))] (.int (0 : Int32)) := Arv.set A767 q767 S767 M767 Hs767 Gs767 (fits_nar_char _) W768 2 rfl (Nat.le_of_ble_eq_true rfl)
  refine og (fun _ k => XS.dup X768.here hx rfl (hb hby at_323) rfl rfl k) ?_
  try dsimp only [mkF]
  refine og (fun _ k => XS.iconst X768.here hx rfl (hb hby at_324) k) ?_
  refine og (fun _ k => XS.bipush X768.here hx rfl (hb hby at_325) k) ?_
  obtain ⟨c771, A771, q771, S771, M771, Hs771, Gs771⟩ := id V768
  obtain ⟨T772, h772, X772, e772, W772, st772⟩ := stC X768 hx hZ e768 A771 (j := (3 : Int32)) (inb_of S771 ⟨by decide, by decide⟩) (g := (mkF m 327 #[.val (.int p1), .val (.int p2), .val (.int p3), .val (.int p4), .val (.int (2 : Int32)), .val (.int c0), .val (.int c1), .val (.int c2), .val (.ref b734), .unset, .unset] [(.int (115 : Int32)), (.int (3 : Int32)), (.ref b756), (.ref b756), (.ref b754), (.ref b754)])) rfl rfl (hb hby at_327)
  refine own_go st772 ?_
  have N772 := Fr.snoc X772 N768 (Nat.le_trans Z0 (Nat.le_trans (Nat.le_trans z760 E754.1) (Nat.le_of_eq g756.symm)))
  obtain ⟨LL772, X772, N772⟩ := own_gl X772 N772
  have f773 := (Safe.wr W768 f769 C766.1 f769)
  have C774 := C770.trans (CHr.wr W772 f773 C770.1)
  have V772 : Arv Z h772 b756 k756 .char (17 : Int32) [(.int (109 : Int32)), (.int (105 : Int32)), (.int (115 : Int32)), (.int (115 : Int32)), (.int (0 : Int32)), (.int (0 : Int32)), (.int (0 : Int32)), (.int (0 : Int32)), (.int (0 : Int32)), (.int (0 : Int32)), (.int (0 : Int32)), (.int (0 : Int32)), (.int (0 : Int32)), (.int (0 : Int32)), (.int (0 : Int32)), (.int (0 : Int32)), (.int (0 : Int32))] (.int (0 : Int32)) := Arv.set A771 q771 S771 M771 Hs771 Gs771 (fits_nar_char _) W772 3 rfl (Nat.le_of_ble_eq_true rfl)
  refine og (fun _ k => XS.dup X772.here hx rfl (hb hby at_328) rfl rfl k) ?_
  refine og (fun _ k => XS.iconst X772.here hx rfl (hb hby at_329) k) ?_
  try dsimp only [mkF]
  refine og (fun _ k => XS.bipush X772.here hx rfl (hb hby at_330) k) ?_
  obtain ⟨c775, A775, q775, S775, M775, Hs775, Gs775⟩ := id V772
  obtain ⟨T776, h776, X776, e776, W776, st776⟩ := stC X772 hx hZ e772 A775 (j := (4 : Int32)) (inb_of S775 ⟨by decide, by decide⟩) (g := (mkF m 332 #[.val (.int p1), .val (.int p2), .val (.int p3), .val (.int p4), .val (.int (2 : Int32)), .val (.int c0), .val (.int c1), .val (.int c2), .val (.ref b734), .unset, .unset] [(.int (105 : Int32)), (.int (4 : Int32)), (.ref b756), (.ref b756), (.ref b754), (.ref b754)])) rfl rfl (hb hby at_332)
  refine own_go st776 ?_
  have N776 := Fr.snoc X776 N772 (Nat.le_trans Z0 (Nat.le_trans (Nat.le_trans z760 E754.1) (Nat.le_of_eq g756.symm)))
  have f777 := (Safe.wr W772 f773 C770.1 f773)
  have C778 := C774.trans (CHr.wr W776 f777 C774.1)
  have V776 : Arv Z h776 b756 k756 .char (17 : Int32) [(.int (109 : Int32)), (.int (105 : Int32)), (.int (115 : Int32)), (.int (115 : Int32)), (.int (105 : Int32)), (.int (0 : Int32)), (.int (0 : Int32)), (.int (0 : Int32)), (.int (0 : Int32)), (.int (0 : Int32)), (.int (0 : Int32)), (.int (0 : Int32)), (.int (0 : Int32)), (.int (0 : Int32)), (.int (0 : Int32)), (.int (0 : Int32)), (.int (0 : Int32))] (.int (0 : Int32)) := Arv.set A775 q775 S775 M775 Hs775 Gs775 (fits_nar_char _) W776 4 rfl (Nat.le_of_ble_eq_true rfl)
  refine og (fun _ k => XS.dup X776.here hx rfl (hb hby at_333) rfl rfl k) ?_
  refine og (fun _ k => XS.iconst X776.here hx rfl (hb hby at_334) k) ?_
  refine og (fun _ k => XS.bipush X776.here hx rfl (hb hby at_335) k) ?_
  try dsimp only [mkF]
  obtain ⟨c779, A779, q779, S779, M779, Hs779, Gs779⟩ := id V776
  obtain ⟨T780, h780, X780, e780, W780, st780⟩ := stC X776 hx hZ e776 A779 (j := (5 : Int32)) (inb_of S779 ⟨by decide, by decide⟩) (g := (mkF m 337 #[.val (.int p1), .val (.int p2), .val (.int p3), .val (.int p4), .val (.int (2 : Int32)), .val (.int c0), .val (.int c1), .val (.int c2), .val (.ref b734), .unset, .unset] [(.int (110 : Int32)), (.int (5 : Int32)), (.ref b756), (.ref b756), (.ref b754), (.ref b754)])) rfl rfl (hb hby at_337)
  refine own_go st780 ?_
  have N780 := Fr.snoc X780 N776 (Nat.le_trans Z0 (Nat.le_trans (Nat.le_trans z760 E754.1) (Nat.le_of_eq g756.symm)))
  have f781 := (Safe.wr W776 f777 C774.1 f777)
  have C782 := C778.trans (CHr.wr W780 f781 C778.1)
  have V780 : Arv Z h780 b756 k756 .char (17 : Int32) [(.int (109 : Int32)), (.int (105 : Int32)), (.int (115 : Int32)), (.int (115 : Int32)), (.int (105 : Int32)), (.int (110 : Int32)), (.int (0 : Int32)), (.int (0 : Int32)), (.int (0 : Int32)), (.int (0 : Int32)), (.int (0 : Int32)), (.int (0 : Int32)), (.int (0 : Int32)), (.int (0 : Int32)), (.int (0 : Int32)), (.int (0 : Int32)), (.int (0 : Int32))] (.int (0 : Int32)) := Arv.set A779 q779 S779 M779 Hs779 Gs779 (fits_nar_char _) W780 5 rfl (Nat.le_of_ble_eq_true rfl)
  refine og (fun _ k => XS.dup X780.here hx rfl (hb hby at_338) rfl rfl k) ?_
  refine og (fun _ k => XS.bipush X780.here hx rfl (hb hby at_339) k) ?_
  refine og (fun _ k => XS.bipush X780.here hx rfl (hb hby at_341) k) ?_
  obtain ⟨c783, A783, q783, S783, M783, Hs783, Gs783⟩ := id V780
  obtain ⟨T784, h784, X784, e784, W784, st784⟩ := stC X780 hx hZ e780 A783 (j := (6 : Int32)) (inb_of S783 ⟨by decide, by decide⟩) (g := (mkF m 343 #[.val (.int p1), .val (.int p2), .val (.int p3), .val (.int p4), .val (.int (2 : Int32)), .val (.int c0), .val (.int c1), .val (.int c2), .val (.ref b734), .unset, .unset] [(.int (103 : Int32)), (.int (6 : Int32)), (.ref b756), (.ref b756), (.ref b754), (.ref b754)])) rfl rfl (hb hby at_343)
  refine own_go st784 ?_
  have N784 := Fr.snoc X784 N780 (Nat.le_trans Z0 (Nat.le_trans (Nat.le_trans z760 E754.1) (Nat.le_of_eq g756.symm)))
  obtain ⟨LL784, X784, N784⟩ := own_gl X784 N784
  have f785 := (Safe.wr W780 f781 C778.1 f781)
  have C786 := C782.trans (CHr.wr W784 f785 C782.1)
  have V784 : Arv Z h784 b756 k756 .char (17 : Int32) [(.int (109 : Int32)), (.int (105 : Int32)), (.int (115 : Int32)), (.int (115 : Int32)), (.int (105 : Int32)), (.int (110 : Int32)), (.int (103 : Int32)), (.int (0 : Int32)), (.int (0 : Int32)), (.int (0 : Int32)), (.int (0 : Int32)), (.int (0 : Int32)), (.int (0 : Int32)), (.int (0 : Int32)), (.int (0 : Int32)), (.int (0 : Int32)), (.int (0 : Int32))] (.int (0 : Int32)) := Arv.set A783 q783 S783 M783 Hs783 Gs783 (fits_nar_char _) W784 6 rfl (Nat.le_of_ble_eq_true rfl)
  try dsimp only [mkF]
  refine og (fun _ k => XS.dup X784.here hx rfl (hb hby at_344) rfl rfl k) ?_
  refine og (fun _ k => XS.bipush X784.here hx rfl (hb hby at_345) k) ?_
  refine og (fun _ k => XS.bipush X784.here hx rfl (hb hby at_347) k) ?_
  obtain ⟨c787, A787, q787, S787, M787, Hs787, Gs787⟩ := id V784
  obtain ⟨T788, h788, X788, e788, W788, st788⟩ := stC X784 hx hZ e784 A787 (j := (7 : Int32)) (inb_of S787 ⟨by decide, by decide⟩) (g := (mkF m 349 #[.val (.int p1), .val (.int p2), .val (.int p3), .val (.int p4), .val (.int (2 : Int32)), .val (.int c0), .val (.int c1), .val (.int c2), .val (.ref b734), .unset, .unset] [(.int (32 : Int32)), (.int (7 : Int32)), (.ref b756), (.ref b756), (.ref b754), (.ref b754)])) rfl rfl (hb hby at_349)
  refine own_go st788 ?_
  have N788 := Fr.snoc X788 N784 (Nat.le_trans Z0 (Nat.le_trans (Nat.le_trans z760 E754.1) (Nat.le_of_eq g756.symm)))
  have f789 := (Safe.wr W784 f785 C782.1 f785)
  have C790 := C786.trans (CHr.wr W788 f789 C786.1)
  have V788 : Arv Z h788 b756 k756 .char (17 : Int32) [(.int (109 : Int32)), (.int (105 : Int32)), (.int (115 : Int32)), (.int (115 : Int32)), (.int (105 : Int32)), (.int (110 : Int32)), (.int (103 : Int32)), (.int (32 : Int32)), (.int (0 : Int32)), (.int (0 : Int32)), (.int (0 : Int32)), (.int (0 : Int32)), (.int (0 : Int32)), (.int (0 : Int32)), (.int (0 : Int32)), (.int (0 : Int32)), (.int (0 : Int32))] (.int (0 : Int32)) := Arv.set A787 q787 S787 M787 Hs787 Gs787 (fits_nar_char _) W788 7 rfl (Nat.le_of_ble_eq_true rfl)
  refine og (fun _ k => XS.dup X788.here hx rfl (hb hby at_350) rfl rfl k) ?_
  try dsimp only [mkF]
  refine og (fun _ k => XS.bipush X788.here hx rfl (hb hby at_351) k) ?_
  refine og (fun _ k => XS.bipush X788.here hx rfl (hb hby at_353) k) ?_
  obtain ⟨c791, A791, q791, S791, M791, Hs791, Gs791⟩ := id V788
  obtain ⟨T792, h792, X792, e792, W792, st792⟩ := stC X788 hx hZ e788 A791 (j := (8 : Int32)) (inb_of S791 ⟨by decide, by decide⟩) (g := (mkF m 355 #[.val (.int p1), .val (.int p2), .val (.int p3), .val (.int p4), .val (.int (2 : Int32)), .val (.int c0), .val (.int c1), .val (.int c2), .val (.ref b734), .unset, .unset] [(.int (111 : Int32)), (.int (8 : Int32)), (.ref b756), (.ref b756), (.ref b754), (.ref b754)])) rfl rfl (hb hby at_355)
  refine own_go st792 ?_
  have N792 := Fr.snoc X792 N788 (Nat.le_trans Z0 (Nat.le_trans (Nat.le_trans z760 E754.1) (Nat.le_of_eq g756.symm)))
  have f793 := (Safe.wr W788 f789 C786.1 f789)
  have C794 := C790.trans (CHr.wr W792 f793 C790.1)
  have V792 : Arv Z h792 b756 k756 .char (17 : Int32) [(.int (109 : Int32)), (.int (105 : Int32)), (.int (115 : Int32)), (.int (115 : Int32)), (.int (105 : Int32)), (.int (110 : Int32)), (.int (103 : Int32)), (.int (32 : Int32)), (.int (111 : Int32)), (.int (0 : Int32)), (.int (0 : Int32)), (.int (0 : Int32)), (.int (0 : Int32)), (.int (0 : Int32)), (.int (0 : Int32)), (.int (0 : Int32)), (.int (0 : Int32))] (.int (0 : Int32)) := Arv.set A791 q791 S791 M791 Hs791 Gs791 (fits_nar_char _) W792 8 rfl (Nat.le_of_ble_eq_true rfl)
  refine og (fun _ k => XS.dup X792.here hx rfl (hb hby at_356) rfl rfl k) ?_
  refine og (fun _ k => XS.bipush X792.here hx rfl (hb hby at_357) k) ?_
  try dsimp only [mkF]
  refine og (fun _ k => XS.bipush X792.here hx rfl (hb hby at_359) k) ?_
  obtain ⟨c795, A795, q795, S795, M795, Hs795, Gs795⟩ := id V792
  obtain ⟨T796, h796, X796, e796, W796, st796⟩ := stC X792 hx hZ e792 A795 (j := (9 : Int32)) (inb_of S795 ⟨by decide, by decide⟩) (g := (mkF m 361 #[.val (.int p1), .val (.int p2), .val (.int p3), .val (.int p4), .val (.int (2 : Int32)), .val (.int c0), .val (.int c1), .val (.int c2), .val (.ref b734), .unset, .unset] [(.int (112 : Int32)), (.int (9 : Int32)), (.ref b756), (.ref b756), (.ref b754), (.ref b754)])) rfl rfl (hb hby at_361)
  refine own_go st796 ?_
  have N796 := Fr.snoc X796 N792 (Nat.le_trans Z0 (Nat.le_trans (Nat.le_trans z760 E754.1) (Nat.le_of_eq g756.symm)))
  obtain ⟨LL796, X796, N796⟩ := own_gl X796 N796
  have f797 := (Safe.wr W792 f793 C790.1 f793)
  have C798 := C794.trans (CHr.wr W796 f797 C794.1)
  have V796 : Arv Z h796 b756 k756 .char (17 : Int32) [(.int (109 : Int32)), (.int (105 : Int32)), (.int (115 : Int32)), (.int (115 : Int32)), (.int (105 : Int32)), (.int (110 : Int32)), (.int (103 : Int32)), (.int (32 : Int32)), (.int (111 : Int32)), (.int (112 : Int32)), (.int (0 : Int32)), (.int (0 : Int32)), (.int (0 : Int32)), (.int (0 : Int32)), (.int (0 : Int32)), (.int (0 : Int32)), (.int (0 : Int32))] (.int (0 : Int32)) := Arv.set A795 q795 S795 M795 Hs795 Gs795 (fits_nar_char _) W796 9 rfl (Nat.le_of_ble_eq_true rfl)
  refine og (fun _ k => XS.dup X796.here hx rfl (hb hby at_362) rfl rfl k) ?_
  refine og (fun _ k => XS.bipush X796.here hx rfl (hb hby at_363) k) ?_
  refine og (fun _ k => XS.bipush X796.here hx rfl (hb hby at_365) k) ?_
  try dsimp only [mkF]
  obtain ⟨c799, A799, q799, S799, M799, Hs799, Gs799⟩ := id V796
  obtain ⟨T800, h800, X800, e800, W800, st800⟩ := stC X796 hx hZ e796 A799 (j := (10 : Int32)) (inb_of S799 ⟨by decide, by decide⟩) (g := (mkF m 367 #[.val (.int p1), .val (.int p2), .val (.int p3), .val (.int p4), .val (.int (2 : Int32)), .val (.int c0), .val (.int c1), .val (.int c2), .val (.ref b734), .unset, .unset] [(.int (116 : Int32)), (.int (10 : Int32)), (.ref b756), (.ref b756), (.ref b754), (.ref b754)])) rfl rfl (hb hby at_367)
  refine own_go st800 ?_
  have N800 := Fr.snoc X800 N796 (Nat.le_trans Z0 (Nat.le_trans (Nat.le_trans z760 E754.1) (Nat.le_of_eq g756.symm)))
  have f801 := (Safe.wr W796 f797 C794.1 f797)
  have C802 := C798.trans (CHr.wr W800 f801 C798.1)
  have V800 : Arv Z h800 b756 k756 .char (17 : Int32) [(.int (109 : Int32)), (.int (105 : Int32)), (.int (115 : Int32)), (.int (115 : Int32)), (.int (105 : Int32)), (.int (110 : Int32)), (.int (103 : Int32)), (.int (32 : Int32)), (.int (111 : Int32)), (.int (112 : Int32)), (.int (116 : Int32)), (.int (0 : Int32)), (.int (0 : Int32)), (.int (0 : Int32)), (.int (0 : Int32)), (.int (0 : Int32)), (.int (0 : Int32))] (.int (0 : Int32)) := Arv.set A799 q799 S799 M799 Hs799 Gs799 (fits_nar_char _) W800 10 rfl (Nat.le_of_ble_eq_true rfl)
  refine og (fun _ k => XS.dup X800.here hx rfl (hb hby at_368) rfl rfl k) ?_
  refine og (fun _ k => XS.bipush X800.here hx rfl (hb hby at_369) k) ?_
  refine og (fun _ k => XS.bipush X800.here hx rfl (hb hby at_371) k) ?_
  obtain ⟨c803, A803, q803, S803, M803, Hs803, Gs803⟩ := id V800
  obtain ⟨T804, h804, X804, e804, W804, st804⟩ := stC X800 hx hZ e800 A803 (j := (11 : Int32)) (inb_of S803 ⟨by decide, by decide⟩) (g := (mkF m 373 #[.val (.int p1), .val (.int p2), .val (.int p3), .val (.int p4), .val (.int (2 : Int32)), .val (.int c0), .val (.int c1), .val (.int c2), .val (.ref b734), .unset, .unset] [(.int (105 : Int32)), (.int (11 : Int32)), (.ref b756), (.ref b756), (.ref b754), (.ref b754)])) rfl rfl (hb hby at_373)
  refine own_go st804 ?_
  have N804 := Fr.snoc X804 N800 (Nat.le_trans Z0 (Nat.le_trans (Nat.le_trans z760 E754.1) (Nat.le_of_eq g756.symm)))
  have f805 := (Safe.wr W800 f801 C798.1 f801)
  have C806 := C802.trans (CHr.wr W804 f805 C802.1)
  have V804 : Arv Z h804 b756 k756 .char (17 : Int32) [(.int (109 : Int32)), (.int (105 : Int32)), (.int (115 : Int32)), (.int (115 : Int32)), (.int (105 : Int32)), (.int (110 : Int32)), (.int (103 : Int32)), (.int (32 : Int32)), (.int (111 : Int32)), (.int (112 : Int32)), (.int (116 : Int32)), (.int (105 : Int32)), (.int (0 : Int32)), (.int (0 : Int32)), (.int (0 : Int32)), (.int (0 : Int32)), (.int (0 : Int32))] (.int (0 : Int32)) := Arv.set A803 q803 S803 M803 Hs803 Gs803 (fits_nar_char _) W804 11 rfl (Nat.le_of_ble_eq_true rfl)
  try dsimp only [mkF]
  refine og (fun _ k => XS.dup X804.here hx rfl (hb hby at_374) rfl rfl k) ?_
  refine og (fun _ k => XS.bipush X804.here hx rfl (hb hby at_375) k) ?_
  refine og (fun _ k => XS.bipush X804.here hx rfl (hb hby at_377) k) ?_
  obtain ⟨c807, A807, q807, S807, M807, Hs807, Gs807⟩ := id V804
  obtain ⟨T808, h808, X808, e808, W808, st808⟩ := stC X804 hx hZ e804 A807 (j := (12 : Int32)) (inb_of S807 ⟨by decide, by decide⟩) (g := (mkF m 379 #[.val (.int p1), .val (.int p2), .val (.int p3), .val (.int p4), .val (.int (2 : Int32)), .val (.int c0), .val (.int c1), .val (.int c2), .val (.ref b734), .unset, .unset] [(.int (111 : Int32)), (.int (12 : Int32)), (.ref b756), (.ref b756), (.ref b754), (.ref b754)])) rfl rfl (hb hby at_379)
  refine own_go st808 ?_
  have N808 := Fr.snoc X808 N804 (Nat.le_trans Z0 (Nat.le_trans (Nat.le_trans z760 E754.1) (Nat.le_of_eq g756.symm)))
  obtain ⟨LL808, X808, N808⟩ := own_gl X808 N808
  have f809 := (Safe.wr W804 f805 C802.1 f805)
  have C810 := C806.trans (CHr.wr W808 f809 C806.1)
  have V808 : Arv Z h808 b756 k756 .char (17 : Int32) [(.int (109 : Int32)), (.int (105 : Int32)), (.int (115 : Int32)), (.int (115 : Int32)), (.int (105 : Int32)), (.int (110 : Int32)), (.int (103 : Int32)), (.int (32 : Int32)), (.int (111 : Int32)), (.int (112 : Int32)), (.int (116 : Int32)), (.int (105 : Int32)), (.int (111 : Int32)), (.int (0 : Int32)), (.int (0 : Int32)), (.int (0 : Int32)), (.int (0 : Int32))] (.int (0 : Int32)) := Arv.set A807 q807 S807 M807 Hs807 Gs807 (fits_nar_char _) W808 12 rfl (Nat.le_of_ble_eq_true rfl)
  refine og (fun _ k => XS.dup X808.here hx rfl (hb hby at_380) rfl rfl k) ?_
  try dsimp only [mkF]
  refine og (fun _ k => XS.bipush X808.here hx rfl (hb hby at_381) k) ?_
  refine og (fun _ k => XS.bipush X808.here hx rfl (hb hby at_383) k) ?_
  obtain ⟨c811, A811, q811, S811, M811, Hs811, Gs811⟩ := id V808
  obtain ⟨T812, h812, X812, e812, W812, st812⟩ := stC X808 hx hZ e808 A811 (j := (13 : Int32)) (inb_of S811 ⟨by decide, by decide⟩) (g := (mkF m 385 #[.val (.int p1), .val (.int p2), .val (.int p3), .val (.int p4), .val (.int (2 : Int32)), .val (.int c0), .val (.int c1), .val (.int c2), .val (.ref b734), .unset, .unset] [(.int (110 : Int32)), (.int (13 : Int32)), (.ref b756), (.ref b756), (.ref b754), (.ref b754)])) rfl rfl (hb hby at_385)
  refine own_go st812 ?_
  have N812 := Fr.snoc X812 N808 (Nat.le_trans Z0 (Nat.le_trans (Nat.le_trans z760 E754.1) (Nat.le_of_eq g756.symm)))
  have f813 := (Safe.wr W808 f809 C806.1 f809)
  have C814 := C810.trans (CHr.wr W812 f813 C810.1)
  have V812 : Arv Z h812 b756 k756 .char (17 : Int32) [(.int (109 : Int32)), (.int (105 : Int32)), (.int (115 : Int32)), (.int (115 : Int32)), (.int (105 : Int32)), (.int (110 : Int32)), (.int (103 : Int32)), (.int (32 : Int32)), (.int (111 : Int32)), (.int (112 : Int32)), (.int (116 : Int32)), (.int (105 : Int32)), (.int (111 : Int32)), (.int (110 : Int32)), (.int (0 : Int32)), (.int (0 : Int32)), (.int (0 : Int32))] (.int (0 : Int32)) := Arv.set A811 q811 S811 M811 Hs811 Gs811 (fits_nar_char _) W812 13 rfl (Nat.le_of_ble_eq_true rfl)
  refine og (fun _ k => XS.dup X812.here hx rfl (hb hby at_386) rfl rfl k) ?_
  refine og (fun _ k => XS.bipush X812.here hx rfl (hb hby at_387) k) ?_
  try dsimp only [mkF]
  refine og (fun _ k => XS.bipush X812.here hx rfl (hb hby at_389) k) ?_
  obtain ⟨c815, A815, q815, S815, M815, Hs815, Gs815⟩ := id V812
  obtain ⟨T816, h816, X816, e816, W816, st816⟩ := stC X812 hx hZ e812 A815 (j := (14 : Int32)) (inb_of S815 ⟨by decide, by decide⟩) (g := (mkF m 391 #[.val (.int p1), .val (.int p2), .val (.int p3), .val (.int p4), .val (.int (2 : Int32)), .val (.int c0), .val (.int c1), .val (.int c2), .val (.ref b734), .unset, .unset] [(.int (32 : Int32)), (.int (14 : Int32)), (.ref b756), (.ref b756), (.ref b754), (.ref b754)])) rfl rfl (hb hby at_391)
  refine own_go st816 ?_
  have N816 := Fr.snoc X816 N812 (Nat.le_trans Z0 (Nat.le_trans (Nat.le_trans z760 E754.1) (Nat.le_of_eq g756.symm)))
  have f817 := (Safe.wr W812 f813 C810.1 f813)
  have C818 := C814.trans (CHr.wr W816 f817 C814.1)
  have V816 : Arv Z h816 b756 k756 .char (17 : Int32) [(.int (109 : Int32)), (.int (105 : Int32)), (.int (115 : Int32)), (.int (115 : Int32)), (.int (105 : Int32)), (.int (110 : Int32)), (.int (103 : Int32)), (.int (32 : Int32)), (.int (111 : Int32)), (.int (112 : Int32)), (.int (116 : Int32)), (.int (105 : Int32)), (.int (111 : Int32)), (.int (110 : Int32)), (.int (32 : Int32)), (.int (0 : Int32)), (.int (0 : Int32))] (.int (0 : Int32)) := Arv.set A815 q815 S815 M815 Hs815 Gs815 (fits_nar_char _) W816 14 rfl (Nat.le_of_ble_eq_true rfl)
  refine og (fun _ k => XS.dup X816.here hx rfl (hb hby at_392) rfl rfl k) ?_
  refine og (fun _ k => XS.bipush X816.here hx rfl (hb hby at_393) k) ?_
  refine og (fun _ k => XS.iload X816.here hx rfl (hb hby at_395) rfl k) ?_
  try dsimp only [mkF]
  obtain ⟨c819, A819, q819, S819, M819, Hs819, Gs819⟩ := id V816
  obtain ⟨T820, h820, X820, e820, W820, st820⟩ := stC X816 hx hZ e816 A819 (j := (15 : Int32)) (inb_of S819 ⟨by decide, by decide⟩) (g := (mkF m 397 #[.val (.int p1), .val (.int p2), .val (.int p3), .val (.int p4), .val (.int (2 : Int32)), .val (.int c0), .val (.int c1), .val (.int c2), .val (.ref b734), .unset, .unset] [(.int c0), (.int (15 : Int32)), (.ref b756), (.ref b756), (.ref b754), (.ref b754)])) rfl rfl (hb hby at_397)
  refine own_go st820 ?_
  have N820 := Fr.snoc X820 N816 (Nat.le_trans Z0 (Nat.le_trans (Nat.le_trans z760 E754.1) (Nat.le_of_eq g756.symm)))
  obtain ⟨LL820, X820, N820⟩ := own_gl X820 N820
  have f821 := (Safe.wr W816 f817 C814.1 f817)
  have C822 := C818.trans (CHr.wr W820 f821 C818.1)
  have V820 : Arv Z h820 b756 k756 .char (17 : Int32) [(.int (109 : Int32)), (.int (105 : Int32)), (.int (115 : Int32)), (.int (115 : Int32)), (.int (105 : Int32)), (.int (110 : Int32)), (.int (103 : Int32)), (.int (32 : Int32)), (.int (111 : Int32)), (.int (112 : Int32)), (.int (116 : Int32)), (.int (105 : Int32)), (.int (111 : Int32)), (.int (110 : Int32)), (.int (32 : Int32)), (.int (nar .char c0)), (.int (0 : Int32))] (.int (0 : Int32)) := Arv.set A819 q819 S819 M819 Hs819 Gs819 (fits_nar_char _) W820 15 rfl (Nat.le_of_ble_eq_true rfl)
  have V820q : Arv Z h820 b756 k756 .char (17 : Int32) [(.int (109 : Int32)), (.int (105 : Int32)), (.int (115 : Int32)), (.int (115 : Int32)), (.int (105 : Int32)), (.int (110 : Int32)), (.int (103 : Int32)), (.int (32 : Int32)), (.int (111 : Int32)), (.int (112 : Int32)), (.int (116 : Int32)), (.int (105 : Int32)), (.int (111 : Int32)), (.int (110 : Int32)), (.int (32 : Int32)), (.int c0), (.int (0 : Int32))] (.int (0 : Int32)) := by rw [show nar .char c0 = c0 from (own_nc b_c0.1 b_c0.2)] at V820; exact V820
  refine og (fun _ k => XS.dup X820.here hx rfl (hb hby at_398) rfl rfl k) ?_
  refine og (fun _ k => XS.bipush X820.here hx rfl (hb hby at_399) k) ?_
  refine og (fun _ k => XS.iload X820.here hx rfl (hb hby at_401) rfl k) ?_
  obtain ⟨c823, A823, q823, S823, M823, Hs823, Gs823⟩ := id V820q
  obtain ⟨T824, h824, X824, e824, W824, st824⟩ := stC X820 hx hZ e820 A823 (j := (16 : Int32)) (inb_of S823 ⟨by decide, by decide⟩) (g := (mkF m 403 #[.val (.int p1), .val (.int p2), .val (.int p3), .val (.int p4), .val (.int (2 : Int32)), .val (.int c0), .val (.int c1), .val (.int c2), .val (.ref b734), .unset, .unset] [(.int c1), (.int (16 : Int32)), (.ref b756), (.ref b756), (.ref b754), (.ref b754)])) rfl rfl (hb hby at_403)
  refine own_go st824 ?_
  have N824 := Fr.snoc X824 N820 (Nat.le_trans Z0 (Nat.le_trans (Nat.le_trans z760 E754.1) (Nat.le_of_eq g756.symm)))
  have f825 := (Safe.wr W820 f821 C818.1 f821)
  have C826 := C822.trans (CHr.wr W824 f825 C822.1)
  have V824 : Arv Z h824 b756 k756 .char (17 : Int32) [(.int (109 : Int32)), (.int (105 : Int32)), (.int (115 : Int32)), (.int (115 : Int32)), (.int (105 : Int32)), (.int (110 : Int32)), (.int (103 : Int32)), (.int (32 : Int32)), (.int (111 : Int32)), (.int (112 : Int32)), (.int (116 : Int32)), (.int (105 : Int32)), (.int (111 : Int32)), (.int (110 : Int32)), (.int (32 : Int32)), (.int c0), (.int (nar .char c1))] (.int (0 : Int32)) := Arv.set A823 q823 S823 M823 Hs823 Gs823 (fits_nar_char _) W824 16 rfl (Nat.le_of_ble_eq_true rfl)
  have V824q : Arv Z h824 b756 k756 .char (17 : Int32) [(.int (109 : Int32)), (.int (105 : Int32)), (.int (115 : Int32)), (.int (115 : Int32)), (.int (105 : Int32)), (.int (110 : Int32)), (.int (103 : Int32)), (.int (32 : Int32)), (.int (111 : Int32)), (.int (112 : Int32)), (.int (116 : Int32)), (.int (105 : Int32)), (.int (111 : Int32)), (.int (110 : Int32)), (.int (32 : Int32)), (.int c0), (.int c1)] (.int (0 : Int32)) := by rw [show nar .char c1 = c1 from (own_nc b_c1.1 b_c1.2)] at V824; exact V824
  try dsimp only [mkF]
  have f827 := ((((A754.ext E756).wr W759).wr W764).wr W768)
  have f828 := ((((f827.wr W772).wr W776).wr W780).wr W784)
  have f829 := ((((f828.wr W788).wr W792).wr W796).wr W800)
  have f830 := ((((f829.wr W804).wr W808).wr W812).wr W816)
  have ne831 : b754 ≠ b756 := Nat.ne_of_lt (Nat.lt_of_lt_of_le A754.lt (Nat.le_of_eq g756.symm))
  have f832 := ((((F754_value.ext E756).other W759 (Or.inl ne831)).other W764 (Or.inl ne831)).other W768 (Or.inl ne831))
  have f833 := ((((f832.other W772 (Or.inl ne831)).other W776 (Or.inl ne831)).other W780 (Or.inl ne831)).other W784 (Or.inl ne831))
  have f834 := ((((f833.other W788 (Or.inl ne831)).other W792 (Or.inl ne831)).other W796 (Or.inl ne831)).other W800 (Or.inl ne831))
  have f835 := ((((f834.other W804 (Or.inl ne831)).other W808 (Or.inl ne831)).other W812 (Or.inl ne831)).other W816 (Or.inl ne831))
  have f836 := ((f835.other W820 (Or.inl ne831)).other W824 (Or.inl ne831))
  have f837 := ((((F754_coder.ext E756).other W759 (Or.inl ne831)).other W764 (Or.inl ne831)).other W768 (Or.inl ne831))
  have f838 := ((((f837.other W772 (Or.inl ne831)).other W776 (Or.inl ne831)).other W780 (Or.inl ne831)).other W784 (Or.inl ne831))
  have f839 := ((((f838.other W788 (Or.inl ne831)).other W792 (Or.inl ne831)).other W796 (Or.inl ne831)).other W800 (Or.inl ne831))
  have f840 := ((((f839.other W804 (Or.inl ne831)).other W808 (Or.inl ne831)).other W812 (Or.inl ne831)).other W816 (Or.inl ne831))
  have f841 := ((f840.other W820 (Or.inl ne831)).other W824 (Or.inl ne831))
  have z842 := (Nat.le_trans (Nat.le_trans (Nat.le_trans (Nat.le_trans E734.1 E736.1) (Keep.of_wr W739).1) (Keep.of_wr W743).1) K751.1)
  have f843 := ((((f750.keep K751 (allS (Nat.le_trans Z0 (Nat.le_of_eq g734.symm)) all0)).ext E754).ext E756).wr W759 (Nat.le_trans Z0 (Nat.le_trans (Nat.le_trans z760 E754.1) (Nat.le_of_eq g756.symm))))
  have f844 := ((((f843.wr W764 (Nat.le_trans Z0 (Nat.le_trans (Nat.le_trans z760 E754.1) (Nat.le_of_eq g756.symm)))).wr W768 (Nat.le_trans Z0 (Nat.le_trans (Nat.le_trans z760 E754.1) (Nat.le_of_eq g756.symm)))).wr W772 (Nat.le_trans Z0 (Nat.le_trans (Nat.le_trans z760 E754.1) (Nat.le_of_eq g756.symm)))).wr W776 (Nat.le_trans Z0 (Nat.le_trans (Nat.le_trans z760 E754.1) (Nat.le_of_eq g756.symm))))
  have f845 := ((((f844.wr W780 (Nat.le_trans Z0 (Nat.le_trans (Nat.le_trans z760 E754.1) (Nat.le_of_eq g756.symm)))).wr W784 (Nat.le_trans Z0 (Nat.le_trans (Nat.le_trans z760 E754.1) (Nat.le_of_eq g756.symm)))).wr W788 (Nat.le_trans Z0 (Nat.le_trans (Nat.le_trans z760 E754.1) (Nat.le_of_eq g756.symm)))).wr W792 (Nat.le_trans Z0 (Nat.le_trans (Nat.le_trans z760 E754.1) (Nat.le_of_eq g756.symm))))
  have f846 := ((((f845.wr W796 (Nat.le_trans Z0 (Nat.le_trans (Nat.le_trans z760 E754.1) (Nat.le_of_eq g756.symm)))).wr W800 (Nat.le_trans Z0 (Nat.le_trans (Nat.le_trans z760 E754.1) (Nat.le_of_eq g756.symm)))).wr W804 (Nat.le_trans Z0 (Nat.le_trans (Nat.le_trans z760 E754.1) (Nat.le_of_eq g756.symm)))).wr W808 (Nat.le_trans Z0 (Nat.le_trans (Nat.le_trans z760 E754.1) (Nat.le_of_eq g756.symm))))
  have f847 := ((((f846.wr W812 (Nat.le_trans Z0 (Nat.le_trans (Nat.le_trans z760 E754.1) (Nat.le_of_eq g756.symm)))).wr W816 (Nat.le_trans Z0 (Nat.le_trans (Nat.le_trans z760 E754.1) (Nat.le_of_eq g756.symm)))).wr W820 (Nat.le_trans Z0 (Nat.le_trans (Nat.le_trans z760 E754.1) (Nat.le_of_eq g756.symm)))).wr W824 (Nat.le_trans Z0 (Nat.le_trans (Nat.le_trans z760 E754.1) (Nat.le_of_eq g756.symm))))
  obtain ⟨v848, _, ⟨T848, L848, k848, n848⟩, -, X848, ⟨Lc848, hQ848, l848, y848, z848⟩, st848⟩ := X824.specialBack hx (y := (⟨"java/lang/String", "<init>", "([C)V"⟩ : MethodName)) rfl hown (mvT hZ (tw hw 5 rfl)) (mvT hZ (tw hw 6 rfl)) (mvT hZ (tw hw 7 rfl)) (by decide) (backOf (W := 1) (rm_i1 l Z a0 hw [] b754 b756 k756 (.int (0 : Int32)) ([109, 105, 115, 115, 105, 110, 103, 32, 111, 112, 116, 105, 111, 110, 32, c0, c1] : List Int32) G1 h824 n0 f847 ((f830.wr W820).wr W824) f836 f841 (Nat.le_trans Z0 (Nat.le_trans z842 (Nat.le_of_eq g754.symm))) OA OH OL O2 P5 (own_okE2 b_c0 b_c1) V824q (Nat.le_of_ble_eq_true rfl) (Nat.le_of_ble_eq_true rfl)) hZ (tw hw 7 rfl) (tw hw 3 rfl) (by decide) (by decide)) (g := (mkF m 404 #[.val (.int p1), .val (.int p2), .val (.int p3), .val (.int p4), .val (.int (2 : Int32)), .val (.int c0), .val (.int c1), .val (.int c2), .val (.ref b734), .unset, .unset] [(.ref b756), (.ref b754), (.ref b754)])) rfl (by rw [hml]; rfl) (Steps.refl _) (a := b754) (argsL := [(.ref b756)]) (rest := [(.ref b754)]) (lenOf pd_31 rfl) rfl (by show 2 * 0 + _ ≤ _; exact Nat.le_of_eq rfl) (hb hby at_404) (fun _ _ => ⟨rfl, e824, (by decide : 6 + 2 ≤ _), (by decide : 113 + 86 ≤ _)⟩)
  dsimp only [Pt.U, Pt.locs, Pt.cells, Pt.slots] at X848 l848 y848 z848 st848 hQ848
  subst l848 y848 z848
  refine own_gos st848 ?_
  obtain ⟨t848, kt848, cd848, N2848, vs848, rfl, Nq848, K848, Fv848, Fc848, Vt848, hC848⟩ := hQ848
  have f849 := (Safe.wr W764 f765 C762.1 (Safe.wr W759 f761 C757.1 (Safe.ext E756 C755.1 (Safe.ext E754 C753.1 (Safe.new (Nat.le_of_eq g754.symm))))))
  have f850 := (Safe.wr W780 f781 C778.1 (Safe.wr W776 f777 C774.1 (Safe.wr W772 f773 C770.1 (Safe.wr W768 f769 C766.1 f849))))
  have f851 := (Safe.wr W796 f797 C794.1 (Safe.wr W792 f793 C790.1 (Safe.wr W788 f789 C786.1 (Safe.wr W784 f785 C782.1 f850))))
  have f852 := (Safe.wr W812 f813 C810.1 (Safe.wr W808 f809 C806.1 (Safe.wr W804 f805 C802.1 (Safe.wr W800 f801 C798.1 f851))))
  have f853 := (Safe.wr W824 f825 C822.1 (Safe.wr W820 f821 C818.1 (Safe.wr W816 f817 C814.1 f852)))
  have C854 := C826.trans (CHr.keep K848 (sfS f853 sf0) C826.1)
  have N848 := Fr.app N824 Nq848
  refine og (fun _ k => XS.astore X848.here hx rfl (hb hby at_407) rfl rfl (l' := #[.val (.int p1), .val (.int p2), .val (.int p3), .val (.int p4), .val (.int (2 : Int32)), .val (.int c0), .val (.int c1), .val (.int c2), .val (.ref b734), .val (.ref b754), .unset]) rfl k) ?_
  refine og (fun _ k => XS.goto X848.here hx rfl (pc0 := 409) (pc' := 554) rfl (hb hby at_409) (by decide) (by decide) k) ?_
  refine og (fun _ k => XS.aload X848.here hx rfl (hb hby at_554) rfl rfl k) ?_
  have f855 := ((((f746.keep K751).ext E754).ext E756).wr W759)
  have f856 := ((((f855.wr W764).wr W768).wr W772).wr W776)
  have f857 := ((((f856.wr W780).wr W784).wr W788).wr W792)
  have f858 := ((((f857.wr W796).wr W800).wr W804).wr W808)
  have f859 := ((((f858.wr W812).wr W816).wr W820).wr W824)
  have z861 := (Nat.le_trans (Nat.le_trans (Nat.le_trans (Nat.le_trans E736.1 (Keep.of_wr W739).1) (Keep.of_wr W743).1) K751.1) E754.1)
  have ne860 : b734 ≠ b756 := Nat.ne_of_lt (Nat.lt_of_lt_of_le (Nat.lt_of_lt_of_le A734.lt z861) (Nat.le_of_eq g756.symm))
  have f862 := ((((Fv751.ext E754).ext E756).other W759 (Or.inl ne860)).other W764 (Or.inl ne860))
  have f863 := ((((f862.other W768 (Or.inl ne860)).other W772 (Or.inl ne860)).other W776 (Or.inl ne860)).other W780 (Or.inl ne860))
  have f864 := ((((f863.other W784 (Or.inl ne860)).other W788 (Or.inl ne860)).other W792 (Or.inl ne860)).other W796 (Or.inl ne860))
  have f865 := ((((f864.other W800 (Or.inl ne860)).other W804 (Or.inl ne860)).other W808 (Or.inl ne860)).other W812 (Or.inl ne860))
  have z867 := (Nat.le_trans (Nat.le_trans (Nat.le_trans E736.1 (Keep.of_wr W739).1) (Keep.of_wr W743).1) K751.1)
  have ne866 : b734 ≠ b754 := Nat.ne_of_lt (Nat.lt_of_lt_of_le (Nat.lt_of_lt_of_le A734.lt z867) (Nat.le_of_eq g754.symm))
  have f868 := ((((f865.other W816 (Or.inl ne860)).other W820 (Or.inl ne860)).other W824 (Or.inl ne860)).keep K848 (ninS ne866 nin0))
  have f869 := ((((Fc751.ext E754).ext E756).other W759 (Or.inl ne860)).other W764 (Or.inl ne860))
  have f870 := ((((f869.other W768 (Or.inl ne860)).other W772 (Or.inl ne860)).other W776 (Or.inl ne860)).other W780 (Or.inl ne860))
  have f871 := ((((f870.other W784 (Or.inl ne860)).other W788 (Or.inl ne860)).other W792 (Or.inl ne860)).other W796 (Or.inl ne860))
  have f872 := ((((f871.other W800 (Or.inl ne860)).other W804 (Or.inl ne860)).other W808 (Or.inl ne860)).other W812 (Or.inl ne860))
  have f873 := ((((f872.other W816 (Or.inl ne860)).other W820 (Or.inl ne860)).other W824 (Or.inl ne860)).keep K848 (ninS ne866 nin0))
  have ne874 : t751 ≠ b756 := Nat.ne_of_lt (Nat.lt_of_lt_of_le (Nat.lt_of_lt_of_le Vt751.lt E754.1) (Nat.le_of_eq g756.symm))
  have f875 := ((((Vt751.ext E754).ext E756).other W759 ne874).other W764 ne874)
  have f876 := ((((f875.other W768 ne874).other W772 ne874).other W776 ne874).other W780 ne874)
  have f877 := ((((f876.other W784 ne874).other W788 ne874).other W792 ne874).other W796 ne874)
  have f878 := ((((f877.other W800 ne874).other W804 ne874).other W808 ne874).other W812 ne874)
  have ne879 : t751 ≠ b754 := Nat.ne_of_lt (Nat.lt_of_lt_of_le Vt751.lt (Nat.le_of_eq g754.symm))
  have f880 := ((((f878.other W816 ne874).other W820 ne874).other W824 ne874).keep K848 (ninS ne879 nin0))
  have f881 := (ThS.wr W743 (ThS.wr W739 (ThS.ext E736 (ThS.ext E734 hTh))))
  have f882 := (ThS.wr W759 (ThS.ext E756 (ThS.ext E754 (ThS.keep K751 (nsS (Exa.nostat f746) ns0) f881))))
  have f883 := (ThS.wr W776 (ThS.wr W772 (ThS.wr W768 (ThS.wr W764 f882))))
  have f884 := (ThS.wr W792 (ThS.wr W788 (ThS.wr W784 (ThS.wr W780 f883))))
  have f885 := (ThS.wr W808 (ThS.wr W804 (ThS.wr W800 (ThS.wr W796 f884))))
  have f886 := (ThS.wr W824 (ThS.wr W820 (ThS.wr W816 (ThS.wr W812 f885))))
  have f887 := (ThS.keep K848 (nsS (Exa.nostat ((f830.wr W820).wr W824)) ns0) f886)
  have f888 := (f847.keep K848 (allS (Nat.le_trans Z0 (Nat.le_trans z842 (Nat.le_of_eq g754.symm))) all0))
  obtain ⟨v889, _, ⟨T889, L889, k889, n889⟩, -, X889, hS889, hg889, ⟨Lc889, hQ889, l889, y889, z889, A889⟩, st889⟩ := callSS X848 hx (y := (⟨"com/example/cohortwise/cohortwise/cli/Arguments", "missingOption", "(Ljava/lang/String;)Lcom/example/cohortwise/cohortwise/cli/InputRefusedException;"⟩ : MethodName)) hown (mvT hZ (tw hw 34 rfl)) (mvT hZ (tw hw 35 rfl)) (mvT hZ (tw hw 36 rfl)) (mvT hZ (tw hw 37 rfl)) (by decide) (backOfSKH (W := 0) (rm_mis l Z a0 hw [] b734 t751 kt751 ([c0, c1] : List Int32) cd751 N2751 vs751 G1 G3 T848.heap n0 f888 O2 P5 O4 rG3 OA OH OL (f859.keep K848) f868 f873 f880 hC751 (own_okL2 b_c0 b_c1) (Nat.le_of_ble_eq_true rfl) hl hR2 f887) hZ (tw hw 37 rfl) (tw hw 36 rfl) (by decide) (by decide) own_hEL C854.1 (Vm.MethodsKnown.alikeC hS0.1.alike hTK) (Vm.FramesKnown.alikeC hS0.1.alike hBelow)) (g := (mkF m 556 #[.val (.int p1), .val (.int p2), .val (.int p3), .val (.int p4), .val (.int (2 : Int32)), .val (.int c0), .val (.int c1), .val (.int c2), .val (.ref b734), .val (.ref b754), .unset] [(.ref b734)])) rfl (by rw [hml]; rfl) (argsL := [(.ref b734)]) (rest := []) (lenOf pd_32 rfl) rfl (by show 2 * 0 + _ ≤ _; exact Nat.le_of_eq rfl) (hb hby at_556) (fun _ _ => ⟨rfl, (rfl : T848.heap = T848.heap), (by decide : 8 + 10 ≤ _), (by decide : 199 + 3018 ≤ _)⟩)
  dsimp only [Pt.U, Pt.locs, Pt.cells, Pt.slots] at X889 l889 y889 z889 st889 hQ889 hS889 hg889 A889
  subst l889 y889 z889
  refine own_gos st889 ?_
  have z890 := (Nat.le_trans (Nat.le_trans (Nat.le_trans (Nat.le_trans z760 E754.1) E756.1) (Keep.of_wr W759).1) (Keep.of_wr W764).1)
  have z891 := (Nat.le_trans (Nat.le_trans (Nat.le_trans (Nat.le_trans z890 (Keep.of_wr W768).1) (Keep.of_wr W772).1) (Keep.of_wr W776).1) (Keep.of_wr W780).1)
  have z892 := (Nat.le_trans (Nat.le_trans (Nat.le_trans (Nat.le_trans z891 (Keep.of_wr W784).1) (Keep.of_wr W788).1) (Keep.of_wr W792).1) (Keep.of_wr W796).1)
  have z893 := (Nat.le_trans (Nat.le_trans (Nat.le_trans (Nat.le_trans z892 (Keep.of_wr W800).1) (Keep.of_wr W804).1) (Keep.of_wr W808).1) (Keep.of_wr W812).1)
  have z894 := (Nat.le_trans (Nat.le_trans (Nat.le_trans (Nat.le_trans z893 (Keep.of_wr W816).1) (Keep.of_wr W820).1) (Keep.of_wr W824).1) K848.1)
  obtain ⟨X889, hS889, hZ889, hown889⟩ := rebS hS0 (k0 := _) (n1 := T848.heap.size) (by rw [(rfl : T848.heap = T848.heap)]; exact (Nat.le_trans hk0 z894)) X889 hS889 hg889 hZ hown
  obtain ⟨a889, x889, t889, kt889, cd889, N2889, vs889, rfl, Nq889, K889, Ea889, Fm889, Ex889, Fv889, Fc889, Vt889, hC889⟩ := hQ889
  have C895 := C854.trans A889
  have N889 := Fr.app N848 Nq889
  try dsimp only [mkF]
  refine og (fun _ k => XS.astore X889.here hx rfl (hb hby at_559) rfl rfl (l' := #[.val (.int p1), .val (.int p2), .val (.int p3), .val (.int p4), .val (.int (2 : Int32)), .val (.int c0), .val (.int c1), .val (.int c2), .val (.ref b734), .val (.ref b754), .val (.ref a889)]) rfl k) ?_
  refine og (fun _ k => XS.aload X889.here hx rfl (hb hby at_561) rfl rfl k) ?_
  refine og (fun _ k => XS.ifnonnullYes X889.here hx rfl (pc0 := 563) (pc' := 568) rfl (hb hby at_563) rfl (by decide) (by decide) k) ?_
  refine og (fun _ k => XS.aload X889.here hx rfl (hb hby at_568) rfl rfl k) ?_
  refine og (fun _ k => XS.aload X889.here hx rfl (hb hby at_570) rfl rfl k) ?_
  try dsimp only [mkF]
  obtain ⟨cq896, kq896, q896a, q896b, q896c⟩ := isOf hZ889 (rfl : T889.heap = T889.heap) Ea889
  obtain ⟨v896, _, ⟨T896, L896, k896, n896⟩, -, X896, ⟨Lc896, hQ896, l896, y896, z896⟩, st896⟩ := X889.virtualBackUp hx (owner := "java/lang/Throwable") (x := (⟨"com/example/cohortwise/cohortwise/cli/InputRefusedException", "getMessage", "()Ljava/lang/String;"⟩ : MethodName)) (y := (⟨"java/lang/Throwable", "getMessage", "()Ljava/lang/String;"⟩ : MethodName)) hown889 (mvT hZ889 (tw hw 209 rfl)) (mvT hZ889 (tw hw 210 rfl)) (mvT hZ889 (tw hw 211 rfl)) (by decide) (mvT hZ889 (tw hw 213 rfl)) (mvT hZ889 (tw hw 212 rfl)) (backOf (W := 1) (rm_gm l Z a0 hw [] a889 x889 T889.heap n0 (f888.keep K889 all0) Ea889 Fm889) hZ889 (tw hw 214 rfl) (tw hw 170 rfl) (by decide) (by decide)) q896a q896c (g := (mkF m 572 #[.val (.int p1), .val (.int p2), .val (.int p3), .val (.int p4), .val (.int (2 : Int32)), .val (.int c0), .val (.int c1), .val (.int c2), .val (.ref b734), .val (.ref b754), .val (.ref a889)] [(.ref a889), (.ref b754)])) rfl (by rw [hml]; rfl) (Steps.refl _) (argsL := []) (rest := [(.ref b754)]) (lenOf pd_30 rfl) rfl (by show 2 * 0 + _ ≤ _; exact Nat.le_of_eq rfl) (hb hby at_572) (fun _ _ => ⟨rfl, (rfl : T889.heap = T889.heap), (by decide : 18 + 0 ≤ _), (by decide : 3217 + 0 ≤ _)⟩)
  dsimp only [Pt.U, Pt.locs, Pt.cells, Pt.slots] at X896 l896 y896 z896 st896 hQ896
  subst l896 y896 z896
  refine own_gos st896 ?_
  obtain ⟨rfl, Nq896, e896⟩ := hQ896
  have N896 := Fr.app N889 Nq896
  have f897 := ((((f830.wr W820).wr W824).keep K848).keep K889)
  obtain ⟨cq898, kq898, q898a, q898b, q898c⟩ := isOf hZ889 e896 f897
  obtain ⟨v898, _, ⟨T898, L898, k898, n898⟩, -, X898, ⟨Lc898, hQ898, l898, y898, z898⟩, st898⟩ := X896.virtualBack hx (y := (⟨"java/lang/String", "equals", "(Ljava/lang/Object;)Z"⟩ : MethodName)) (z := (⟨"java/lang/String", "equals", "(Ljava/lang/Object;)Z"⟩ : MethodName)) hown889 (mvT hZ889 (tw hw 215 rfl)) (mvT hZ889 (tw hw 216 rfl)) (notFace_of_selects (args := #[]) (mvT hZ889 (tw hw 218 rfl))) (mvT hZ889 (tw hw 218 rfl)) (mvT hZ889 (tw hw 217 rfl)) (by decide) (StrChars.Road.eqW (W := 0) hZ889 (own_wEq hw) (kI := 4) (tw hw 2 rfl) f897 (Fv848.keep K889 nin0) (Fc848.keep K889 nin0) (Vt848.keep K889 nin0) hC848 (own_okE2 b_c0 b_c1).1 (own_okE2 b_c0 b_c1).2 Ex889 Fv889 Fc889 Vt889 hC889 (Eq.mpr (congrArg own_Ok (own_eqE ([c0, c1] : List Int32))) (own_okE2 b_c0 b_c1)).1 (Eq.mpr (congrArg own_Ok (own_eqE ([c0, c1] : List Int32))) (own_okE2 b_c0 b_c1)).2 (O2.ext (f888.keep K889 all0).2) P5 (by decide) (by decide)) q898a q898c (g := (mkF m 575 #[.val (.int p1), .val (.int p2), .val (.int p3), .val (.int p4), .val (.int (2 : Int32)), .val (.int c0), .val (.int c1), .val (.int c2), .val (.ref b734), .val (.ref b754), .val (.ref a889)] [(.ref x889), (.ref b754)])) rfl (by rw [hml]; rfl) (Steps.refl _) (argsL := [(.ref x889)]) (rest := []) (lenOf pd_33 rfl) rfl (by show 2 * 0 + _ ≤ _; exact Nat.le_of_eq rfl) (hb hby at_575) (fun _ _ => ⟨rfl, e896, (by decide : 18 + 0 ≤ _), (by decide : 3217 + 0 ≤ _)⟩)
  dsimp only [Pt.U, Pt.locs, Pt.cells, Pt.slots] at X898 l898 y898 z898 st898 hQ898
  subst l898 y898 z898
  refine own_gos st898 ?_
  obtain ⟨rfl, rfl, e898⟩ : _ = some (Value.int (1 : Int32)) ∧ _ = ([] : List Loc) ∧ _ := ⟨hQ898.1.elim (fun h => h.1) (fun h => absurd ((own_eqE ([c0, c1] : List Int32)).symm) h.2), hQ898.2⟩
  have Nq898 : Fr n0 ([] : List Loc) := Fr.nil n0
  have N898 := Fr.app N896 Nq898
  refine own_finW (v := (some (.int (nar .boolean (1 : Int32))))) X898 hh hZ889 hS889 (by rw [e898]; exact (Nat.le_refl _)) (fun h => by rw [hrt] at h; cases h) hlk (fun fs hr => retN X898 hx (t := .boolean) hrt (by simp) (hb hby at_578) hr) (QQ := QQ0 n0) ?_ own_hEL e898 (C895) (by decide) (by decide)
  rw [e898]
  exact ⟨rfl, N898⟩

set_option maxRecDepth 65536 in
set_option maxHeartbeats 40000000 in
theorem own_fst3 (l : Launch) (Z : State) (a0 : Array Value) (hw : ∀ d ∈ tables_1, d.before a0 Z = true) (p1 p2 p3 p4 c0 c1 c2 G1 : Int32) (G3 : Value) (h0 : Heap) (n0 : Nat) {p : Program} {e : Env} {s : State} {vm0 : Vm} {m : MethodId} {below : List Frame} {meth : Method} {cC : Code} {T0 : State} {locs : List Loc} (X0 : Stand p l e room_1 (s.setVm vm0) m #[(.int p1), (.int p2), (.int p3), (.int p4)] below meth cC T0 locs 0 0) (hx : p.tables.exec = Jvm.exec) (hby : cC.code = code) (hml : cC.maxLocals = maxLocals) (hown : (s.setVm vm0).vm.findClass "com/example/cohortwise/cohortwise/cli/ArgumentsMissingOptionPinLaw" = some m.cls) (hZ : Z.Warmed39 (s.setVm vm0).vm) (hrt : meth.sig.returnType = ret) (hlk : meth.locks = false) (h1 : Heap) (e0 : T0.heap = h1) (N0 : Fr n0 locs) (Z0 : n0 ≤ h1.size) (O1 : Old Z n0 h1) (hh : s.heap = h0) {k0 : Nat} (hS0 : s.Since vm0 k0) (hk0 : k0 ≤ h1.size) (C0 : CHr Z own_EL s.vm h0 vm0 h1) (hTh : ThS Z h1) (O2 : Sta Z Z.heap "java/lang/String" "COMPACT_STRINGS" "Z" (.int G1)) (P5 : ¬ (G1 = (0 : Int32))) (O4 : Sta Z Z.heap "jdk/internal/util/Preconditions" "SIOOBE_FORMATTER" "Ljava/util/function/BiFunction;" G3) (rG3 : G3.isRef = true) (OA : Sta Z Z.heap "java/lang/StringUTF16" "$assertionsDisabled" "Z" (.int (1 : Int32))) (OH : Sta Z Z.heap "java/lang/StringUTF16" "HI_BYTE_SHIFT" "I" (.int (0 : Int32))) (OL : Sta Z Z.heap "java/lang/StringUTF16" "LO_BYTE_SHIFT" "I" (.int (8 : Int32))) (b_c0 : ¬ c0 < 0 ∧ ¬ (65535 : Int32) < c0) (b_c1 : ¬ c1 < 0 ∧ ¬ (65535 : Int32) < c1) (b_c2 : ¬ c2 < 0 ∧ ¬ (65535 : Int32) < c2) (hl : l.stackTraces = true) (hR2 : ∀ d ∈ twoRefs, d.before a0 Z = true) (hTK : s.vm.MethodsKnown) (hBelow : s.vm.FramesKnown below) :
    own_Go p e below (T0.setTop (mkF m 26 #[.val (.int p1), .val (.int p2), .val (.int p3), .val (.int p4), .val (.int (3 : Int32)), .val (.int c0), .val (.int c1), .val (.int c2), .unset, .unset, .unset] [])) (fun oO U' => ∃ rV rL, oO = .returned rV ∧ QQ0 n0 rV U'.heap rL ∧ CHr Z own_EL s.vm s.heap U'.vm U'.heap ∧ ReturnedEndW s oO U' rL 48 8192) := by
  have own_wS := own_wSt hw
  have own_hEL := own_hELt hw
  refine og (fun _ k => XS.iload X0.here hx rfl (hb hby at_26) rfl k) ?_
  refine og (fun _ k => XS.ifYes X0.here hx rfl (pc0 := 28) (pc' := 143) rfl (hb hby at_28) rfl ((if0 _ _).trans (feq (by decide : ¬ ((3 : Int32) = (0 : Int32)))).2) (by decide) (by decide) k) ?_
  refine og (fun _ k => XS.iload X0.here hx rfl (hb hby at_143) rfl k) ?_
  refine og (fun _ k => XS.iconst X0.here hx rfl (hb hby at_145) k) ?_
  try dsimp only [mkF]
  refine og (fun _ k => XS.icmpYes X0.here hx rfl (pc0 := 146) (pc' := 272) rfl (hb hby at_146) rfl (feq (by decide : ¬ ((3 : Int32) = (1 : Int32)))).2 (by decide) (by decide) k) ?_
  refine og (fun _ k => XS.iload X0.here hx rfl (hb hby at_272) rfl k) ?_
  refine og (fun _ k => XS.iconst X0.here hx rfl (hb hby at_274) k) ?_
  refine og (fun _ k => XS.icmpYes X0.here hx rfl (pc0 := 275) (pc' := 412) rfl (hb hby at_275) rfl (feq (by decide : ¬ ((3 : Int32) = (2 : Int32)))).2 (by decide) (by decide) k) ?_
  obtain ⟨T899, h899, X899, e899, E899, A899, D899, U899, st899⟩ := newO X0 hx hZ hown (tw hw 1 rfl) (tw hw 2 rfl) (tw hw 3 rfl) e0 (g := (mkF m 412 #[.val (.int p1), .val (.int p2), .val (.int p3), .val (.int p4), .val (.int (3 : Int32)), .val (.int c0), .val (.int c1), .val (.int c2), .unset, .unset, .unset] [])) rfl (hb hby at_412) (by decide) (by decide)
  obtain ⟨b899, g899⟩ : ∃ z, z = h1.size := ⟨_, rfl⟩
  rw [← g899] at A899 D899 U899 st899
  refine own_go st899 ?_
  have C900 := C0.trans (CHr.ext E899 C0.1)
  have F899_value : Fld Z h899 b899 "java/lang/String" "value" "[B" .null := D899 (Or.inr (tw hw 17 rfl)) (ty := (.array .byte)) (by decide)
  have F899_coder : Fld Z h899 b899 "java/lang/String" "coder" "B" (.int (0 : Int32)) := D899 (Or.inr (tw hw 18 rfl)) (ty := .byte) (by decide)
  try dsimp only [mkF]
  refine og (fun _ k => XS.dup X899.here hx rfl (hb hby at_415) rfl rfl k) ?_
  refine og (fun _ k => XS.iconst X899.here hx rfl (hb hby at_416) k) ?_
  obtain ⟨T901, h901, k901, X901, e901, E901, A901, st901⟩ := newP X899 hx hZ (tw hw 4 rfl) e899 (g := (mkF m 417 #[.val (.int p1), .val (.int p2), .val (.int p3), .val (.int p4), .val (.int (3 : Int32)), .val (.int c0), .val (.int c1), .val (.int c2), .unset, .unset, .unset] [(.int (3 : Int32)), (.ref b899), (.ref b899)])) rfl (hb hby at_417) rfl (by decide) (cap := 3) (by decide) (by decide) (by decide) (by decide)
  obtain ⟨b901, g901⟩ : ∃ z, z = h899.size := ⟨_, rfl⟩
  rw [← g901] at A901 st901
  refine own_go st901 ?_
  have C902 := C900.trans (CHr.ext E901 C900.1)
  have V901 : Arv Z h901 b901 k901 .char (3 : Int32) [(.int (0 : Int32)), (.int (0 : Int32)), (.int (0 : Int32))] (.int (0 : Int32)) := (Arv.new A901 (by decide)).pad (pad_rep [] (.int (0 : Int32)) 3)
  refine og (fun _ k => XS.dup X901.here hx rfl (hb hby at_419) rfl rfl k) ?_
  refine og (fun _ k => XS.iconst X901.here hx rfl (hb hby at_420) k) ?_
  try dsimp only [mkF]
  refine og (fun _ k => XS.iload X901.here hx rfl (hb hby at_421) rfl k) ?_
  obtain ⟨c903, A903, q903, S903, M903, Hs903, Gs903⟩ := id V901
  obtain ⟨T904, h904, X904, e904, W904, st904⟩ := stC X901 hx hZ e901 A903 (j := (0 : Int32)) (inb_of S903 ⟨by decide, by decide⟩) (g := (mkF m 423 #[.val (.int p1), .val (.int p2), .val (.int p3), .val (.int p4), .val (.int (3 : Int32)), .val (.int c0), .val (.int c1), .val (.int c2), .unset, .unset, .unset] [(.int c0), (.int (0 : Int32)), (.ref b901), (.ref b901), (.ref b899), (.ref b899)])) rfl rfl (hb hby at_423)
  refine own_go st904 ?_
  have N904 := Fr.snoc X904 N0 (Nat.le_trans Z0 (Nat.le_trans E899.1 (Nat.le_of_eq g901.symm)))
  have f905 := (Safe.ext E901 C900.1 (Safe.new (Nat.le_of_eq g901.symm)))
  have C906 := C902.trans (CHr.wr W904 f905 C902.1)
  have V904 : Arv Z h904 b901 k901 .char (3 : Int32) [(.int (nar .char c0)), (.int (0 : Int32)), (.int (0 : Int32))] (.int (0 : Int32)) := Arv.set A903 q903 S903 M903 Hs903 Gs903 (fits_nar_char _) W904 0 rfl (Nat.le_of_ble_eq_true rfl)
  have V904q : Arv Z h904 b901 k901 .char (3 : Int32) [(.int c0), (.int (0 : Int32)), (.int (0 : Int32))] (.int (0 : Int32)) := by rw [show nar .char c0 = c0 from (own_nc b_c0.1 b_c0.2)] at V904; exact V904
  refine og (fun _ k => XS.dup X904.here hx rfl (hb hby at_424) rfl rfl k) ?_
  refine og (fun _ k => XS.iconst X904.here hx rfl (hb hby at_425) k) ?_
  refine og (fun _ k => XS.iload X904.here hx rfl (hb hby at_426) rfl k) ?_
  try dsimp only [mkF]
  obtain ⟨c907, A907, q907, S907, M907, Hs907, Gs907⟩ := id V904q
  obtain ⟨T908, h908, X908, e908, W908, st908⟩ := stC X904 hx hZ e904 A907 (j := (1 : Int32)) (inb_of S907 ⟨by decide, by decide⟩) (g := (mkF m 428 #[.val (.int p1), .val (.int p2), .val (.int p3), .val (.int p4), .val (.int (3 : Int32)), .val (.int c0), .val (.int c1), .val (.int c2), .unset, .unset, .unset] [(.int c1), (.int (1 : Int32)), (.ref b901), (.ref b901), (.ref b899), (.ref b899)])) rfl rfl (hb hby at_428)
  refine own_go st908 ?_
  have N908 := Fr.snoc X908 N904 (Nat.le_trans Z0 (Nat.le_trans E899.1 (Nat.le_of_eq g901.symm)))
  have f909 := (Safe.wr W904 f905 C902.1 f905)
  have C910 := C906.trans (CHr.wr W908 f909 C906.1)
  have V908 : Arv Z h908 b901 k901 .char (3 : Int32) [(.int c0), (.int (nar .char c1)), (.int (0 : Int32))] (.int (0 : Int32)) := Arv.set A907 q907 S907 M907 Hs907 Gs907 (fits_nar_char _) W908 1 rfl (Nat.le_of_ble_eq_true rfl)
  have V908q : Arv Z h908 b901 k901 .char (3 : Int32) [(.int c0), (.int c1), (.int (0 : Int32))] (.int (0 : Int32)) := by rw [show nar .char c1 = c1 from (own_nc b_c1.1 b_c1.2)] at V908; exact V908
  refine og (fun _ k => XS.dup X908.here hx rfl (hb hby at_429) rfl rfl k) ?_
  refine og (fun _ k => XS.iconst X908.here hx rfl (hb hby at_430) k) ?_
  refine og (fun _ k => XS.iload X908.here hx rfl (hb hby at_431) rfl k) ?_
  obtain ⟨c911, A911, q911, S911, M911, Hs911, Gs911⟩ := id V908q
  obtain ⟨T912, h912, X912, e912, W912, st912⟩ := stC X908 hx hZ e908 A911 (j := (2 : Int32)) (inb_of S911 ⟨by decide, by decide⟩) (g := (mkF m 433 #[.val (.int p1), .val (.int p2), .val (.int p3), .val (.int p4), .val (.int (3 : Int32)), .val (.int c0), .val (.int c1), .val (.int c2), .unset, .unset, .unset] [(.int c2), (.int (2 : Int32)), (.ref b901), (.ref b901), (.ref b899), (.ref b899)])) rfl rfl (hb hby at_433)
  refine own_go st912 ?_
  have N912 := Fr.snoc X912 N908 (Nat.le_trans Z0 (Nat.le_trans E899.1 (Nat.le_of_eq g901.symm)))
  obtain ⟨LL912, X912, N912⟩ := own_gl X912 N912
  have f913 := (Safe.wr W908 f909 C906.1 f909)
  have C914 := C910.trans (CHr.wr W912 f913 C910.1)
  have V912 : Arv Z h912 b901 k901 .char (3 : Int32) [(.int c0), (.int c1), (.int (nar .char c2))] (.int (0 : Int32)) := Arv.set A911 q911 S911 M911 Hs911 Gs911 (fits_nar_char _) W912 2 rfl (Nat.le_of_ble_eq_true rfl)
  have V912q : Arv Z h912 b901 k901 .char (3 : Int32) [(.int c0), (.int c1), (.int c2)] (.int (0 : Int32)) := by rw [show nar .char c2 = c2 from (own_nc b_c2.1 b_c2.2)] at V912; exact V912
  try dsimp only [mkF]
  have f915 := ((((A899.ext E901).wr W904).wr W908).wr W912)
  have ne916 : b899 ≠ b901 := Nat.ne_of_lt (Nat.lt_of_lt_of_le A899.lt (Nat.le_of_eq g901.symm))
  have f917 := ((((F899_value.ext E901).other W904 (Or.inl ne916)).other W908 (Or.inl ne916)).other W912 (Or.inl ne916))
  have f918 := ((((F899_coder.ext E901).other W904 (Or.inl ne916)).other W908 (Or.inl ne916)).other W912 (Or.inl ne916))
  have f919 := ((((O1.ext E899).ext E901).wr W904 (Nat.le_trans Z0 (Nat.le_trans E899.1 (Nat.le_of_eq g901.symm)))).wr W908 (Nat.le_trans Z0 (Nat.le_trans E899.1 (Nat.le_of_eq g901.symm))))
  have f920 := (f919.wr W912 (Nat.le_trans Z0 (Nat.le_trans E899.1 (Nat.le_of_eq g901.symm))))
  obtain ⟨v921, _, ⟨T921, L921, k921, n921⟩, -, X921, ⟨Lc921, hQ921, l921, y921, z921⟩, st921⟩ := X912.specialBack hx (y := (⟨"java/lang/String", "<init>", "([C)V"⟩ : MethodName)) rfl hown (mvT hZ (tw hw 5 rfl)) (mvT hZ (tw hw 6 rfl)) (mvT hZ (tw hw 7 rfl)) (by decide) (backOf (W := 1) (rm_i1 l Z a0 hw [] b899 b901 k901 (.int (0 : Int32)) ([c0, c1, c2] : List Int32) G1 h912 n0 f920 f915 f917 f918 (Nat.le_trans Z0 (Nat.le_of_eq g899.symm)) OA OH OL O2 P5 (own_okL3 b_c0 b_c1 b_c2) V912q (Nat.le_of_ble_eq_true rfl) (Nat.le_of_ble_eq_true rfl)) hZ (tw hw 7 rfl) (tw hw 3 rfl) (by decide) (by decide)) (g := (mkF m 434 #[.val (.int p1), .val (.int p2), .val (.int p3), .val (.int p4), .val (.int (3 : Int32)), .val (.int c0), .val (.int c1), .val (.int c2), .unset, .unset, .unset] [(.ref b901), (.ref b899), (.ref b899)])) rfl (by rw [hml]; rfl) (Steps.refl _) (a := b899) (argsL := [(.ref b901)]) (rest := [(.ref b899)]) (lenOf pd_31 rfl) rfl (by show 2 * 0 + _ ≤ _; exact Nat.le_of_eq rfl) (hb hby at_434) (fun _ _ => ⟨rfl, e912, (by decide : 2 + 2 ≤ _), (by decide : 7 + 86 ≤ _)⟩)
  dsimp only [Pt.U, Pt.locs, Pt.cells, Pt.slots] at X921 l921 y921 z921 st921 hQ921
  subst l921 y921 z921
  refine own_gos st921 ?_
  obtain ⟨t921, kt921, cd921, N2921, vs921, rfl, Nq921, K921, Fv921, Fc921, Vt921, hC921⟩ := hQ921
  have f922 := (Safe.wr W908 f909 C906.1 (Safe.wr W904 f905 C902.1 (Safe.ext E901 C900.1 (Safe.ext E899 C0.1 (Safe.new (Nat.le_of_eq g899.symm))))))
  have f923 := (Safe.wr W912 f913 C910.1 f922)
  have C924 := C914.trans (CHr.keep K921 (sfS f923 sf0) C914.1)
  have N921 := Fr.app N912 Nq921
  refine og (fun _ k => XS.astore X921.here hx rfl (hb hby at_437) rfl rfl (l' := #[.val (.int p1), .val (.int p2), .val (.int p3), .val (.int p4), .val (.int (3 : Int32)), .val (.int c0), .val (.int c1), .val (.int c2), .val (.ref b899), .unset, .unset]) rfl k) ?_
  obtain ⟨T925, h925, X925, e925, E925, A925, D925, U925, st925⟩ := newO X921 hx hZ hown (tw hw 1 rfl) (tw hw 2 rfl) (tw hw 3 rfl) (rfl : T921.heap = T921.heap) (g := (mkF m 439 #[.val (.int p1), .val (.int p2), .val (.int p3), .val (.int p4), .val (.int (3 : Int32)), .val (.int c0), .val (.int c1), .val (.int c2), .val (.ref b899), .unset, .unset] [])) rfl (hb hby at_439) (by decide) (by decide)
  obtain ⟨b925, g925⟩ : ∃ z, z = T921.heap.size := ⟨_, rfl⟩
  rw [← g925] at A925 D925 U925 st925
  refine own_go st925 ?_
  have C926 := C924.trans (CHr.ext E925 C924.1)
  have F925_value : Fld Z h925 b925 "java/lang/String" "value" "[B" .null := D925 (Or.inr (tw hw 17 rfl)) (ty := (.array .byte)) (by decide)
  have F925_coder : Fld Z h925 b925 "java/lang/String" "coder" "B" (.int (0 : Int32)) := D925 (Or.inr (tw hw 18 rfl)) (ty := .byte) (by decide)
  refine og (fun _ k => XS.dup X925.here hx rfl (hb hby at_442) rfl rfl k) ?_
  refine og (fun _ k => XS.bipush X925.here hx rfl (hb hby at_443) k) ?_
  try dsimp only [mkF]
  obtain ⟨T927, h927, k927, X927, e927, E927, A927, st927⟩ := newP X925 hx hZ (tw hw 4 rfl) e925 (g := (mkF m 445 #[.val (.int p1), .val (.int p2), .val (.int p3), .val (.int p4), .val (.int (3 : Int32)), .val (.int c0), .val (.int c1), .val (.int c2), .val (.ref b899), .unset, .unset] [(.int (18 : Int32)), (.ref b925), (.ref b925)])) rfl (hb hby at_445) rfl (by decide) (cap := 18) (by decide) (by decide) (by decide) (by decide)
  obtain ⟨b927, g927⟩ : ∃ z, z = h925.size := ⟨_, rfl⟩
  rw [← g927] at A927 st927
  refine own_go st927 ?_
  have C928 := C926.trans (CHr.ext E927 C926.1)
  have V927 : Arv Z h927 b927 k927 .char (18 : Int32) [(.int (0 : Int32)), (.int (0 : Int32)), (.int (0 : Int32)), (.int (0 : Int32)), (.int (0 : Int32)), (.int (0 : Int32)), (.int (0 : Int32)), (.int (0 : Int32)), (.int (0 : Int32)), (.int (0 : Int32)), (.int (0 : Int32)), (.int (0 : Int32)), (.int (0 : Int32)), (.int (0 : Int32)), (.int (0 : Int32)), (.int (0 : Int32)), (.int (0 : Int32)), (.int (0 : Int32))] (.int (0 : Int32)) := (Arv.new A927 (by decide)).pad (pad_rep [] (.int (0 : Int32)) 18)
  refine og (fun _ k => XS.dup X927.here hx rfl (hb hby at_447) rfl rfl k) ?_
  refine og (fun _ k => XS.iconst X927.here hx rfl (hb hby at_448) k) ?_
  refine og (fun _ k => XS.bipush X927.here hx rfl (hb hby at_449) k) ?_
  obtain ⟨c929, A929, q929, S929, M929, Hs929, Gs929⟩ := id V927
  obtain ⟨T930, h930, X930, e930, W930, st930⟩ := stC X927 hx hZ e927 A929 (j := (0 : Int32)) (inb_of S929 ⟨by decide, by decide⟩) (g := (mkF m 451 #[.val (.int p1), .val (.int p2), .val (.int p3), .val (.int p4), .val (.int (3 : Int32)), .val (.int c0), .val (.int c1), .val (.int c2), .val (.ref b899), .unset, .unset] [(.int (109 : Int32)), (.int (0 : Int32)), (.ref b927), (.ref b927), (.ref b925), (.ref b925)])) rfl rfl (hb hby at_451)
  have z931 := (Nat.le_trans (Nat.le_trans (Nat.le_trans (Nat.le_trans E899.1 E901.1) (Keep.of_wr W904).1) (Keep.of_wr W908).1) (Keep.of_wr W912).1)
  have z932 := (Nat.le_trans (Nat.le_trans z931 K921.1) E925.1)
  refine own_go st930 ?_
  have N930 := Fr.snoc X930 N921 (Nat.le_trans Z0 (Nat.le_trans z932 (Nat.le_of_eq g927.symm)))
  have f933 := (Safe.ext E927 C926.1 (Safe.new (Nat.le_of_eq g927.symm)))
  have C934 := C928.trans (CHr.wr W930 f933 C928.1)
  have V930 : Arv Z h930 b927 k927 .char (18 : Int32) [(.int (109 : Int32)), (.int (0 : Int32)), (.int (0 : Int32)), (.int (0 : Int32)), (.int (0 : Int32)), (.int (0 : Int32)), (.int (0 : Int32)), (.int (0 : Int32)), (.int (0 : Int32)), (.int (0 : Int32)), (.int (0 : Int32)), (.int (0 : Int32)), (.int (0 : Int32)), (.int (0 : Int32)), (.int (0 : Int32)), (.int (0 : Int32)), (.int (0 : Int32)), (.int (0 : Int32))] (.int (0 : Int32)) := Arv.set A929 q929 S929 M929 Hs929 Gs929 (fits_nar_char _) W930 0 rfl (Nat.le_of_ble_eq_true rfl)
  try dsimp only [mkF]
  refine og (fun _ k => XS.dup X930.here hx rfl (hb hby at_452) rfl rfl k) ?_
  refine og (fun _ k => XS.iconst X930.here hx rfl (hb hby at_453) k) ?_
  refine og (fun _ k => XS.bipush X930.here hx rfl (hb hby at_454) k) ?_
  obtain ⟨c935, A935, q935, S935, M935, Hs935, Gs935⟩ := id V930
  obtain ⟨T936, h936, X936, e936, W936, st936⟩ := stC X930 hx hZ e930 A935 (j := (1 : Int32)) (inb_of S935 ⟨by decide, by decide⟩) (g := (mkF m 456 #[.val (.int p1), .val (.int p2), .val (.int p3), .val (.int p4), .val (.int (3 : Int32)), .val (.int c0), .val (.int c1), .val (.int c2), .val (.ref b899), .unset, .unset] [(.int (105 : Int32)), (.int (1 : Int32)), (.ref b927), (.ref b927), (.ref b925), (.ref b925)])) rfl rfl (hb hby at_456)
  refine own_go st936 ?_
  have N936 := Fr.snoc X936 N930 (Nat.le_trans Z0 (Nat.le_trans z932 (Nat.le_of_eq g927.symm)))
  have f937 := (Safe.wr W930 f933 C928.1 f933)
  have C938 := C934.trans (CHr.wr W936 f937 C934.1)
  have V936 : Arv Z h936 b927 k927 .char (18 : Int32) [(.int (109 : Int32)), (.int (105 : Int32)), (.int (0 : Int32)), (.int (0 : Int32)), (.int (0 : Int32)), (.int (0 : Int32)), (.int (0 : Int32)), (.int (0 : Int32)), (.int (0 : Int32)), (.int (0 : Int32)), (.int (0 : Int32)), (.int (0 : Int32)), (.int (0 : Int32)), (.int (0 : Int32)), (.int (0 : Int32)), (.int (0 : Int32)), (.int (0 : Int32)), (.int (0 : Int32))] (.int (0 : Int32)) := Arv.set A935 q935 S935 M935 Hs935 Gs935 (fits_nar_char _) W936 1 rfl (Nat.le_of_ble_eq_true rfl)
  refine og (fun _ k => XS.dup X936.here hx rfl (hb hby at_457) rfl rfl k) ?_
  try dsimp only [mkF]
  refine og (fun _ k => XS.iconst X936.here hx rfl (hb hby at_458) k) ?_
  refine og (fun _ k => XS.bipush X936.here hx rfl (hb hby at_459) k) ?_
  obtain ⟨c939, A939, q939, S939, M939, Hs939, Gs939⟩ := id V936
  obtain ⟨T940, h940, X940, e940, W940, st940⟩ := stC X936 hx hZ e936 A939 (j := (2 : Int32)) (inb_of S939 ⟨by decide, by decide⟩) (g := (mkF m 461 #[.val (.int p1), .val (.int p2), .val (.int p3), .val (.int p4), .val (.int (3 : Int32)), .val (.int c0), .val (.int c1), .val (.int c2), .val (.ref b899), .unset, .unset] [(.int (115 : Int32)), (.int (2 : Int32)), (.ref b927), (.ref b927), (.ref b925), (.ref b925)])) rfl rfl (hb hby at_461)
  refine own_go st940 ?_
  have N940 := Fr.snoc X940 N936 (Nat.le_trans Z0 (Nat.le_trans z932 (Nat.le_of_eq g927.symm)))
  obtain ⟨LL940, X940, N940⟩ := own_gl X940 N940
  have f941 := (Safe.wr W936 f937 C934.1 f937)
  have C942 := C938.trans (CHr.wr W940 f941 C938.1)
  have V940 : Arv Z h940 b927 k927 .char (18 : Int32) [(.int (109 : Int32)), (.int (105 : Int32)), (.int (115 : Int32)), (.int (0 : Int32)), (.int (0 : Int32)), (.int (0 : Int32)), (.int (0 : Int32)), (.int (0 : Int32)), (.int (0 : Int32)), (.int (0 : Int32)), (.int (0 : Int32)), (.int (0 : Int32)), (.int (0 : Int32)), (.int (0 : Int32)), (.int (0 : Int32)), (.int (0 : Int32)), (.int (0 : Int32)), (.int (0 : Int32))] (.int (0 : Int32)) := Arv.set A939 q939 S939 M939 Hs939 Gs939 (fits_nar_char _) W940 2 rfl (Nat.le_of_ble_eq_true rfl)
  refine og (fun _ k => XS.dup X940.here hx rfl (hb hby at_462) rfl rfl k) ?_
  refine og (fun _ k => XS.iconst X940.here hx rfl (hb hby at_463) k) ?_
  try dsimp only [mkF]
  refine og (fun _ k => XS.bipush X940.here hx rfl (hb hby at_464) k) ?_
  obtain ⟨c943, A943, q943, S943, M943, Hs943, Gs943⟩ := id V940
  obtain ⟨T944, h944, X944, e944, W944, st944⟩ := stC X940 hx hZ e940 A943 (j := (3 : Int32)) (inb_of S943 ⟨by decide, by decide⟩) (g := (mkF m 466 #[.val (.int p1), .val (.int p2), .val (.int p3), .val (.int p4), .val (.int (3 : Int32)), .val (.int c0), .val (.int c1), .val (.int c2), .val (.ref b899), .unset, .unset] [(.int (115 : Int32)), (.int (3 : Int32)), (.ref b927), (.ref b927), (.ref b925), (.ref b925)])) rfl rfl (hb hby at_466)
  refine own_go st944 ?_
  have N944 := Fr.snoc X944 N940 (Nat.le_trans Z0 (Nat.le_trans z932 (Nat.le_of_eq g927.symm)))
  have f945 := (Safe.wr W940 f941 C938.1 f941)
  have C946 := C942.trans (CHr.wr W944 f945 C942.1)
  have V944 : Arv Z h944 b927 k927 .char (18 : Int32) [(.int (109 : Int32)), (.int (105 : Int32)), (.int (115 : Int32)), (.int (115 : Int32)), (.int (0 : Int32)), (.int (0 : Int32)), (.int (0 : Int32)), (.int (0 : Int32)), (.int (0 : Int32)), (.int (0 : Int32)), (.int (0 : Int32)), (.int (0 : Int32)), (.int (0 : Int32)), (.int (0 : Int32)), (.int (0 : Int32)), (.int (0 : Int32)), (.int (0 : Int32)), (.int (0 : Int32))] (.int (0 : Int32)) := Arv.set A943 q943 S943 M943 Hs943 Gs943 (fits_nar_char _) W944 3 rfl (Nat.le_of_ble_eq_true rfl)
  refine og (fun _ k => XS.dup X944.here hx rfl (hb hby at_467) rfl rfl k) ?_
  refine og (fun _ k => XS.iconst X944.here hx rfl (hb hby at_468) k) ?_
  refine og (fun _ k => XS.bipush X944.here hx rfl (hb hby at_469) k) ?_
  try dsimp only [mkF]
  obtain ⟨c947, A947, q947, S947, M947, Hs947, Gs947⟩ := id V944
  obtain ⟨T948, h948, X948, e948, W948, st948⟩ := stC X944 hx hZ e944 A947 (j := (4 : Int32)) (inb_of S947 ⟨by decide, by decide⟩) (g := (mkF m 471 #[.val (.int p1), .val (.int p2), .val (.int p3), .val (.int p4), .val (.int (3 : Int32)), .val (.int c0), .val (.int c1), .val (.int c2), .val (.ref b899), .unset, .unset] [(.int (105 : Int32)), (.int (4 : Int32)), (.ref b927), (.ref b927), (.ref b925), (.ref b925)])) rfl rfl (hb hby at_471)
  refine own_go st948 ?_
  have N948 := Fr.snoc X948 N944 (Nat.le_trans Z0 (Nat.le_trans z932 (Nat.le_of_eq g927.symm)))
  have f949 := (Safe.wr W944 f945 C942.1 f945)
  have C950 := C946.trans (CHr.wr W948 f949 C946.1)
  have V948 : Arv Z h948 b927 k927 .char (18 : Int32) [(.int (109 : Int32)), (.int (105 : Int32)), (.int (115 : Int32)), (.int (115 : Int32)), (.int (105 : Int32)), (.int (0 : Int32)), (.int (0 : Int32)), (.int (0 : Int32)), (.int (0 : Int32)), (.int (0 : Int32)), (.int (0 : Int32)), (.int (0 : Int32)), (.int (0 : Int32)), (.int (0 : Int32)), (.int (0 : Int32)), (.int (0 : Int32)), (.int (0 : Int32)), (.int (0 : Int32))] (.int (0 : Int32)) := Arv.set A947 q947 S947 M947 Hs947 Gs947 (fits_nar_char _) W948 4 rfl (Nat.le_of_ble_eq_true rfl)
  refine og (fun _ k => XS.dup X948.here hx rfl (hb hby at_472) rfl rfl k) ?_
  refine og (fun _ k => XS.iconst X948.here hx rfl (hb hby at_473) k) ?_
  refine og (fun _ k => XS.bipush X948.here hx rfl (hb hby at_474) k) ?_
  obtain ⟨c951, A951, q951, S951, M951, Hs951, Gs951⟩ := id V948
  obtain ⟨T952, h952, X952, e952, W952, st952⟩ := stC X948 hx hZ e948 A951 (j := (5 : Int32)) (inb_of S951 ⟨by decide, by decide⟩) (g := (mkF m 476 #[.val (.int p1), .val (.int p2), .val (.int p3), .val (.int p4), .val (.int (3 : Int32)), .val (.int c0), .val (.int c1), .val (.int c2), .val (.ref b899), .unset, .unset] [(.int (110 : Int32)), (.int (5 : Int32)), (.ref b927), (.ref b927), (.ref b925), (.ref b925)])) rfl rfl (hb hby at_476)
  refine own_go st952 ?_
  have N952 := Fr.snoc X952 N948 (Nat.le_trans Z0 (Nat.le_trans z932 (Nat.le_of_eq g927.symm)))
  obtain ⟨LL952, X952, N952⟩ := own_gl X952 N952
  have f953 := (Safe.wr W948 f949 C946.1 f949)
  have C954 := C950.trans (CHr.wr W952 f953 C950.1)
  have V952 : Arv Z h952 b927 k927 .char (18 : Int32) [(.int (109 : Int32)), (.int (105 : Int32)), (.int (115 : Int32)), (.int (115 : Int32)), (.int (105 : Int32)), (.int (110 : Int32)), (.int (0 : Int32)), (.int (0 : Int32)), (.int (0 : Int32)), (.int (0 : Int32)), (.int (0 : Int32)), (.int (0 : Int32)), (.int (0 : Int32)), (.int (0 : Int32)), (.int (0 : Int32)), (.int (0 : Int32)), (.int (0 : Int32)), (.int (0 : Int32))] (.int (0 : Int32)) := Arv.set A951 q951 S951 M951 Hs951 Gs951 (fits_nar_char _) W952 5 rfl (Nat.le_of_ble_eq_true rfl)
  try dsimp only [mkF]
  refine og (fun _ k => XS.dup X952.here hx rfl (hb hby at_477) rfl rfl k) ?_
  refine og (fun _ k => XS.bipush X952.here hx rfl (hb hby at_478) k) ?_
  refine og (fun _ k => XS.bipush X952.here hx rfl (hb hby at_480) k) ?_
  obtain ⟨c955, A955, q955, S955, M955, Hs955, Gs955⟩ := id V952
  obtain ⟨T956, h956, X956, e956, W956, st956⟩ := stC X952 hx hZ e952 A955 (j := (6 : Int32)) (inb_of S955 ⟨by decide, by decide⟩) (g := (mkF m 482 #[.val (.int p1), .val (.int p2), .val (.int p3), .val (.int p4), .val (.int (3 : Int32)), .val (.int c0), .val (.int c1), .val (.int c2), .val (.ref b899), .unset, .unset] [(.int (103 : Int32)), (.int (6 : Int32)), (.ref b927), (.ref b927), (.ref b925), (.ref b925)])) rfl rfl (hb hby at_482)
  refine own_go st956 ?_
  have N956 := Fr.snoc X956 N952 (Nat.le_trans Z0 (Nat.le_trans z932 (Nat.le_of_eq g927.symm)))
  have f957 := (Safe.wr W952 f953 C950.1 f953)
  have C958 := C954.trans (CHr.wr W956 f957 C954.1)
  have V956 : Arv Z h956 b927 k927 .char (18 : Int32) [(.int (109 : Int32)), (.int (105 : Int32)), (.int (115 : Int32)), (.int (115 : Int32)), (.int (105 : Int32)), (.int (110 : Int32)), (.int (103 : Int32)), (.int (0 : Int32)), (.int (0 : Int32)), (.int (0 : Int32)), (.int (0 : Int32)), (.int (0 : Int32)), (.int (0 : Int32)), (.int (0 : Int32)), (.int (0 : Int32)), (.int (0 : Int32)), (.int (0 : Int32)), (.int (0 : Int32))] (.int (0 : Int32)) := Arv.set A955 q955 S955 M955 Hs955 Gs955 (fits_nar_char _) W956 6 rfl (Nat.le_of_ble_eq_true rfl)
  refine og (fun _ k => XS.dup X956.here hx rfl (hb hby at_483) rfl rfl k) ?_
  try dsimp only [mkF]
  refine og (fun _ k => XS.bipush X956.here hx rfl (hb hby at_484) k) ?_
  refine og (fun _ k => XS.bipush X956.here hx rfl (hb hby at_486) k) ?_
  obtain ⟨c959, A959, q959, S959, M959, Hs959, Gs959⟩ := id V956
  obtain ⟨T960, h960, X960, e960, W960, st960⟩ := stC X956 hx hZ e956 A959 (j := (7 : Int32)) (inb_of S959 ⟨by decide, by decide⟩) (g := (mkF m 488 #[.val (.int p1), .val (.int p2), .val (.int p3), .val (.int p4), .val (.int (3 : Int32)), .val (.int c0), .val (.int c1), .val (.int c2), .val (.ref b899), .unset, .unset] [(.int (32 : Int32)), (.int (7 : Int32)), (.ref b927), (.ref b927), (.ref b925), (.ref b925)])) rfl rfl (hb hby at_488)
  refine own_go st960 ?_
  have N960 := Fr.snoc X960 N956 (Nat.le_trans Z0 (Nat.le_trans z932 (Nat.le_of_eq g927.symm)))
  have f961 := (Safe.wr W956 f957 C954.1 f957)
  have C962 := C958.trans (CHr.wr W960 f961 C958.1)
  have V960 : Arv Z h960 b927 k927 .char (18 : Int32) [(.int (109 : Int32)), (.int (105 : Int32)), (.int (115 : Int32)), (.int (115 : Int32)), (.int (105 : Int32)), (.int (110 : Int32)), (.int (103 : Int32)), (.int (32 : Int32)), (.int (0 : Int32)), (.int (0 : Int32)), (.int (0 : Int32)), (.int (0 : Int32)), (.int (0 : Int32)), (.int (0 : Int32)), (.int (0 : Int32)), (.int (0 : Int32)), (.int (0 : Int32)), (.int (0 : Int32))] (.int (0 : Int32)) := Arv.set A959 q959 S959 M959 Hs959 Gs959 (fits_nar_char _) W960 7 rfl (Nat.le_of_ble_eq_true rfl)
  refine og (fun _ k => XS.dup X960.here hx rfl (hb hby at_489) rfl rfl k) ?_
  refine og (fun _ k => XS.bipush X960.here hx rfl (hb hby at_490) k) ?_
  try dsimp only [mkF]
  refine og (fun _ k => XS.bipush X960.here hx rfl (hb hby at_492) k) ?_
  obtain ⟨c963, A963, q963, S963, M963, Hs963, Gs963⟩ := id V960
  obtain ⟨T964, h964, X964, e964, W964, st964⟩ := stC X960 hx hZ e960 A963 (j := (8 : Int32)) (inb_of S963 ⟨by decide, by decide⟩) (g := (mkF m 494 #[.val (.int p1), .val (.int p2), .val (.int p3), .val (.int p4), .val (.int (3 : Int32)), .val (.int c0), .val (.int c1), .val (.int c2), .val (.ref b899), .unset, .unset] [(.int (111 : Int32)), (.int (8 : Int32)), (.ref b927), (.ref b927), (.ref b925), (.ref b925)])) rfl rfl (hb hby at_494)
  refine own_go st964 ?_
  have N964 := Fr.snoc X964 N960 (Nat.le_trans Z0 (Nat.le_trans z932 (Nat.le_of_eq g927.symm)))
  obtain ⟨LL964, X964, N964⟩ := own_gl X964 N964
  have f965 := (Safe.wr W960 f961 C958.1 f961)
  have C966 := C962.trans (CHr.wr W964 f965 C962.1)
  have V964 : Arv Z h964 b927 k927 .char (18 : Int32) [(.int (109 : Int32)), (.int (105 : Int32)), (.int (115 : Int32)), (.int (115 : Int32)), (.int (105 : Int32)), (.int (110 : Int32)), (.int (103 : Int32)), (.int (32 : Int32)), (.int (111 : Int32)), (.int (0 : Int32)), (.int (0 : Int32)), (.int (0 : Int32)), (.int (0 : Int32)), (.int (0 : Int32)), (.int (0 : Int32)), (.int (0 : Int32)), (.int (0 : Int32)), (.int (0 : Int32))] (.int (0 : Int32)) := Arv.set A963 q963 S963 M963 Hs963 Gs963 (fits_nar_char _) W964 8 rfl (Nat.le_of_ble_eq_true rfl)
  refine og (fun _ k => XS.dup X964.here hx rfl (hb hby at_495) rfl rfl k) ?_
  refine og (fun _ k => XS.bipush X964.here hx rfl (hb hby at_496) k) ?_
  refine og (fun _ k => XS.bipush X964.here hx rfl (hb hby at_498) k) ?_
  try dsimp only [mkF]
  obtain ⟨c967, A967, q967, S967, M967, Hs967, Gs967⟩ := id V964
  obtain ⟨T968, h968, X968, e968, W968, st968⟩ := stC X964 hx hZ e964 A967 (j := (9 : Int32)) (inb_of S967 ⟨by decide, by decide⟩) (g := (mkF m 500 #[.val (.int p1), .val (.int p2), .val (.int p3), .val (.int p4), .val (.int (3 : Int32)), .val (.int c0), .val (.int c1), .val (.int c2), .val (.ref b899), .unset, .unset] [(.int (112 : Int32)), (.int (9 : Int32)), (.ref b927), (.ref b927), (.ref b925), (.ref b925)])) rfl rfl (hb hby at_500)
  refine own_go st968 ?_
  have N968 := Fr.snoc X968 N964 (Nat.le_trans Z0 (Nat.le_trans z932 (Nat.le_of_eq g927.symm)))
  have f969 := (Safe.wr W964 f965 C962.1 f965)
  have C970 := C966.trans (CHr.wr W968 f969 C966.1)
  have V968 : Arv Z h968 b927 k927 .char (18 : Int32) [(.int (109 : Int32)), (.int (105 : Int32)), (.int (115 : Int32)), (.int (115 : Int32)), (.int (105 : Int32)), (.int (110 : Int32)), (.int (103 : Int32)), (.int (32 : Int32)), (.int (111 : Int32)), (.int (112 : Int32)), (.int (0 : Int32)), (.int (0 : Int32)), (.int (0 : Int32)), (.int (0 : Int32)), (.int (0 : Int32)), (.int (0 : Int32)), (.int (0 : Int32)), (.int (0 : Int32))] (.int (0 : Int32)) := Arv.set A967 q967 S967 M967 Hs967 Gs967 (fits_nar_char _) W968 9 rfl (Nat.le_of_ble_eq_true rfl)
  refine og (fun _ k => XS.dup X968.here hx rfl (hb hby at_501) rfl rfl k) ?_
  refine og (fun _ k => XS.bipush X968.here hx rfl (hb hby at_502) k) ?_
  refine og (fun _ k => XS.bipush X968.here hx rfl (hb hby at_504) k) ?_
  obtain ⟨c971, A971, q971, S971, M971, Hs971, Gs971⟩ := id V968
  obtain ⟨T972, h972, X972, e972, W972, st972⟩ := stC X968 hx hZ e968 A971 (j := (10 : Int32)) (inb_of S971 ⟨by decide, by decide⟩) (g := (mkF m 506 #[.val (.int p1), .val (.int p2), .val (.int p3), .val (.int p4), .val (.int (3 : Int32)), .val (.int c0), .val (.int c1), .val (.int c2), .val (.ref b899), .unset, .unset] [(.int (116 : Int32)), (.int (10 : Int32)), (.ref b927), (.ref b927), (.ref b925), (.ref b925)])) rfl rfl (hb hby at_506)
  refine own_go st972 ?_
  have N972 := Fr.snoc X972 N968 (Nat.le_trans Z0 (Nat.le_trans z932 (Nat.le_of_eq g927.symm)))
  have f973 := (Safe.wr W968 f969 C966.1 f969)
  have C974 := C970.trans (CHr.wr W972 f973 C970.1)
  have V972 : Arv Z h972 b927 k927 .char (18 : Int32) [(.int (109 : Int32)), (.int (105 : Int32)), (.int (115 : Int32)), (.int (115 : Int32)), (.int (105 : Int32)), (.int (110 : Int32)), (.int (103 : Int32)), (.int (32 : Int32)), (.int (111 : Int32)), (.int (112 : Int32)), (.int (116 : Int32)), (.int (0 : Int32)), (.int (0 : Int32)), (.int (0 : Int32)), (.int (0 : Int32)), (.int (0 : Int32)), (.int (0 : Int32)), (.int (0 : Int32))] (.int (0 : Int32)) := Arv.set A971 q971 S971 M971 Hs971 Gs971 (fits_nar_char _) W972 10 rfl (Nat.le_of_ble_eq_true rfl)
  try dsimp only [mkF]
  refine og (fun _ k => XS.dup X972.here hx rfl (hb hby at_507) rfl rfl k) ?_
  refine og (fun _ k => XS.bipush X972.here hx rfl (hb hby at_508) k) ?_
  refine og (fun _ k => XS.bipush X972.here hx rfl (hb hby at_510) k) ?_
  obtain ⟨c975, A975, q975, S975, M975, Hs975, Gs975⟩ := id V972
  obtain ⟨T976, h976, X976, e976, W976, st976⟩ := stC X972 hx hZ e972 A975 (j := (11 : Int32)) (inb_of S975 ⟨by decide, by decide⟩) (g := (mkF m 512 #[.val (.int p1), .val (.int p2), .val (.int p3), .val (.int p4), .val (.int (3 : Int32)), .val (.int c0), .val (.int c1), .val (.int c2), .val (.ref b899), .unset, .unset] [(.int (105 : Int32)), (.int (11 : Int32)), (.ref b927), (.ref b927), (.ref b925), (.ref b925)])) rfl rfl (hb hby at_512)
  refine own_go st976 ?_
  have N976 := Fr.snoc X976 N972 (Nat.le_trans Z0 (Nat.le_trans z932 (Nat.le_of_eq g927.symm)))
  obtain ⟨LL976, X976, N976⟩ := own_gl X976 N976
  have f977 := (Safe.wr W972 f973 C970.1 f973)
  have C978 := C974.trans (CHr.wr W976 f977 C974.1)
  have V976 : Arv Z h976 b927 k927 .char (18 : Int32) [(.int (109 : Int32)), (.int (105 : Int32)), (.int (115 : Int32)), (.int (115 : Int32)), (.int (105 : Int32)), (.int (110 : Int32)), (.int (103 : Int32)), (.int (32 : Int32)), (.int (111 : Int32)), (.int (112 : Int32)), (.int (116 : Int32)), (.int (105 : Int32)), (.int (0 : Int32)), (.int (0 : Int32)), (.int (0 : Int32)), (.int (0 : Int32)), (.int (0 : Int32)), (.int (0 : Int32))] (.int (0 : Int32)) := Arv.set A975 q975 S975 M975 Hs975 Gs975 (fits_nar_char _) W976 11 rfl (Nat.le_of_ble_eq_true rfl)
  refine og (fun _ k => XS.dup X976.here hx rfl (hb hby at_513) rfl rfl k) ?_
  try dsimp only [mkF]
  refine og (fun _ k => XS.bipush X976.here hx rfl (hb hby at_514) k) ?_
  refine og (fun _ k => XS.bipush X976.here hx rfl (hb hby at_516) k) ?_
  obtain ⟨c979, A979, q979, S979, M979, Hs979, Gs979⟩ := id V976
  obtain ⟨T980, h980, X980, e980, W980, st980⟩ := stC X976 hx hZ e976 A979 (j := (12 : Int32)) (inb_of S979 ⟨by decide, by decide⟩) (g := (mkF m 518 #[.val (.int p1), .val (.int p2), .val (.int p3), .val (.int p4), .val (.int (3 : Int32)), .val (.int c0), .val (.int c1), .val (.int c2), .val (.ref b899), .unset, .unset] [(.int (111 : Int32)), (.int (12 : Int32)), (.ref b927), (.ref b927), (.ref b925), (.ref b925)])) rfl rfl (hb hby at_518)
  refine own_go st980 ?_
  have N980 := Fr.snoc X980 N976 (Nat.le_trans Z0 (Nat.le_trans z932 (Nat.le_of_eq g927.symm)))
  have f981 := (Safe.wr W976 f977 C974.1 f977)
  have C982 := C978.trans (CHr.wr W980 f981 C978.1)
  have V980 : Arv Z h980 b927 k927 .char (18 : Int32) [(.int (109 : Int32)), (.int (105 : Int32)), (.int (115 : Int32)), (.int (115 : Int32)), (.int (105 : Int32)), (.int (110 : Int32)), (.int (103 : Int32)), (.int (32 : Int32)), (.int (111 : Int32)), (.int (112 : Int32)), (.int (116 : Int32)), (.int (105 : Int32)), (.int (111 : Int32)), (.int (0 : Int32)), (.int (0 : Int32)), (.int (0 : Int32)), (.int (0 : Int32)), (.int (0 : Int32))] (.int (0 : Int32)) := Arv.set A979 q979 S979 M979 Hs979 Gs979 (fits_nar_char _) W980 12 rfl (Nat.le_of_ble_eq_true rfl)
  refine og (fun _ k => XS.dup X980.here hx rfl (hb hby at_519) rfl rfl k) ?_
  refine og (fun _ k => XS.bipush X980.here hx rfl (hb hby at_520) k) ?_
  try dsimp only [mkF]
  refine og (fun _ k => XS.bipush X980.here hx rfl (hb hby at_522) k) ?_
  obtain ⟨c983, A983, q983, S983, M983, Hs983, Gs983⟩ := id V980
  obtain ⟨T984, h984, X984, e984, W984, st984⟩ := stC X980 hx hZ e980 A983 (j := (13 : Int32)) (inb_of S983 ⟨by decide, by decide⟩) (g := (mkF m 524 #[.val (.int p1), .val (.int p2), .val (.int p3), .val (.int p4), .val (.int (3 : Int32)), .val (.int c0), .val (.int c1), .val (.int c2), .val (.ref b899), .unset, .unset] [(.int (110 : Int32)), (.int (13 : Int32)), (.ref b927), (.ref b927), (.ref b925), (.ref b925)])) rfl rfl (hb hby at_524)
  refine own_go st984 ?_
  have N984 := Fr.snoc X984 N980 (Nat.le_trans Z0 (Nat.le_trans z932 (Nat.le_of_eq g927.symm)))
  have f985 := (Safe.wr W980 f981 C978.1 f981)
  have C986 := C982.trans (CHr.wr W984 f985 C982.1)
  have V984 : Arv Z h984 b927 k927 .char (18 : Int32) [(.int (109 : Int32)), (.int (105 : Int32)), (.int (115 : Int32)), (.int (115 : Int32)), (.int (105 : Int32)), (.int (110 : Int32)), (.int (103 : Int32)), (.int (32 : Int32)), (.int (111 : Int32)), (.int (112 : Int32)), (.int (116 : Int32)), (.int (105 : Int32)), (.int (111 : Int32)), (.int (110 : Int32)), (.int (0 : Int32)), (.int (0 : Int32)), (.int (0 : Int32)), (.int (0 : Int32))] (.int (0 : Int32)) := Arv.set A983 q983 S983 M983 Hs983 Gs983 (fits_nar_char _) W984 13 rfl (Nat.le_of_ble_eq_true rfl)
  refine og (fun _ k => XS.dup X984.here hx rfl (hb hby at_525) rfl rfl k) ?_
  refine og (fun _ k => XS.bipush X984.here hx rfl (hb hby at_526) k) ?_
  refine og (fun _ k => XS.bipush X984.here hx rfl (hb hby at_528) k) ?_
  try dsimp only [mkF]
  obtain ⟨c987, A987, q987, S987, M987, Hs987, Gs987⟩ := id V984
  obtain ⟨T988, h988, X988, e988, W988, st988⟩ := stC X984 hx hZ e984 A987 (j := (14 : Int32)) (inb_of S987 ⟨by decide, by decide⟩) (g := (mkF m 530 #[.val (.int p1), .val (.int p2), .val (.int p3), .val (.int p4), .val (.int (3 : Int32)), .val (.int c0), .val (.int c1), .val (.int c2), .val (.ref b899), .unset, .unset] [(.int (32 : Int32)), (.int (14 : Int32)), (.ref b927), (.ref b927), (.ref b925), (.ref b925)])) rfl rfl (hb hby at_530)
  refine own_go st988 ?_
  have N988 := Fr.snoc X988 N984 (Nat.le_trans Z0 (Nat.le_trans z932 (Nat.le_of_eq g927.symm)))
  obtain ⟨LL988, X988, N988⟩ := own_gl X988 N988
  have f989 := (Safe.wr W984 f985 C982.1 f985)
  have C990 := C986.trans (CHr.wr W988 f989 C986.1)
  have V988 : Arv Z h988 b927 k927 .char (18 : Int32) [(.int (109 : Int32)), (.int (105 : Int32)), (.int (115 : Int32)), (.int (115 : Int32)), (.int (105 : Int32)), (.int (110 : Int32)), (.int (103 : Int32)), (.int (32 : Int32)), (.int (111 : Int32)), (.int (112 : Int32)), (.int (116 : Int32)), (.int (105 : Int32)), (.int (111 : Int32)), (.int (110 : Int32)), (.int (32 : Int32)), (.int (0 : Int32)), (.int (0 : Int32)), (.int (0 : Int32))] (.int (0 : Int32)) := Arv.set A987 q987 S987 M987 Hs987 Gs987 (fits_nar_char _) W988 14 rfl (Nat.le_of_ble_eq_true rfl)
  refine og (fun _ k => XS.dup X988.here hx rfl (hb hby at_531) rfl rfl k) ?_
  refine og (fun _ k => XS.bipush X988.here hx rfl (hb hby at_532) k) ?_
  refine og (fun _ k => XS.iload X988.here hx rfl (hb hby at_534) rfl k) ?_
  obtain ⟨c991, A991, q991, S991, M991, Hs991, Gs991⟩ := id V988
  obtain ⟨T992, h992, X992, e992, W992, st992⟩ := stC X988 hx hZ e988 A991 (j := (15 : Int32)) (inb_of S991 ⟨by decide, by decide⟩) (g := (mkF m 536 #[.val (.int p1), .val (.int p2), .val (.int p3), .val (.int p4), .val (.int (3 : Int32)), .val (.int c0), .val (.int c1), .val (.int c2), .val (.ref b899), .unset, .unset] [(.int c0), (.int (15 : Int32)), (.ref b927), (.ref b927), (.ref b925), (.ref b925)])) rfl rfl (hb hby at_536)
  refine own_go st992 ?_
  have N992 := Fr.snoc X992 N988 (Nat.le_trans Z0 (Nat.le_trans z932 (Nat.le_of_eq g927.symm)))
  have f993 := (Safe.wr W988 f989 C986.1 f989)
  have C994 := C990.trans (CHr.wr W992 f993 C990.1)
  have V992 : Arv Z h992 b927 k927 .char (18 : Int32) [(.int (109 : Int32)), (.int (105 : Int32)), (.int (115 : Int32)), (.int (115 : Int32)), (.int (105 : Int32)), (.int (110 : Int32)), (.int (103 : Int32)), (.int (32 : Int32)), (.int (111 : Int32)), (.int (112 : Int32)), (.int (116 : Int32)), (.int (105 : Int32)), (.int (111 : Int32)), (.int (110 : Int32)), (.int (32 : Int32)), (.int (nar .char c0)), (.int (0 : Int32)), (.int (0 : Int32))] (.int (0 : Int32)) := Arv.set A991 q991 S991 M991 Hs991 Gs991 (fits_nar_char _) W992 15 rfl (Nat.le_of_ble_eq_true rfl)
  have V992q : Arv Z h992 b927 k927 .char (18 : Int32) [(.int (109 : Int32)), (.int (105 : Int32)), (.int (115 : Int32)), (.int (115 : Int32)), (.int (105 : Int32)), (.int (110 : Int32)), (.int (103 : Int32)), (.int (32 : Int32)), (.int (111 : Int32)), (.int (112 : Int32)), (.int (116 : Int32)), (.int (105 : Int32)), (.int (111 : Int32)), (.int (110 : Int32)), (.int (32 : Int32)), (.int c0), (.int (0 : Int32)), (.int (0 : Int32))] (.int (0 : Int32)) := by rw [show nar .char c0 = c0 from (own_nc b_c0.1 b_c0.2)] at V992; exact V992
  try dsimp only [mkF]
  refine og (fun _ k => XS.dup X992.here hx rfl (hb hby at_537) rfl rfl k) ?_
  refine og (fun _ k => XS.bipush X992.here hx rfl (hb hby at_538) k) ?_
  refine og (fun _ k => XS.iload X992.here hx rfl (hb hby at_540) rfl k) ?_
  obtain ⟨c995, A995, q995, S995, M995, Hs995, Gs995⟩ := id V992q
  obtain ⟨T996, h996, X996, e996, W996, st996⟩ := stC X992 hx hZ e992 A995 (j := (16 : Int32)) (inb_of S995 ⟨by decide, by decide⟩) (g := (mkF m 542 #[.val (.int p1), .val (.int p2), .val (.int p3), .val (.int p4), .val (.int (3 : Int32)), .val (.int c0), .val (.int c1), .val (.int c2), .val (.ref b899), .unset, .unset] [(.int c1), (.int (16 : Int32)), (.ref b927), (.ref b927), (.ref b925), (.ref b925)])) rfl rfl (hb hby at_542)
  refine own_go st996 ?_
  have N996 := Fr.snoc X996 N992 (Nat.le_trans Z0 (Nat.le_trans z932 (Nat.le_of_eq g927.symm)))
  have f997 := (Safe.wr W992 f993 C990.1 f993)
  have C998 := C994.trans (CHr.wr W996 f997 C994.1)
  have V996 : Arv Z h996 b927 k927 .char (18 : Int32) [(.int (109 : Int32)), (.int (105 : Int32)), (.int (115 : Int32)), (.int (115 : Int32)), (.int (105 : Int32)), (.int (110 : Int32)), (.int (103 : Int32)), (.int (32 : Int32)), (.int (111 : Int32)), (.int (112 : Int32)), (.int (116 : Int32)), (.int (105 : Int32)), (.int (111 : Int32)), (.int (110 : Int32)), (.int (32 : Int32)), (.int c0), (.int (nar .char c1)), (.int (0 : Int32))] (.int (0 : Int32)) := Arv.set A995 q995 S995 M995 Hs995 Gs995 (fits_nar_char _) W996 16 rfl (Nat.le_of_ble_eq_true rfl)
  have V996q : Arv Z h996 b927 k927 .char (18 : Int32) [(.int (109 : Int32)), (.int (105 : Int32)), (.int (115 : Int32)), (.int (115 : Int32)), (.int (105 : Int32)), (.int (110 : Int32)), (.int (103 : Int32)), (.int (32 : Int32)), (.int (111 : Int32)), (.int (112 : Int32)), (.int (116 : Int32)), (.int (105 : Int32)), (.int (111 : Int32)), (.int (110 : Int32)), (.int (32 : Int32)), (.int c0), (.int c1), (.int (0 : Int32))] (.int (0 : Int32)) := by rw [show nar .char c1 = c1 from (own_nc b_c1.1 b_c1.2)] at V996; exact V996
  refine og (fun _ k => XS.dup X996.here hx rfl (hb hby at_543) rfl rfl k) ?_
  try dsimp only [mkF]
  refine og (fun _ k => XS.bipush X996.here hx rfl (hb hby at_544) k) ?_
  refine og (fun _ k => XS.iload X996.here hx rfl (hb hby at_546) rfl k) ?_
  obtain ⟨c999, A999, q999, S999, M999, Hs999, Gs999⟩ := id V996q
  obtain ⟨T1000, h1000, X1000, e1000, W1000, st1000⟩ := stC X996 hx hZ e996 A999 (j := (17 : Int32)) (inb_of S999 ⟨by decide, by decide⟩) (g := (mkF m 548 #[.val (.int p1), .val (.int p2), .val (.int p3), .val (.int p4), .val (.int (3 : Int32)), .val (.int c0), .val (.int c1), .val (.int c2), .val (.ref b899), .unset, .unset] [(.int c2), (.int (17 : Int32)), (.ref b927), (.ref b927), (.ref b925), (.ref b925)])) rfl rfl (hb hby at_548)
  refine own_go st1000 ?_
  have N1000 := Fr.snoc X1000 N996 (Nat.le_trans Z0 (Nat.le_trans z932 (Nat.le_of_eq g927.symm)))
  obtain ⟨LL1000, X1000, N1000⟩ := own_gl X1000 N1000
  have f1001 := (Safe.wr W996 f997 C994.1 f997)
  have C1002 := C998.trans (CHr.wr W1000 f1001 C998.1)
  have V1000 : Arv Z h1000 b927 k927 .char (18 : Int32) [(.int (109 : Int32)), (.int (105 : Int32)), (.int (115 : Int32)), (.int (115 : Int32)), (.int (105 : Int32)), (.int (110 : Int32)), (.int (103 : Int32)), (.int (32 : Int32)), (.int (111 : Int32)), (.int (112 : Int32)), (.int (116 : Int32)), (.int (105 : Int32)), (.int (111 : Int32)), (.int (110 : Int32)), (.int (32 : Int32)), (.int c0), (.int c1), (.int (nar .char c2))] (.int (0 : Int32)) := Arv.set A999 q999 S999 M999 Hs999 Gs999 (fits_nar_char _) W1000 17 rfl (Nat.le_of_ble_eq_true rfl)
  have V1000q : Arv Z h1000 b927 k927 .char (18 : Int32) [(.int (109 : Int32)), (.int (105 : Int32)), (.int (115 : Int32)), (.int (115 : Int32)), (.int (105 : Int32)), (.int (110 : Int32)), (.int (103 : Int32)), (.int (32 : Int32)), (.int (111 : Int32)), (.int (112 : Int32)), (.int (116 : Int32)), (.int (105 : Int32)), (.int (111 : Int32)), (.int (110 : Int32)), (.int (32 : Int32)), (.int c0), (.int c1), (.int c2)] (.int (0 : Int32)) := by rw [show nar .char c2 = c2 from (own_nc b_c2.1 b_c2.2)] at V1000; exact V1000
  have f1003 := ((((A925.ext E927).wr W930).wr W936).wr W940)
  have f1004 := ((((f1003.wr W944).wr W948).wr W952).wr W956)
  have f1005 := ((((f1004.wr W960).wr W964).wr W968).wr W972)
  have f1006 := ((((f1005.wr W976).wr W980).wr W984).wr W988)
  have f1007 := (((f1006.wr W992).wr W996).wr W1000)
  have ne1008 : b925 ≠ b927 := Nat.ne_of_lt (Nat.lt_of_lt_of_le A925.lt (Nat.le_of_eq g927.symm))
  have f1009 := ((((F925_value.ext E927).other W930 (Or.inl ne1008)).other W936 (Or.inl ne1008)).other W940 (Or.inl ne1008))
  have f1010 := ((((f1009.other W944 (Or.inl ne1008)).other W948 (Or.inl ne1008)).other W952 (Or.inl ne1008)).other W956 (Or.inl ne1008))
  have f1011 := ((((f1010.other W960 (Or.inl ne1008)).other W964 (Or.inl ne1008)).other W968 (Or.inl ne1008)).other W972 (Or.inl ne1008))
  have f1012 := ((((f1011.other W976 (Or.inl ne1008)).other W980 (Or.inl ne1008)).other W984 (Or.inl ne1008)).other W988 (Or.inl ne1008))
  have f1013 := (((f1012.other W992 (Or.inl ne1008)).other W996 (Or.inl ne1008)).other W1000 (Or.inl ne1008))
  have f1014 := ((((F925_coder.ext E927).other W930 (Or.inl ne1008)).other W936 (Or.inl ne1008)).other W940 (Or.inl ne1008))
  have f1015 := ((((f1014.other W944 (Or.inl ne1008)).other W948 (Or.inl ne1008)).other W952 (Or.inl ne1008)).other W956 (Or.inl ne1008))
  have f1016 := ((((f1015.other W960 (Or.inl ne1008)).other W964 (Or.inl ne1008)).other W968 (Or.inl ne1008)).other W972 (Or.inl ne1008))
  have f1017 := ((((f1016.other W976 (Or.inl ne1008)).other W980 (Or.inl ne1008)).other W984 (Or.inl ne1008)).other W988 (Or.inl ne1008))
  have f1018 := (((f1017.other W992 (Or.inl ne1008)).other W996 (Or.inl ne1008)).other W1000 (Or.inl ne1008))
  have z1019 := (Nat.le_trans (Nat.le_trans (Nat.le_trans (Nat.le_trans E899.1 E901.1) (Keep.of_wr W904).1) (Keep.of_wr W908).1) (Keep.of_wr W912).1)
  have f1020 := ((((f920.keep K921 (allS (Nat.le_trans Z0 (Nat.le_of_eq g899.symm)) all0)).ext E925).ext E927).wr W930 (Nat.le_trans Z0 (Nat.le_trans z932 (Nat.le_of_eq g927.symm))))
  have f1021 := ((((f1020.wr W936 (Nat.le_trans Z0 (Nat.le_trans z932 (Nat.le_of_eq g927.symm)))).wr W940 (Nat.le_trans Z0 (Nat.le_trans z932 (Nat.le_of_eq g927.symm)))).wr W944 (Nat.le_trans Z0 (Nat.le_trans z932 (Nat.le_of_eq g927.symm)))).wr W948 (Nat.le_trans Z0 (Nat.le_trans z932 (Nat.le_of_eq g927.symm))))
  have f1022 := ((((f1021.wr W952 (Nat.le_trans Z0 (Nat.le_trans z932 (Nat.le_of_eq g927.symm)))).wr W956 (Nat.le_trans Z0 (Nat.le_trans z932 (Nat.le_of_eq g927.symm)))).wr W960 (Nat.le_trans Z0 (Nat.le_trans z932 (Nat.le_of_eq g927.symm)))).wr W964 (Nat.le_trans Z0 (Nat.le_trans z932 (Nat.le_of_eq g927.symm))))
  have f1023 := ((((f1022.wr W968 (Nat.le_trans Z0 (Nat.le_trans z932 (Nat.le_of_eq g927.symm)))).wr W972 (Nat.le_trans Z0 (Nat.le_trans z932 (Nat.le_of_eq g927.symm)))).wr W976 (Nat.le_trans Z0 (Nat.le_trans z932 (Nat.le_of_eq g927.symm)))).wr W980 (Nat.le_trans Z0 (Nat.le_trans z932 (Nat.le_of_eq g927.symm))))
  have f1024 := ((((f1023.wr W984 (Nat.le_trans Z0 (Nat.le_trans z932 (Nat.le_of_eq g927.symm)))).wr W988 (Nat.le_trans Z0 (Nat.le_trans z932 (Nat.le_of_eq g927.symm)))).wr W992 (Nat.le_trans Z0 (Nat.le_trans z932 (Nat.le_of_eq g927.symm)))).wr W996 (Nat.le_trans Z0 (Nat.le_trans z932 (Nat.le_of_eq g927.symm))))
  have f1025 := (f1024.wr W1000 (Nat.le_trans Z0 (Nat.le_trans z932 (Nat.le_of_eq g927.symm))))
  obtain ⟨v1026, _, ⟨T1026, L1026, k1026, n1026⟩, -, X1026, ⟨Lc1026, hQ1026, l1026, y1026, z1026⟩, st1026⟩ := X1000.specialBack hx (y := (⟨"java/lang/String", "<init>", "([C)V"⟩ : MethodName)) rfl hown (mvT hZ (tw hw 5 rfl)) (mvT hZ (tw hw 6 rfl)) (mvT hZ (tw hw 7 rfl)) (by decide) (backOf (W := 1) (rm_i1 l Z a0 hw [] b925 b927 k927 (.int (0 : Int32)) ([109, 105, 115, 115, 105, 110, 103, 32, 111, 112, 116, 105, 111, 110, 32, c0, c1, c2] : List Int32) G1 h1000 n0 f1025 f1007 f1013 f1018 (Nat.le_trans Z0 (Nat.le_trans (Nat.le_trans z1019 K921.1) (Nat.le_of_eq g925.symm))) OA OH OL O2 P5 (own_okE3 b_c0 b_c1 b_c2) V1000q (Nat.le_of_ble_eq_true rfl) (Nat.le_of_ble_eq_true rfl)) hZ (tw hw 7 rfl) (tw hw 3 rfl) (by decide) (by decide)) (g := (mkF m 549 #[.val (.int p1), .val (.int p2), .val (.int p3), .val (.int p4), .val (.int (3 : Int32)), .val (.int c0), .val (.int c1), .val (.int c2), .val (.ref b899), .unset, .unset] [(.ref b927), (.ref b925), (.ref b925)])) rfl (by rw [hml]; rfl) (Steps.refl _) (a := b925) (argsL := [(.ref b927)]) (rest := [(.ref b925)]) (lenOf pd_31 rfl) rfl (by show 2 * 0 + _ ≤ _; exact Nat.le_of_eq rfl) (hb hby at_549) (fun _ _ => ⟨rfl, e1000, (by decide : 6 + 2 ≤ _), (by decide : 115 + 86 ≤ _)⟩)
  dsimp only [Pt.U, Pt.locs, Pt.cells, Pt.slots] at X1026 l1026 y1026 z1026 st1026 hQ1026
  subst l1026 y1026 z1026
  refine own_gos st1026 ?_
  obtain ⟨t1026, kt1026, cd1026, N21026, vs1026, rfl, Nq1026, K1026, Fv1026, Fc1026, Vt1026, hC1026⟩ := hQ1026
  have f1027 := (Safe.wr W936 f937 C934.1 (Safe.wr W930 f933 C928.1 (Safe.ext E927 C926.1 (Safe.ext E925 C924.1 (Safe.new (Nat.le_of_eq g925.symm))))))
  have f1028 := (Safe.wr W952 f953 C950.1 (Safe.wr W948 f949 C946.1 (Safe.wr W944 f945 C942.1 (Safe.wr W940 f941 C938.1 f1027))))
  have f1029 := (Safe.wr W968 f969 C966.1 (Safe.wr W964 f965 C962.1 (Safe.wr W960 f961 C958.1 (Safe.wr W956 f957 C954.1 f1028))))
  have f1030 := (Safe.wr W984 f985 C982.1 (Safe.wr W980 f981 C978.1 (Safe.wr W976 f977 C974.1 (Safe.wr W972 f973 C970.1 f1029))))
  have f1031 := (Safe.wr W1000 f1001 C998.1 (Safe.wr W996 f997 C994.1 (Safe.wr W992 f993 C990.1 (Safe.wr W988 f989 C986.1 f1030))))
  have C1032 := C1002.trans (CHr.keep K1026 (sfS f1031 sf0) C1002.1)
  have N1026 := Fr.app N1000 Nq1026
  refine og (fun _ k => XS.astore X1026.here hx rfl (hb hby at_552) rfl rfl (l' := #[.val (.int p1), .val (.int p2), .val (.int p3), .val (.int p4), .val (.int (3 : Int32)), .val (.int c0), .val (.int c1), .val (.int c2), .val (.ref b899), .val (.ref b925), .unset]) rfl k) ?_
  try dsimp only [mkF]
  refine og (fun _ k => XS.aload X1026.here hx rfl (hb hby at_554) rfl rfl k) ?_
  have f1033 := ((((f915.keep K921).ext E925).ext E927).wr W930)
  have f1034 := ((((f1033.wr W936).wr W940).wr W944).wr W948)
  have f1035 := ((((f1034.wr W952).wr W956).wr W960).wr W964)
  have f1036 := ((((f1035.wr W968).wr W972).wr W976).wr W980)
  have f1037 := ((((f1036.wr W984).wr W988).wr W992).wr W996)
  have f1038 := ((f1037.wr W1000).keep K1026)
  have z1040 := (Nat.le_trans (Nat.le_trans (Nat.le_trans (Nat.le_trans E901.1 (Keep.of_wr W904).1) (Keep.of_wr W908).1) (Keep.of_wr W912).1) K921.1)
  have ne1039 : b899 ≠ b927 := Nat.ne_of_lt (Nat.lt_of_lt_of_le (Nat.lt_of_lt_of_le A899.lt (Nat.le_trans z1040 E925.1)) (Nat.le_of_eq g927.symm))
  have f1041 := ((((Fv921.ext E925).ext E927).other W930 (Or.inl ne1039)).other W936 (Or.inl ne1039))
  have f1042 := ((((f1041.other W940 (Or.inl ne1039)).other W944 (Or.inl ne1039)).other W948 (Or.inl ne1039)).other W952 (Or.inl ne1039))
  have f1043 := ((((f1042.other W956 (Or.inl ne1039)).other W960 (Or.inl ne1039)).other W964 (Or.inl ne1039)).other W968 (Or.inl ne1039))
  have f1044 := ((((f1043.other W972 (Or.inl ne1039)).other W976 (Or.inl ne1039)).other W980 (Or.inl ne1039)).other W984 (Or.inl ne1039))
  have f1045 := ((((f1044.other W988 (Or.inl ne1039)).other W992 (Or.inl ne1039)).other W996 (Or.inl ne1039)).other W1000 (Or.inl ne1039))
  have z1047 := (Nat.le_trans (Nat.le_trans (Nat.le_trans (Nat.le_trans E901.1 (Keep.of_wr W904).1) (Keep.of_wr W908).1) (Keep.of_wr W912).1) K921.1)
  have ne1046 : b899 ≠ b925 := Nat.ne_of_lt (Nat.lt_of_lt_of_le (Nat.lt_of_lt_of_le A899.lt z1047) (Nat.le_of_eq g925.symm))
  have f1048 := (f1045.keep K1026 (ninS ne1046 nin0))
  have f1049 := ((((Fc921.ext E925).ext E927).other W930 (Or.inl ne1039)).other W936 (Or.inl ne1039))
  have f1050 := ((((f1049.other W940 (Or.inl ne1039)).other W944 (Or.inl ne1039)).other W948 (Or.inl ne1039)).other W952 (Or.inl ne1039))
  have f1051 := ((((f1050.other W956 (Or.inl ne1039)).other W960 (Or.inl ne1039)).other W964 (Or.inl ne1039)).other W968 (Or.inl ne1039))
  have f1052 := ((((f1051.other W972 (Or.inl ne1039)).other W976 (Or.inl ne1039)).other W980 (Or.inl ne1039)).other W984 (Or.inl ne1039))
  have f1053 := ((((f1052.other W988 (Or.inl ne1039)).other W992 (Or.inl ne1039)).other W996 (Or.inl ne1039)).other W1000 (Or.inl ne1039))
  have f1054 := (f1053.keep K1026 (ninS ne1046 nin0))
  have ne1055 : t921 ≠ b927 := Nat.ne_of_lt (Nat.lt_of_lt_of_le (Nat.lt_of_lt_of_le Vt921.lt E925.1) (Nat.le_of_eq g927.symm))
  have f1056 := ((((Vt921.ext E925).ext E927).other W930 ne1055).other W936 ne1055)
  have f1057 := ((((f1056.other W940 ne1055).other W944 ne1055).other W948 ne1055).other W952 ne1055)
  have f1058 := ((((f1057.other W956 ne1055).other W960 ne1055).other W964 ne1055).other W968 ne1055)
  have f1059 := ((((f1058.other W972 ne1055).other W976 ne1055).other W980 ne1055).other W984 ne1055)
  have f1060 := ((((f1059.other W988 ne1055).other W992 ne1055).other W996 ne1055).other W1000 ne1055)
  have ne1061 : t921 ≠ b925 := Nat.ne_of_lt (Nat.lt_of_lt_of_le Vt921.lt (Nat.le_of_eq g925.symm))
  have f1062 := (f1060.keep K1026 (ninS ne1061 nin0))
  have f1063 := (ThS.wr W908 (ThS.wr W904 (ThS.ext E901 (ThS.ext E899 hTh))))
  have f1064 := (ThS.ext E927 (ThS.ext E925 (ThS.keep K921 (nsS (Exa.nostat f915) ns0) (ThS.wr W912 f1063))))
  have f1065 := (ThS.wr W944 (ThS.wr W940 (ThS.wr W936 (ThS.wr W930 f1064))))
  have f1066 := (ThS.wr W960 (ThS.wr W956 (ThS.wr W952 (ThS.wr W948 f1065))))
  have f1067 := (ThS.wr W976 (ThS.wr W972 (ThS.wr W968 (ThS.wr W964 f1066))))
  have f1068 := (ThS.wr W992 (ThS.wr W988 (ThS.wr W984 (ThS.wr W980 f1067))))
  have f1069 := (ThS.keep K1026 (nsS (Exa.nostat f1007) ns0) (ThS.wr W1000 (ThS.wr W996 f1068)))
  have f1070 := (f1025.keep K1026 (allS (Nat.le_trans Z0 (Nat.le_trans (Nat.le_trans z1019 K921.1) (Nat.le_of_eq g925.symm))) all0))
  obtain ⟨v1071, _, ⟨T1071, L1071, k1071, n1071⟩, -, X1071, hS1071, hg1071, ⟨Lc1071, hQ1071, l1071, y1071, z1071, A1071⟩, st1071⟩ := callSS X1026 hx (y := (⟨"com/example/cohortwise/cohortwise/cli/Arguments", "missingOption", "(Ljava/lang/String;)Lcom/example/cohortwise/cohortwise/cli/InputRefusedException;"⟩ : MethodName)) hown (mvT hZ (tw hw 34 rfl)) (mvT hZ (tw hw 35 rfl)) (mvT hZ (tw hw 36 rfl)) (mvT hZ (tw hw 37 rfl)) (by decide) (backOfSKH (W := 0) (rm_mis l Z a0 hw [] b899 t921 kt921 ([c0, c1, c2] : List Int32) cd921 N2921 vs921 G1 G3 T1026.heap n0 f1070 O2 P5 O4 rG3 OA OH OL f1038 f1048 f1054 f1062 hC921 (own_okL3 b_c0 b_c1 b_c2) (Nat.le_of_ble_eq_true rfl) hl hR2 f1069) hZ (tw hw 37 rfl) (tw hw 36 rfl) (by decide) (by decide) own_hEL C1032.1 (Vm.MethodsKnown.alikeC hS0.1.alike hTK) (Vm.FramesKnown.alikeC hS0.1.alike hBelow)) (g := (mkF m 556 #[.val (.int p1), .val (.int p2), .val (.int p3), .val (.int p4), .val (.int (3 : Int32)), .val (.int c0), .val (.int c1), .val (.int c2), .val (.ref b899), .val (.ref b925), .unset] [(.ref b899)])) rfl (by rw [hml]; rfl) (argsL := [(.ref b899)]) (rest := []) (lenOf pd_32 rfl) rfl (by show 2 * 0 + _ ≤ _; exact Nat.le_of_eq rfl) (hb hby at_556) (fun _ _ => ⟨rfl, (rfl : T1026.heap = T1026.heap), (by decide : 8 + 10 ≤ _), (by decide : 201 + 3018 ≤ _)⟩)
  dsimp only [Pt.U, Pt.locs, Pt.cells, Pt.slots] at X1071 l1071 y1071 z1071 st1071 hQ1071 hS1071 hg1071 A1071
  subst l1071 y1071 z1071
  refine own_gos st1071 ?_
  have z1072 := (Nat.le_trans (Nat.le_trans (Nat.le_trans (Nat.le_trans z932 E927.1) (Keep.of_wr W930).1) (Keep.of_wr W936).1) (Keep.of_wr W940).1)
  have z1073 := (Nat.le_trans (Nat.le_trans (Nat.le_trans (Nat.le_trans z1072 (Keep.of_wr W944).1) (Keep.of_wr W948).1) (Keep.of_wr W952).1) (Keep.of_wr W956).1)
  have z1074 := (Nat.le_trans (Nat.le_trans (Nat.le_trans (Nat.le_trans z1073 (Keep.of_wr W960).1) (Keep.of_wr W964).1) (Keep.of_wr W968).1) (Keep.of_wr W972).1)
  have z1075 := (Nat.le_trans (Nat.le_trans (Nat.le_trans (Nat.le_trans z1074 (Keep.of_wr W976).1) (Keep.of_wr W980).1) (Keep.of_wr W984).1) (Keep.of_wr W988).1)
  have z1076 := (Nat.le_trans (Nat.le_trans (Nat.le_trans (Nat.le_trans z1075 (Keep.of_wr W992).1) (Keep.of_wr W996).1) (Keep.of_wr W1000).1) K1026.1)
  obtain ⟨X1071, hS1071, hZ1071, hown1071⟩ := rebS hS0 (k0 := _) (n1 := T1026.heap.size) (by rw [(rfl : T1026.heap = T1026.heap)]; exact (Nat.le_trans hk0 z1076)) X1071 hS1071 hg1071 hZ hown
  obtain ⟨a1071, x1071, t1071, kt1071, cd1071, N21071, vs1071, rfl, Nq1071, K1071, Ea1071, Fm1071, Ex1071, Fv1071, Fc1071, Vt1071, hC1071⟩ := hQ1071
  have C1077 := C1032.trans A1071
  have N1071 := Fr.app N1026 Nq1071
  refine og (fun _ k => XS.astore X1071.here hx rfl (hb hby at_559) rfl rfl (l' := #[.val (.int p1), .val (.int p2), .val (.int p3), .val (.int p4), .val (.int (3 : Int32)), .val (.int c0), .val (.int c1), .val (.int c2), .val (.ref b899), .val (.ref b925), .val (.ref a1071)]) rfl k) ?_
  refine og (fun _ k => XS.aload X1071.here hx rfl (hb hby at_561) rfl rfl k) ?_
  refine og (fun _ k => XS.ifnonnullYes X1071.here hx rfl (pc0 := 563) (pc' := 568) rfl (hb hby at_563) rfl (by decide) (by decide) k) ?_
  try dsimp only [mkF]
  refine og (fun _ k => XS.aload X1071.here hx rfl (hb hby at_568) rfl rfl k) ?_
  refine og (fun _ k => XS.aload X1071.here hx rfl (hb hby at_570) rfl rfl k) ?_
  obtain ⟨cq1078, kq1078, q1078a, q1078b, q1078c⟩ := isOf hZ1071 (rfl : T1071.heap = T1071.heap) Ea1071
  obtain ⟨v1078, _, ⟨T1078, L1078, k1078, n1078⟩, -, X1078, ⟨Lc1078, hQ1078, l1078, y1078, z1078⟩, st1078⟩ := X1071.virtualBackUp hx (owner := "java/lang/Throwable") (x := (⟨"com/example/cohortwise/cohortwise/cli/InputRefusedException", "getMessage", "()Ljava/lang/String;"⟩ : MethodName)) (y := (⟨"java/lang/Throwable", "getMessage", "()Ljava/lang/String;"⟩ : MethodName)) hown1071 (mvT hZ1071 (tw hw 209 rfl)) (mvT hZ1071 (tw hw 210 rfl)) (mvT hZ1071 (tw hw 211 rfl)) (by decide) (mvT hZ1071 (tw hw 213 rfl)) (mvT hZ1071 (tw hw 212 rfl)) (backOf (W := 1) (rm_gm l Z a0 hw [] a1071 x1071 T1071.heap n0 (f1070.keep K1071 all0) Ea1071 Fm1071) hZ1071 (tw hw 214 rfl) (tw hw 170 rfl) (by decide) (by decide)) q1078a q1078c (g := (mkF m 572 #[.val (.int p1), .val (.int p2), .val (.int p3), .val (.int p4), .val (.int (3 : Int32)), .val (.int c0), .val (.int c1), .val (.int c2), .val (.ref b899), .val (.ref b925), .val (.ref a1071)] [(.ref a1071), (.ref b925)])) rfl (by rw [hml]; rfl) (Steps.refl _) (argsL := []) (rest := [(.ref b925)]) (lenOf pd_30 rfl) rfl (by show 2 * 0 + _ ≤ _; exact Nat.le_of_eq rfl) (hb hby at_572) (fun _ _ => ⟨rfl, (rfl : T1071.heap = T1071.heap), (by decide : 18 + 0 ≤ _), (by decide : 3219 + 0 ≤ _)⟩)
  dsimp only [Pt.U, Pt.locs, Pt.cells, Pt.slots] at X1078 l1078 y1078 z1078 st1078 hQ1078
  subst l1078 y1078 z1078
  refine own_gos st1078 ?_
  obtain ⟨rfl, Nq1078, e1078⟩ := hQ1078
  have N1078 := Fr.app N1071 Nq1078
  have f1079 := ((f1007.keep K1026).keep K1071)
  obtain ⟨cq1080, kq1080, q1080a, q1080b, q1080c⟩ := isOf hZ1071 e1078 f1079
  obtain ⟨v1080, _, ⟨T1080, L1080, k1080, n1080⟩, -, X1080, ⟨Lc1080, hQ1080, l1080, y1080, z1080⟩, st1080⟩ := X1078.virtualBack hx (y := (⟨"java/lang/String", "equals", "(Ljava/lang/Object;)Z"⟩ : MethodName)) (z := (⟨"java/lang/String", "equals", "(Ljava/lang/Object;)Z"⟩ : MethodName)) hown1071 (mvT hZ1071 (tw hw 215 rfl)) (mvT hZ1071 (tw hw 216 rfl)) (notFace_of_selects (args := #[]) (mvT hZ1071 (tw hw 218 rfl))) (mvT hZ1071 (tw hw 218 rfl)) (mvT hZ1071 (tw hw 217 rfl)) (by decide) (StrChars.Road.eqW (W := 0) hZ1071 (own_wEq hw) (kI := 4) (tw hw 2 rfl) f1079 (Fv1026.keep K1071 nin0) (Fc1026.keep K1071 nin0) (Vt1026.keep K1071 nin0) hC1026 (own_okE3 b_c0 b_c1 b_c2).1 (own_okE3 b_c0 b_c1 b_c2).2 Ex1071 Fv1071 Fc1071 Vt1071 hC1071 (Eq.mpr (congrArg own_Ok (own_eqE ([c0, c1, c2] : List Int32))) (own_okE3 b_c0 b_c1 b_c2)).1 (Eq.mpr (congrArg own_Ok (own_eqE ([c0, c1, c2] : List Int32))) (own_okE3 b_c0 b_c1 b_c2)).2 (O2.ext (f1070.keep K1071 all0).2) P5 (by decide) (by decide)) q1080a q1080c (g := (mkF m 575 #[.val (.int p1), .val (.int p2), .val (.int p3), .val (.int p4), .val (.int (3 : Int32)), .val (.int c0), .val (.int c1), .val (.int c2), .val (.ref b899), .val (.ref b925), .val (.ref a1071)] [(.ref x1071), (.ref b925)])) rfl (by rw [hml]; rfl) (Steps.refl _) (argsL := [(.ref x1071)]) (rest := []) (lenOf pd_33 rfl) rfl (by show 2 * 0 + _ ≤ _; exact Nat.le_of_eq rfl) (hb hby at_575) (fun _ _ => ⟨rfl, e1078, (by decide : 18 + 0 ≤ _), (by decide : 3219 + 0 ≤ _)⟩)
  dsimp only [Pt.U, Pt.locs, Pt.cells, Pt.slots] at X1080 l1080 y1080 z1080 st1080 hQ1080
  subst l1080 y1080 z1080
  refine own_gos st1080 ?_
  obtain ⟨rfl, rfl, e1080⟩ : _ = some (Value.int (1 : Int32)) ∧ _ = ([] : List Loc) ∧ _ := ⟨hQ1080.1.elim (fun h => h.1) (fun h => absurd ((own_eqE ([c0, c1, c2] : List Int32)).symm) h.2), hQ1080.2⟩
  have Nq1080 : Fr n0 ([] : List Loc) := Fr.nil n0
  have N1080 := Fr.app N1078 Nq1080
  refine own_finW (v := (some (.int (nar .boolean (1 : Int32))))) X1080 hh hZ1071 hS1071 (by rw [e1080]; exact (Nat.le_refl _)) (fun h => by rw [hrt] at h; cases h) hlk (fun fs hr => retN X1080 hx (t := .boolean) hrt (by simp) (hb hby at_578) hr) (QQ := QQ0 n0) ?_ own_hEL e1080 (C1077) (by decide) (by decide)
  rw [e1080]
  exact ⟨rfl, N1080⟩

theorem ef_rm_law (m : MethodId) (x0 : Int32) (x1 : Int32) (x2 : Int32) (x3 : Int32) : entryFrame m #[(.int x0), (.int x1), (.int x2), (.int x3)] maxLocals = mkF m 0 #[.val (.int x0), .val (.int x1), .val (.int x2), .val (.int x3), .unset, .unset, .unset, .unset, .unset, .unset, .unset] [] := by
   first | (simp [entryFrame, mkF, argsToLocals, Value.category, maxLocals]; done) | rfl
set_option maxRecDepth 65536 in
set_option maxHeartbeats 40000000 in
theorem rm_law (l : Launch) (Z : State) (a0 : Array Value) (hw : ∀ d ∈ tables_1, d.before a0 Z = true) (ws : List Jvm.Cond) (p1 p2 p3 p4 G1 : Int32) (G3 : Value) (h0 : Heap) (n0 : Nat) (O0 : Old Z n0 h0) (O2 : Sta Z Z.heap "java/lang/String" "COMPACT_STRINGS" "Z" (.int G1)) (P5 : ¬ (G1 = (0 : Int32))) (O4 : Sta Z Z.heap "jdk/internal/util/Preconditions" "SIOOBE_FORMATTER" "Ljava/util/function/BiFunction;" G3) (rG3 : G3.isRef = true) (OA : Sta Z Z.heap "java/lang/StringUTF16" "$assertionsDisabled" "Z" (.int (1 : Int32))) (OH : Sta Z Z.heap "java/lang/StringUTF16" "HI_BYTE_SHIFT" "I" (.int (0 : Int32))) (OL : Sta Z Z.heap "java/lang/StringUTF16" "LO_BYTE_SHIFT" "I" (.int (8 : Int32))) (hl : l.stackTraces = true) (hR2 : ∀ d ∈ twoRefs, d.before a0 Z = true) (hT0 : ThS Z h0) :
    MetFree l x (head1 (Jvm.Cond.code x code maxLocals ret :: ws) room_1) (fun aA U => aA = #[(.int p1), (.int p2), (.int p3), (.int p4)] ∧ Z.Warmed39 U.vm ∧ U.heap = h0 ∧ CHv Z own_EL U.vm h0) (fun _ _ _ sK _ => framesKnown sK = true ∧ tablesKnown sK = true) (fun _ U oO U' => ∃ rV rL, oO = .returned rV ∧ QQ0 n0 rV U'.heap rL ∧ CHr Z own_EL U.vm U.heap U'.vm U'.heap ∧ ReturnedEndW U oO U' rL 48 8192) := by
  refine MetFree.of_bodySF (plainFor_of_name pn_13) hisR ?_
  intro p e s m args below meth cC s₁ Bd hml0 hP hK
  obtain ⟨rfl, hZ, hh, hC0⟩ := hP
  have hx := Bd.exec
  have hby := Bd.bytes
  have hml : cC.maxLocals = maxLocals := hml0
  have hown : s.vm.findClass "com/example/cohortwise/cohortwise/cli/ArgumentsMissingOptionPinLaw" = some m.cls := findClass_of_methodNamed Bd.named
  have hnm := (name_of_methodNamed Bd.named Bd.method).1
  have hrt := Bd.returns
  have hlk : meth.locks = false := Bd.notSynchronized
  have X0 : Stand p l e room_1 (s.setVm s.vm) m #[(.int p1), (.int p2), (.int p3), (.int p4)] below meth cC s₁ [] 0 0 := Stand.of_body Bd
  have e0 : s₁.heap = h0 := by rw [← hh, Bd.state]; rfl
  have N0 := Fr.nil n0
  have Z0 : n0 ≤ h0.size := O0.1 ▸ O0.2.1
  obtain ⟨hTK, hBelow⟩ : s.vm.MethodsKnown ∧ s.vm.FramesKnown below := X0.known hK.2 hK.1
  have hS0 : s.Since s.vm 0 := (State.WarmedH.refl s).since 0
  have C0 : CHr Z own_EL s.vm h0 s.vm h0 := CHr.refl hC0
  have own_wS := own_wSt hw
  have own_hEL := own_hELt hw
  show own_Go p e below (s₁.setTop (entryFrame m #[(.int p1), (.int p2), (.int p3), (.int p4)] maxLocals)) (fun oO U' => ∃ rV rL, oO = .returned rV ∧ QQ0 n0 rV U'.heap rL ∧ CHr Z own_EL s.vm s.heap U'.vm U'.heap ∧ ReturnedEndW s oO U' rL 48 8192)
  refine own_go (fun _ k => castTop (ef_rm_law m p1 p2 p3 p4) k) ?_
  refine og (fun _ k => XS.iloadN X0.here hx rfl (hb hby at_0) rfl k) ?_
  refine og (fun _ k => XS.iconst X0.here hx rfl (hb hby at_1) k) ?_
  refine og (fun _ k => XS.iand X0.here hx rfl (hb hby at_2) rfl k) ?_
  refine og (fun _ k => XS.istore X0.here hx rfl (hb hby at_3) rfl (l' := #[.val (.int p1), .val (.int p2), .val (.int p3), .val (.int p4), .val (.int (p1 &&& (3 : Int32))), .unset, .unset, .unset, .unset, .unset, .unset]) rfl k) ?_
  try dsimp only [mkF]
  refine og (fun _ k => XS.iloadN X0.here hx rfl (hb hby at_5) rfl k) ?_
  refine og (fun _ k => X0.ldcInt hx hown (mvT hZ (tw hw 0 rfl)) (g := (mkF m 6 #[.val (.int p1), .val (.int p2), .val (.int p3), .val (.int p4), .val (.int (p1 &&& (3 : Int32))), .unset, .unset, .unset, .unset, .unset, .unset] [(.int p2)])) rfl (hb hby at_6) _ k) ?_
  refine og (fun _ k => XS.iand X0.here hx rfl (hb hby at_8) rfl k) ?_
  refine og (fun _ k => XS.i2c X0.here hx rfl (hb hby at_9) rfl k) ?_
  refine og (fun _ k => XS.istore X0.here hx rfl (hb hby at_10) rfl (l' := #[.val (.int p1), .val (.int p2), .val (.int p3), .val (.int p4), .val (.int (p1 &&& (3 : Int32))), .val (.int ((p2 &&& (65535 : Int32)).toUInt32.toUInt16.toUInt32.toInt32)), .unset, .unset, .unset, .unset, .unset]) rfl k) ?_
  try dsimp only [mkF]
  refine og (fun _ k => XS.iloadN X0.here hx rfl (hb hby at_12) rfl k) ?_
  refine og (fun _ k => X0.ldcInt hx hown (mvT hZ (tw hw 0 rfl)) (g := (mkF m 13 #[.val (.int p1), .val (.int p2), .val (.int p3), .val (.int p4), .val (.int (p1 &&& (3 : Int32))), .val (.int ((p2 &&& (65535 : Int32)).toUInt32.toUInt16.toUInt32.toInt32)), .unset, .unset, .unset, .unset, .unset] [(.int p3)])) rfl (hb hby at_13) _ k) ?_
  refine og (fun _ k => XS.iand X0.here hx rfl (hb hby at_15) rfl k) ?_
  refine og (fun _ k => XS.i2c X0.here hx rfl (hb hby at_16) rfl k) ?_
  refine og (fun _ k => XS.istore X0.here hx rfl (hb hby at_17) rfl (l' := #[.val (.int p1), .val (.int p2), .val (.int p3), .val (.int p4), .val (.int (p1 &&& (3 : Int32))), .val (.int ((p2 &&& (65535 : Int32)).toUInt32.toUInt16.toUInt32.toInt32)), .val (.int ((p3 &&& (65535 : Int32)).toUInt32.toUInt16.toUInt32.toInt32)), .unset, .unset, .unset, .unset]) rfl k) ?_
  try dsimp only [mkF]
  refine og (fun _ k => XS.iloadN X0.here hx rfl (hb hby at_19) rfl k) ?_
  refine og (fun _ k => X0.ldcInt hx hown (mvT hZ (tw hw 0 rfl)) (g := (mkF m 20 #[.val (.int p1), .val (.int p2), .val (.int p3), .val (.int p4), .val (.int (p1 &&& (3 : Int32))), .val (.int ((p2 &&& (65535 : Int32)).toUInt32.toUInt16.toUInt32.toInt32)), .val (.int ((p3 &&& (65535 : Int32)).toUInt32.toUInt16.toUInt32.toInt32)), .unset, .unset, .unset, .unset] [(.int p4)])) rfl (hb hby at_20) _ k) ?_
  refine og (fun _ k => XS.iand X0.here hx rfl (hb hby at_22) rfl k) ?_
  refine og (fun _ k => XS.i2c X0.here hx rfl (hb hby at_23) rfl k) ?_
  refine og (fun _ k => XS.istore X0.here hx rfl (hb hby at_24) rfl (l' := #[.val (.int p1), .val (.int p2), .val (.int p3), .val (.int p4), .val (.int (p1 &&& (3 : Int32))), .val (.int ((p2 &&& (65535 : Int32)).toUInt32.toUInt16.toUInt32.toInt32)), .val (.int ((p3 &&& (65535 : Int32)).toUInt32.toUInt16.toUInt32.toInt32)), .val (.int ((p4 &&& (65535 : Int32)).toUInt32.toUInt16.toUInt32.toInt32)), .unset, .unset, .unset]) rfl k) ?_
  try dsimp only [mkF]
  show own_Go p e below (s₁.setTop (mkF m 26 #[.val (.int p1), .val (.int p2), .val (.int p3), .val (.int p4), .val (.int (p1 &&& (3 : Int32))), .val (.int ((p2 &&& (65535 : Int32)).toUInt32.toUInt16.toUInt32.toInt32)), .val (.int ((p3 &&& (65535 : Int32)).toUInt32.toUInt16.toUInt32.toInt32)), .val (.int ((p4 &&& (65535 : Int32)).toUInt32.toUInt16.toUInt32.toInt32)), .unset, .unset, .unset] [])) _
  obtain ⟨c0, h_c0⟩ : ∃ z, z = ((p2 &&& (65535 : Int32)).toUInt32.toUInt16.toUInt32.toInt32) := ⟨_, rfl⟩
  have b_c0 : ¬ c0 < 0 ∧ ¬ (65535 : Int32) < c0 := h_c0 ▸ own_i2c _
  rw [← h_c0]
  obtain ⟨c1, h_c1⟩ : ∃ z, z = ((p3 &&& (65535 : Int32)).toUInt32.toUInt16.toUInt32.toInt32) := ⟨_, rfl⟩
  have b_c1 : ¬ c1 < 0 ∧ ¬ (65535 : Int32) < c1 := h_c1 ▸ own_i2c _
  rw [← h_c1]
  obtain ⟨c2, h_c2⟩ : ∃ z, z = ((p4 &&& (65535 : Int32)).toUInt32.toUInt16.toUInt32.toInt32) := ⟨_, rfl⟩
  have b_c2 : ¬ c2 < 0 ∧ ¬ (65535 : Int32) < c2 := h_c2 ▸ own_i2c _
  rw [← h_c2]
  have hn3 := own_i3 p1
  obtain ⟨nn, h_nn⟩ : ∃ z, z = (p1 &&& (3 : Int32)) := ⟨_, rfl⟩
  rw [← h_nn] at hn3 ⊢
  clear h_nn
  rcases hn3 with q | q | q | q
  · subst q
    show own_Go p e below (s₁.setTop (mkF m 26 #[.val (.int p1), .val (.int p2), .val (.int p3), .val (.int p4), .val (.int (0 : Int32)), .val (.int c0), .val (.int c1), .val (.int c2), .unset, .unset, .unset] [])) _
    exact own_fst0 l Z a0 hw p1 p2 p3 p4 c0 c1 c2 G1 G3 h0 n0 X0 hx hby hml hown hZ hrt hlk h0 e0 N0 (Nat.le_trans Z0 (Nat.le_refl _)) O0 hh hS0 (Nat.zero_le _) C0 hT0 O2 P5 O4 rG3 OA OH OL b_c0 b_c1 b_c2 hl hR2 hTK hBelow
  · subst q
    show own_Go p e below (s₁.setTop (mkF m 26 #[.val (.int p1), .val (.int p2), .val (.int p3), .val (.int p4), .val (.int (1 : Int32)), .val (.int c0), .val (.int c1), .val (.int c2), .unset, .unset, .unset] [])) _
    exact own_fst1 l Z a0 hw p1 p2 p3 p4 c0 c1 c2 G1 G3 h0 n0 X0 hx hby hml hown hZ hrt hlk h0 e0 N0 (Nat.le_trans Z0 (Nat.le_refl _)) O0 hh hS0 (Nat.zero_le _) C0 hT0 O2 P5 O4 rG3 OA OH OL b_c0 b_c1 b_c2 hl hR2 hTK hBelow
  · subst q
    show own_Go p e below (s₁.setTop (mkF m 26 #[.val (.int p1), .val (.int p2), .val (.int p3), .val (.int p4), .val (.int (2 : Int32)), .val (.int c0), .val (.int c1), .val (.int c2), .unset, .unset, .unset] [])) _
    exact own_fst2 l Z a0 hw p1 p2 p3 p4 c0 c1 c2 G1 G3 h0 n0 X0 hx hby hml hown hZ hrt hlk h0 e0 N0 (Nat.le_trans Z0 (Nat.le_refl _)) O0 hh hS0 (Nat.zero_le _) C0 hT0 O2 P5 O4 rG3 OA OH OL b_c0 b_c1 b_c2 hl hR2 hTK hBelow
  · subst q
    show own_Go p e below (s₁.setTop (mkF m 26 #[.val (.int p1), .val (.int p2), .val (.int p3), .val (.int p4), .val (.int (3 : Int32)), .val (.int c0), .val (.int c1), .val (.int c2), .unset, .unset, .unset] [])) _
    exact own_fst3 l Z a0 hw p1 p2 p3 p4 c0 c1 c2 G1 G3 h0 n0 X0 hx hby hml hown hZ hrt hlk h0 e0 N0 (Nat.le_trans Z0 (Nat.le_refl _)) O0 hh hS0 (Nat.zero_le _) C0 hT0 O2 P5 O4 rG3 OA OH OL b_c0 b_c1 b_c2 hl hR2 hTK hBelow

set_option maxRecDepth 65536 in
set_option maxHeartbeats 40000000 in
theorem comes_1 {Post : Tables → Env → Array Value → State → Outcome → State → Prop} (hpost : ∀ tb e args s v u, (limb_1_1.after args s (.returned v) u = true ∧ limb_1_2.after args s (.returned v) u = true ∧ True) → FramedW s (.returned v) u (Jvm.fieldLocs frame_1_writes args s ++ Jvm.arrayLocs frame_1_arrays args s ++ Jvm.staticLocs frame_1_statics s) 48 8192 → Post tb e args s (.returned v) u) :
    ArmFor flags0 classFile x code maxLocals ret World_1 tables_1 room_1 Calls_1 rest_1 Pre_1 Post := by
  intro l hfl _ _ p e ha hc hk s m args below hf hA hF happ hP
  obtain ⟨hcalls, hrest, hpre⟩ := hP
  obtain ⟨-, -, -, hnamed, -, -, -, hat⟩ := (Spec.applies_iff hf).mp happ
  obtain ⟨hg, hn⟩ := and_e (Cond.before_iff.mp (show (Jvm.Cond.and given_1 narrow_1).before args s = true from hpre))
  obtain ⟨hcount, hg0⟩ := and_e hg
  obtain ⟨ha0, hg1⟩ := and_e hg0
  obtain ⟨ha1, hg2⟩ := and_e hg1
  obtain ⟨ha2, hg3⟩ := and_e hg2
  obtain ⟨w0, w1, w2, w3, rfl⟩ : ∃ w0 w1 w2 w3 : Value, args = #[w0, w1, w2, w3] := by
    have hs : args.size = 4 := by simpa [Cond.value, given_1] using hcount
    obtain ⟨L⟩ := args
    match L, hs with
    | [w0, w1, w2, w3], _ => exact ⟨w0, w1, w2, w3, rfl⟩
  have hw := fun d (hd : d ∈ tables_1) => atoms_spec (ws := Jvm.Cond.code x code maxLocals ret :: tables_1) hat d (List.mem_cons_of_mem _ hd)
  obtain ⟨hsets, hown0⟩ := atoms_of _ (rest_1_c_eq ▸ (show rest_1_c.before _ s = true from hrest))
  obtain ⟨i0, e0⟩ := is_v ha0
  obtain rfl : w0 = (.int i0) := Option.some.inj e0
  obtain ⟨i1, e1⟩ := is_v ha1
  obtain rfl : w1 = (.int i1) := Option.some.inj e1
  obtain ⟨i2, e2⟩ := is_v ha2
  obtain rfl : w2 = (.int i2) := Option.some.inj e2
  obtain ⟨i3, e3⟩ := is_v hg3
  obtain rfl : w3 = (.int i3) := Option.some.inj e3
  obtain ⟨i_G1, e_G1⟩ := is_v (Cond.before_iff.mp (hsets _ (List.mem_of_getElem? (i := 1) rfl)))
  have S_G1 : Sta s s.heap "java/lang/String" "COMPACT_STRINGS" "Z" (.int i_G1) := Sta.start e_G1 (Or.inl (hsets _ (List.mem_of_getElem? (i := 0) rfl)))
  have c_G1 : ¬ (i_G1 = (0 : Int32)) := gotF (Cond.eq_ints e_G1 (Term.int_eval (0))) (not_v (Cond.before_iff.mp (hsets _ (List.mem_of_getElem? (i := 2) rfl))))
  obtain ⟨v_G3, e_G3, r_G3⟩ := isR_v (Cond.before_iff.mp (hsets _ (List.mem_of_getElem? (i := 8) rfl)))
  have S_G3 : Sta s s.heap "jdk/internal/util/Preconditions" "SIOOBE_FORMATTER" "Ljava/util/function/BiFunction;" v_G3 := Sta.start e_G3 (Or.inl (hsets _ (List.mem_of_getElem? (i := 7) rfl)))
  have S_OA : Sta s s.heap "java/lang/StringUTF16" "$assertionsDisabled" "Z" (.int (1 : Int32)) := Sta.start (Jvm.RoadKit.eqv_i (Term.int_eval (1)) (Cond.before_iff.mp (hsets _ (List.mem_of_getElem? (i := 32) rfl)))) (Or.inl (hsets _ (List.mem_of_getElem? (i := 31) rfl)))
  have S_OH : Sta s s.heap "java/lang/StringUTF16" "HI_BYTE_SHIFT" "I" (.int (0 : Int32)) := Sta.start (Jvm.RoadKit.eqv_i (Term.int_eval (0)) (Cond.before_iff.mp (hsets _ (List.mem_of_getElem? (i := 35) rfl)))) (Or.inl (hsets _ (List.mem_of_getElem? (i := 34) rfl)))
  have S_OL : Sta s s.heap "java/lang/StringUTF16" "LO_BYTE_SHIFT" "I" (.int (8 : Int32)) := Sta.start (Jvm.RoadKit.eqv_i (Term.int_eval (8)) (Cond.before_iff.mp (hsets _ (List.mem_of_getElem? (i := 38) rfl)))) (Or.inl (hsets _ (List.mem_of_getElem? (i := 37) rfl)))
  have hCH : CHv s own_EL s.vm s.heap := CHv.start (own_hELt hw) (fun p hp => hcalls.2.2.1 p hp) (hsets _ (List.mem_of_getElem? (i := 2) rfl)) (hw _ (List.mem_of_getElem? (i := 16) rfl)) (hw _ (List.mem_of_getElem? (i := 2) rfl))
  have hl : l.stackTraces = true := by unfold Launch.stackTraces; rw [hfl]; decide
  have hR2 : ∀ d ∈ twoRefs, d.before _ s = true := fun d hd => by
    simp only [twoRefs, List.mem_cons, List.not_mem_nil, or_false] at hd
    rcases hd with rfl | rfl
    · exact hsets _ (List.mem_of_getElem? (i := 16) rfl)
    · exact hsets _ (List.mem_of_getElem? (i := 21) rfl)
  obtain ⟨n, o, h1, h2, h3, _, L, rfl, ⟨rfl, N⟩, hCH, hq⟩ := rm_law l s _ hw tables_1 i0 i1 i2 i3 i_G1 v_G3 s.heap s.heap.size (Old.start s) S_G1 c_G1 S_G3 r_G3 S_OA S_OH S_OL hl hR2 ThS.start p e ha hc hk s m _ below hf ((Spec.applies_iff_loose hf).mp happ).1 ⟨rfl, State.Warmed39.refl s, rfl, hCH⟩ ⟨hcalls.1, hcalls.2.1⟩
  refine ⟨n, _, h1, h2, h3, hpost _ _ _ _ _ _ ⟨Cond.after_iff.mpr rfl, Cond.after_iff.mpr (eq_i res_at (Term.int_eval (1)) rfl), trivial⟩ ⟨hq.1, hq.2.1, hq.2.2.1, (hq.2.2.2.sift fun y hy => Or.inr (N y hy)).mono (by decide) (by decide)⟩⟩
theorem main_1_1 : Claimed_1_1 := comes_1 fun _ _ _ _ _ _ h hF => ⟨h.1, hF⟩
theorem main_1_2 : Claimed_1_2 := comes_1 fun _ _ _ _ _ _ h hF => ⟨h.2.1, hF⟩
end Jvm.Pilot.@@N@@
namespace Jvm.Pilot.@@N@@
open Jvm Jvm.ClassFile Sem Op Lib Jvm.Free Jvm.Stand Jvm.Pilot.@@N@@.Jvm.D
/-! MADE BY PROGRAM (witnessworld.py) out of the Statement's table words and the real class files: 43 classes; the members and pool entries that the words name. The judged class is class 1, her method 1. -/
namespace start1
open Jvm.ClassFile
def u (s : String) : CpInfo := .utf8 (stringToUtf16 s)
/-- a pool by its gaps: so many unusable entries, then the entry; so many at the end -/
def gap : Nat → List CpInfo → List CpInfo
  | 0, r => r
  | n + 1, r => .unusable :: gap n r
def poolList (es : List (Nat × CpInfo)) (last : Nat) : List CpInfo := es.foldr (fun e r => gap e.1 (e.2 :: r)) (gap last [])
def pool (es : List (Nat × CpInfo)) (last : Nat) : Array CpInfo := ⟨poolList es last⟩
def fileOf (pool : Array CpInfo) (this : Nat) (attrs : Array Attribute := #[]) (ms : Array MethodInfo := #[]) (fl : Nat := 33) (sup : Nat := 0) (ifs : Array Nat := #[]) (fds : Array FieldInfo := #[]) : ClassFile where
  minorVersion := 0
  majorVersion := 65
  constantPool := pool
  accessFlags := fl
  thisClass := this
  superClass := sup
  interfaces := ifs
  fields := fds
  methods := ms
  attributes := attrs
def plain (name : String) (sup : Option ClassId) : Class where
  name := name
  kind := .ordinary
  loader := none
  accessFlags := 33
  super := sup
  interfaces := #[]
  cf := none
  fields := #[]
  methods := #[]
  instanceTypes := #[]
  staticTypes := #[]
  resolved := #[]
  callSites := []
  init := .initialized
  statics := none
  mirror := none

def pool0 : Array CpInfo := pool [(5, u "<init>"), (0, u "()V"), (1, .class_ 10), (1, u "java/lang/Object"), (85, u "clone"), (0, u "()Ljava/lang/Object;")] 26

def k0c0 : Code := { maxStack := 0, maxLocals := 1, code := object_method_1_code, exceptionTable := #[], attributes := #[] }
def k0m0 : Method := { name := "<init>", desc := "()V", sig := { parameters := [], returnType := none }, accessFlags := 1, code := some k0c0 }
def k0m1 : Method := { name := "clone", desc := "()Ljava/lang/Object;", sig := { parameters := [], returnType := some (.object "java/lang/Object") }, accessFlags := 260, code := none }
/-- java/lang/Object -/
def k0 : Class := { plain "java/lang/Object" none with
  accessFlags := 33
  interfaces := #[]
  cf := some (fileOf pool0 8 #[] #[{ accessFlags := 1, nameIndex := 5, descriptorIndex := 6, attributes := #[] }, { accessFlags := 260, nameIndex := 96, descriptorIndex := 97, attributes := #[] }] 33 0 #[] #[])
  fields := #[]
  methods := #[k0m0, k0m1]
  instanceTypes := #[]
  staticTypes := #[]
  resolved := Array.replicate 124 none
  statics := none }

def pool1 : Array CpInfo := pool [(2, .class_ 4), (1, u "java/lang/Object"), (0, u "<init>"), (0, u "()V"), (0, .integer 65535), (0, .class_ 9), (0, u "java/lang/String"), (0, .methodref 8 11), (0, .nameAndType 5 12), (0, u "([C)V"), (0, .methodref 14 15), (0, .class_ 16), (0, .nameAndType 17 18), (0, u "com/example/cohortwise/cohortwise/cli/Arguments"), (0, u "missingOption"), (0, u "(Ljava/lang/String;)Lcom/example/cohortwise/cohortwise/cli/InputRefusedException;"), (0, .methodref 20 21), (0, .class_ 22), (0, .nameAndType 23 24), (0, u "com/example/cohortwise/cohortwise/cli/InputRefusedException"), (0, u "getMessage"), (0, u "()Ljava/lang/String;"), (0, .methodref 8 26), (0, .nameAndType 27 28), (0, u "equals"), (0, u "(Ljava/lang/Object;)Z"), (0, .class_ 30), (0, u "com/example/cohortwise/cohortwise/cli/ArgumentsMissingOptionPinLaw"), (2, u "law"), (0, u "(IIII)Z")] 3

def k1m0 : Method := { name := "<init>", desc := "()V", sig := { parameters := [], returnType := none }, accessFlags := 2, code := none }
def k1c1 : Code := { maxStack := 6, maxLocals := 11, code := code, exceptionTable := #[], attributes := #[] }
def k1m1 : Method := { name := "law", desc := "(IIII)Z", sig := { parameters := [.int, .int, .int, .int], returnType := some .boolean }, accessFlags := 9, code := some k1c1 }
/-- com/example/cohortwise/cohortwise/cli/ArgumentsMissingOptionPinLaw -/
def k1 : Class := { plain "com/example/cohortwise/cohortwise/cli/ArgumentsMissingOptionPinLaw" (some 0) with
  accessFlags := 49
  interfaces := #[]
  cf := some (fileOf pool1 29 #[] #[{ accessFlags := 2, nameIndex := 5, descriptorIndex := 6, attributes := #[] }, { accessFlags := 9, nameIndex := 33, descriptorIndex := 34, attributes := #[] }] 49 2 #[] #[])
  fields := #[]
  methods := #[k1m0, k1m1]
  instanceTypes := #[]
  staticTypes := #[]
  resolved := Array.replicate 38 none
  statics := none }

def pool2 : Array CpInfo := pool [(1, .class_ 2), (0, u "java/io/Serializable"), (0, .class_ 4), (0, u "java/lang/Object")] 2

/-- java/io/Serializable -/
def k2 : Class := { plain "java/io/Serializable" (some 0) with
  accessFlags := 1537
  interfaces := #[]
  cf := some (fileOf pool2 1 #[] #[] 1537 3 #[] #[])
  fields := #[]
  methods := #[]
  instanceTypes := #[]
  staticTypes := #[]
  resolved := Array.replicate 7 none
  statics := none }

def pool3 : Array CpInfo := pool [(1, .class_ 2), (0, u "java/lang/Comparable"), (0, .class_ 4), (0, u "java/lang/Object")] 7

/-- java/lang/Comparable -/
def k3 : Class := { plain "java/lang/Comparable" (some 0) with
  accessFlags := 1537
  interfaces := #[]
  cf := some (fileOf pool3 1 #[] #[] 1537 3 #[] #[])
  fields := #[]
  methods := #[]
  instanceTypes := #[]
  staticTypes := #[]
  resolved := Array.replicate 12 none
  statics := none }

def pool4 : Array CpInfo := pool [(2, .class_ 4), (1, u "java/lang/CharSequence"), (42, .class_ 48), (0, u "java/lang/CharSequence$1CodePointIterator"), (10, .class_ 60), (0, u "java/lang/CharSequence$1CharIterator"), (5, .class_ 67), (0, u "java/lang/Object")] 63

/-- java/lang/CharSequence -/
def k4 : Class := { plain "java/lang/CharSequence" (some 0) with
  accessFlags := 1537
  interfaces := #[]
  cf := some (fileOf pool4 2 #[.nestMembers #[47, 59]] #[] 1537 66 #[] #[])
  fields := #[]
  methods := #[]
  instanceTypes := #[]
  staticTypes := #[]
  resolved := Array.replicate 131 none
  statics := none }

def pool5 : Array CpInfo := pool [(1, .class_ 2), (0, u "java/lang/constant/Constable"), (0, .class_ 4), (0, u "java/lang/Object")] 6

/-- java/lang/constant/Constable -/
def k5 : Class := { plain "java/lang/constant/Constable" (some 0) with
  accessFlags := 1537
  interfaces := #[]
  cf := some (fileOf pool5 1 #[] #[] 1537 3 #[] #[])
  fields := #[]
  methods := #[]
  instanceTypes := #[]
  staticTypes := #[]
  resolved := Array.replicate 11 none
  statics := none }

def pool6 : Array CpInfo := pool [(1, .class_ 2), (0, u "java/lang/constant/ConstantDesc"), (0, .class_ 4), (0, u "java/lang/Object")] 32

/-- java/lang/constant/ConstantDesc -/
def k6 : Class := { plain "java/lang/constant/ConstantDesc" (some 0) with
  accessFlags := 1537
  interfaces := #[]
  cf := some (fileOf pool6 1 #[] #[] 1537 3 #[] #[])
  fields := #[]
  methods := #[]
  instanceTypes := #[]
  staticTypes := #[]
  resolved := Array.replicate 37 none
  statics := none }

def pool7 : Array CpInfo := pool [(1, .methodref 2 3), (0, .class_ 4), (0, .nameAndType 5 6), (0, u "java/lang/Object"), (0, u "<init>"), (0, u "()V"), (0, .string 8), (0, u ""), (0, .fieldref 10 11), (0, .class_ 12), (0, .nameAndType 13 14), (0, u "java/lang/String"), (0, u "value"), (0, u "[B"), (0, .fieldref 10 16), (0, .nameAndType 17 18), (0, u "coder"), (0, u "B"), (2, u "hash"), (0, u "I"), (2, u "hashIsZero"), (0, u "Z"), (0, .methodref 10 28), (0, .nameAndType 5 29), (0, u "([CIILjava/lang/Void;)V"), (6, u "checkBoundsOffCount"), (0, u "(III)I"), (0, .fieldref 10 39), (0, .nameAndType 40 26), (0, u "COMPACT_STRINGS"), (1, .class_ 44), (1, u "java/lang/StringUTF16"), (0, u "compress"), (1, .methodref 42 48), (0, .nameAndType 49 50), (0, u "coderFromArrayLen"), (0, u "([BI)B"), (3, .methodref 55 56), (0, .class_ 57), (0, .nameAndType 58 59), (0, u "java/util/Arrays"), (0, u "copyOfRange"), (0, u "([BII)[B"), (47, .class_ 109), (1, u "java/lang/StringLatin1"), (32, u "()Z"), (34, .methodref 42 178), (0, .nameAndType 45 179), (0, u "([CII)[B"), (13, .class_ 195), (1, u "java/lang/System"), (16, .methodref 193 213), (0, .nameAndType 214 215), (0, u "arraycopy"), (0, u "(Ljava/lang/Object;ILjava/lang/Object;II)V"), (118, u "()I"), (0, .methodref 10 336), (0, .nameAndType 17 337), (0, u "()B"), (2, u "()[B"), (148, .methodref 10 490), (0, .nameAndType 5 491), (0, u "(Ljava/lang/AbstractStringBuilder;Ljava/lang/Void;)V"), (1, .nameAndType 494 142), (0, u "isLatin1"), (11, .nameAndType 507 334), (0, u "length"), (24, u "getBytes"), (8, .methodref 107 542), (0, .nameAndType 543 544), (0, u "equals"), (0, u "([B[B)Z"), (4, .methodref 550 506), (0, .class_ 551), (0, u "java/lang/AbstractStringBuilder"), (0, .methodref 550 553), (0, .nameAndType 554 340), (0, u "getValue"), (18, u "(Ljava/lang/Object;)Z"), (1, .class_ 576), (0, u "java/lang/CharSequence"), (22, u "CASE_INSENSITIVE_ORDER"), (0, u "Ljava/util/Comparator;"), (220, u "([BIB)V"), (188, u "([C)V"), (36, .methodref 550 493), (0, .fieldref 550 1049), (0, .nameAndType 1050 26), (0, u "maybeLatin1"), (2, .fieldref 1054 1055), (0, .class_ 1056), (0, .nameAndType 1057 1058), (0, u "jdk/internal/util/Preconditions"), (0, u "SIOOBE_FORMATTER"), (0, u "Ljava/util/function/BiFunction;"), (5, u "(IIILjava/util/function/BiFunction;)I"), (0, .methodref 1054 1066), (0, .nameAndType 1067 1064), (0, u "checkFromIndexSize"), (33, u "serialPersistentFields"), (0, u "[Ljava/io/ObjectStreamField;"), (0, .class_ 1104), (0, u "java/lang/String$CaseInsensitiveComparator"), (1, .class_ 1107), (0, u "java/io/Serializable"), (0, .class_ 1109), (0, u "java/lang/Comparable"), (0, .class_ 1111), (0, u "java/lang/constant/Constable"), (0, .class_ 1113), (0, u "java/lang/constant/ConstantDesc"), (2, u "serialVersionUID"), (0, u "J"), (3, u "REPL"), (0, u "C"), (2, u "LATIN1"), (1, u "UTF16"), (105, u "(Ljava/lang/StringBuilder;)V")] 217

def k7m0 : Method := { name := "<init>", desc := "()V", sig := { parameters := [], returnType := none }, accessFlags := 1, code := none }
def k7c1 : Code := { maxStack := 5, maxLocals := 2, code := jdk_42_method_3_code, exceptionTable := #[], attributes := #[] }
def k7m1 : Method := { name := "<init>", desc := "([C)V", sig := { parameters := [(.array .char)], returnType := none }, accessFlags := 1, code := some k7c1 }
def k7c2 : Code := { maxStack := 3, maxLocals := 2, code := jdk_42_method_53_code, exceptionTable := #[], attributes := #[] }
def k7m2 : Method := { name := "<init>", desc := "(Ljava/lang/StringBuilder;)V", sig := { parameters := [(.object "java/lang/StringBuilder")], returnType := none }, accessFlags := 1, code := some k7c2 }
def k7c3 : Code := { maxStack := 2, maxLocals := 1, code := jdk_42_method_54_code, exceptionTable := #[], attributes := #[] }
def k7m3 : Method := { name := "length", desc := "()I", sig := { parameters := [], returnType := some .int }, accessFlags := 1, code := some k7c3 }
def k7c4 : Code := { maxStack := 2, maxLocals := 3, code := jdk_42_method_66_code, exceptionTable := #[], attributes := #[] }
def k7m4 : Method := { name := "equals", desc := "(Ljava/lang/Object;)Z", sig := { parameters := [(.object "java/lang/Object")], returnType := some .boolean }, accessFlags := 1, code := some k7c4 }
def k7c5 : Code := { maxStack := 5, maxLocals := 4, code := jdk_42_method_147_code, exceptionTable := #[], attributes := #[] }
def k7m5 : Method := { name := "getBytes", desc := "([BIB)V", sig := { parameters := [(.array .byte), .int, .byte], returnType := none }, accessFlags := 0, code := some k7c5 }
def k7c6 : Code := { maxStack := 4, maxLocals := 6, code := jdk_42_method_149_code, exceptionTable := #[], attributes := #[] }
def k7m6 : Method := { name := "<init>", desc := "([CIILjava/lang/Void;)V", sig := { parameters := [(.array .char), .int, .int, (.object "java/lang/Void")], returnType := none }, accessFlags := 2, code := some k7c6 }
def k7c7 : Code := { maxStack := 5, maxLocals := 5, code := jdk_42_method_150_code, exceptionTable := #[], attributes := #[] }
def k7m7 : Method := { name := "<init>", desc := "(Ljava/lang/AbstractStringBuilder;Ljava/lang/Void;)V", sig := { parameters := [(.object "java/lang/AbstractStringBuilder"), (.object "java/lang/Void")], returnType := none }, accessFlags := 0, code := some k7c7 }
def k7c8 : Code := { maxStack := 1, maxLocals := 1, code := jdk_42_method_152_code, exceptionTable := #[], attributes := #[] }
def k7m8 : Method := { name := "coder", desc := "()B", sig := { parameters := [], returnType := some .byte }, accessFlags := 0, code := some k7c8 }
def k7c9 : Code := { maxStack := 4, maxLocals := 3, code := jdk_42_method_157_code, exceptionTable := #[], attributes := #[] }
def k7m9 : Method := { name := "checkBoundsOffCount", desc := "(III)I", sig := { parameters := [.int, .int, .int], returnType := some .int }, accessFlags := 8, code := some k7c9 }
/-- java/lang/String -/
def k7 : Class := { plain "java/lang/String" (some 0) with
  accessFlags := 49
  interfaces := #[2, 3, 4, 5, 6]
  cf := some (fileOf pool7 10 #[.nestMembers #[1103]] #[{ accessFlags := 1, nameIndex := 5, descriptorIndex := 6, attributes := #[] }, { accessFlags := 1, nameIndex := 5, descriptorIndex := 1010, attributes := #[] }, { accessFlags := 1, nameIndex := 5, descriptorIndex := 1233, attributes := #[] }, { accessFlags := 1, nameIndex := 507, descriptorIndex := 334, attributes := #[] }, { accessFlags := 1, nameIndex := 543, descriptorIndex := 573, attributes := #[] }, { accessFlags := 0, nameIndex := 532, descriptorIndex := 821, attributes := #[] }, { accessFlags := 2, nameIndex := 5, descriptorIndex := 29, attributes := #[] }, { accessFlags := 0, nameIndex := 5, descriptorIndex := 491, attributes := #[] }, { accessFlags := 0, nameIndex := 17, descriptorIndex := 337, attributes := #[] }, { accessFlags := 8, nameIndex := 36, descriptorIndex := 37, attributes := #[] }] 49 2 #[1106, 1108, 575, 1110, 1112] #[{ accessFlags := 18, nameIndex := 13, descriptorIndex := 14, attributes := #[] }, { accessFlags := 18, nameIndex := 17, descriptorIndex := 18, attributes := #[] }, { accessFlags := 2, nameIndex := 21, descriptorIndex := 22, attributes := #[] }, { accessFlags := 2, nameIndex := 25, descriptorIndex := 26, attributes := #[] }, { accessFlags := 26, nameIndex := 1116, descriptorIndex := 1117, attributes := #[] }, { accessFlags := 24, nameIndex := 40, descriptorIndex := 26, attributes := #[] }, { accessFlags := 26, nameIndex := 1101, descriptorIndex := 1102, attributes := #[] }, { accessFlags := 26, nameIndex := 1121, descriptorIndex := 1122, attributes := #[] }, { accessFlags := 25, nameIndex := 599, descriptorIndex := 600, attributes := #[] }, { accessFlags := 24, nameIndex := 1125, descriptorIndex := 18, attributes := #[] }, { accessFlags := 24, nameIndex := 1127, descriptorIndex := 18, attributes := #[] }])
  fields := #[{ name := "value", type := (.array .byte), accessFlags := 18, slot := 0, constantValue := 0 }, { name := "coder", type := .byte, accessFlags := 18, slot := 1, constantValue := 0 }, { name := "hash", type := .int, accessFlags := 2, slot := 2, constantValue := 0 }, { name := "hashIsZero", type := .boolean, accessFlags := 2, slot := 3, constantValue := 0 }, { name := "serialVersionUID", type := .long, accessFlags := 26, slot := 0, constantValue := 0 }, { name := "COMPACT_STRINGS", type := .boolean, accessFlags := 24, slot := 1, constantValue := 0 }, { name := "serialPersistentFields", type := (.array (.object "java/io/ObjectStreamField")), accessFlags := 26, slot := 2, constantValue := 0 }, { name := "REPL", type := .char, accessFlags := 26, slot := 3, constantValue := 0 }, { name := "CASE_INSENSITIVE_ORDER", type := (.object "java/util/Comparator"), accessFlags := 25, slot := 4, constantValue := 0 }, { name := "LATIN1", type := .byte, accessFlags := 24, slot := 5, constantValue := 0 }, { name := "UTF16", type := .byte, accessFlags := 24, slot := 6, constantValue := 0 }]
  methods := #[k7m0, k7m1, k7m2, k7m3, k7m4, k7m5, k7m6, k7m7, k7m8, k7m9]
  instanceTypes := #[(.array .byte), .byte, .int, .boolean]
  staticTypes := #[.long, .boolean, (.array (.object "java/io/ObjectStreamField")), .char, (.object "java/util/Comparator"), .byte, .byte]
  resolved := Array.replicate 1451 none
  statics := some 0 }

def pool8 : Array CpInfo := pool [(3, .class_ 4), (0, u "java/lang/String"), (1, .class_ 8), (1, u "java/lang/Object"), (0, u "<init>"), (0, u "()V"), (0, .methodref 12 13), (0, .class_ 14), (0, .nameAndType 15 16), (0, u "java/lang/StringUTF16"), (0, u "newBytesLength"), (0, u "(I)I"), (3, .integer 1073741823), (23, .fieldref 12 45), (0, .nameAndType 46 47), (0, u "$assertionsDisabled"), (0, u "Z"), (0, .methodref 12 49), (0, .nameAndType 50 51), (0, u "length"), (0, u "([B)I"), (7, .fieldref 12 60), (0, .nameAndType 61 62), (0, u "HI_BYTE_SHIFT"), (0, u "I"), (0, .fieldref 12 64), (0, .nameAndType 65 62), (0, u "LO_BYTE_SHIFT"), (5, .methodref 12 72), (0, .nameAndType 73 74), (0, u "getChar"), (0, u "([BI)C"), (24, u "(II[B)V"), (7, .methodref 12 108), (0, .nameAndType 109 110), (0, u "newBytesFor"), (0, u "(I)[B"), (0, .methodref 12 112), (0, .nameAndType 113 114), (0, u "putChar"), (0, u "([BII)V"), (0, .methodref 12 116), (0, .nameAndType 117 118), (0, u "compress"), (0, u "([CI[BII)I"), (0, .methodref 12 120), (0, .nameAndType 121 122), (0, u "toBytes"), (0, u "([CII)[B"), (17, u "inflate"), (0, u "([BI[BII)V"), (31, .methodref 12 174), (0, .nameAndType 175 99), (0, u "checkBoundsOffCount"), (85, u "coderFromArrayLen"), (0, u "([BI)B"), (18, u "(III)I"), (87, .class_ 371), (1, u "java/lang/StringUTF16$LinesSpliterator"), (47, .methodref 3 420), (0, .nameAndType 175 281), (9, u "MAX_LENGTH"), (196, .class_ 628), (0, u "java/lang/StringUTF16$CodePointsSpliterator"), (0, .class_ 630), (0, u "java/lang/StringUTF16$CharsSpliterator")] 4

def k8m0 : Method := { name := "<init>", desc := "()V", sig := { parameters := [], returnType := none }, accessFlags := 0, code := none }
def k8c1 : Code := { maxStack := 1, maxLocals := 1, code := jdk_52_method_2_code, exceptionTable := #[], attributes := #[] }
def k8m1 : Method := { name := "newBytesFor", desc := "(I)[B", sig := { parameters := [.int], returnType := some (.array .byte) }, accessFlags := 9, code := some k8c1 }
def k8c2 : Code := { maxStack := 4, maxLocals := 1, code := jdk_52_method_3_code, exceptionTable := #[], attributes := #[] }
def k8m2 : Method := { name := "newBytesLength", desc := "(I)I", sig := { parameters := [.int], returnType := some .int }, accessFlags := 9, code := some k8c2 }
def k8c3 : Code := { maxStack := 4, maxLocals := 3, code := jdk_52_method_4_code, exceptionTable := #[], attributes := #[] }
def k8m3 : Method := { name := "putChar", desc := "([BII)V", sig := { parameters := [(.array .byte), .int, .int], returnType := none }, accessFlags := 8, code := some k8c3 }
def k8c4 : Code := { maxStack := 3, maxLocals := 2, code := jdk_52_method_5_code, exceptionTable := #[], attributes := #[] }
def k8m4 : Method := { name := "getChar", desc := "([BI)C", sig := { parameters := [(.array .byte), .int], returnType := some .char }, accessFlags := 8, code := some k8c4 }
def k8c5 : Code := { maxStack := 2, maxLocals := 1, code := jdk_52_method_6_code, exceptionTable := #[], attributes := #[] }
def k8m5 : Method := { name := "length", desc := "([B)I", sig := { parameters := [(.array .byte)], returnType := some .int }, accessFlags := 9, code := some k8c5 }
def k8c6 : Code := { maxStack := 4, maxLocals := 5, code := jdk_52_method_14_code, exceptionTable := #[], attributes := #[] }
def k8m6 : Method := { name := "toBytes", desc := "([CII)[B", sig := { parameters := [(.array .char), .int, .int], returnType := some (.array .byte) }, accessFlags := 9, code := some k8c6 }
def k8c7 : Code := { maxStack := 2, maxLocals := 2, code := jdk_52_method_15_code, exceptionTable := #[], attributes := #[] }
def k8m7 : Method := { name := "coderFromArrayLen", desc := "([BI)B", sig := { parameters := [(.array .byte), .int], returnType := some .byte }, accessFlags := 8, code := some k8c7 }
def k8c8 : Code := { maxStack := 5, maxLocals := 6, code := jdk_52_method_16_code, exceptionTable := #[], attributes := #[] }
def k8m8 : Method := { name := "compress", desc := "([CII)[B", sig := { parameters := [(.array .char), .int, .int], returnType := some (.array .byte) }, accessFlags := 9, code := some k8c8 }
def k8c9 : Code := { maxStack := 3, maxLocals := 7, code := jdk_52_method_21_code, exceptionTable := #[], attributes := #[] }
def k8m9 : Method := { name := "compress", desc := "([CI[BII)I", sig := { parameters := [(.array .char), .int, (.array .byte), .int, .int], returnType := some .int }, accessFlags := 9, code := some k8c9 }
def k8c10 : Code := { maxStack := 4, maxLocals := 6, code := jdk_52_method_86_code, exceptionTable := #[], attributes := #[] }
def k8m10 : Method := { name := "inflate", desc := "([BI[BII)V", sig := { parameters := [(.array .byte), .int, (.array .byte), .int, .int], returnType := none }, accessFlags := 9, code := some k8c10 }
def k8c11 : Code := { maxStack := 3, maxLocals := 3, code := jdk_52_method_94_code, exceptionTable := #[], attributes := #[] }
def k8m11 : Method := { name := "checkBoundsOffCount", desc := "(II[B)V", sig := { parameters := [.int, .int, (.array .byte)], returnType := none }, accessFlags := 9, code := some k8c11 }
/-- java/lang/StringUTF16 -/
def k8 : Class := { plain "java/lang/StringUTF16" (some 0) with
  accessFlags := 48
  interfaces := #[]
  cf := some (fileOf pool8 12 #[.nestMembers #[627, 629, 369]] #[{ accessFlags := 0, nameIndex := 9, descriptorIndex := 10, attributes := #[] }, { accessFlags := 9, nameIndex := 109, descriptorIndex := 110, attributes := #[] }, { accessFlags := 9, nameIndex := 15, descriptorIndex := 16, attributes := #[] }, { accessFlags := 8, nameIndex := 113, descriptorIndex := 114, attributes := #[] }, { accessFlags := 8, nameIndex := 73, descriptorIndex := 74, attributes := #[] }, { accessFlags := 9, nameIndex := 50, descriptorIndex := 51, attributes := #[] }, { accessFlags := 9, nameIndex := 121, descriptorIndex := 122, attributes := #[] }, { accessFlags := 8, nameIndex := 261, descriptorIndex := 262, attributes := #[] }, { accessFlags := 9, nameIndex := 117, descriptorIndex := 122, attributes := #[] }, { accessFlags := 9, nameIndex := 117, descriptorIndex := 118, attributes := #[] }, { accessFlags := 9, nameIndex := 140, descriptorIndex := 141, attributes := #[] }, { accessFlags := 9, nameIndex := 175, descriptorIndex := 99, attributes := #[] }] 48 6 #[] #[{ accessFlags := 26, nameIndex := 61, descriptorIndex := 62, attributes := #[] }, { accessFlags := 26, nameIndex := 65, descriptorIndex := 62, attributes := #[] }, { accessFlags := 24, nameIndex := 430, descriptorIndex := 62, attributes := #[] }, { accessFlags := 4120, nameIndex := 46, descriptorIndex := 47, attributes := #[] }])
  fields := #[{ name := "HI_BYTE_SHIFT", type := .int, accessFlags := 26, slot := 0, constantValue := 0 }, { name := "LO_BYTE_SHIFT", type := .int, accessFlags := 26, slot := 1, constantValue := 0 }, { name := "MAX_LENGTH", type := .int, accessFlags := 24, slot := 2, constantValue := 0 }, { name := "$assertionsDisabled", type := .boolean, accessFlags := 4120, slot := 3, constantValue := 0 }]
  methods := #[k8m0, k8m1, k8m2, k8m3, k8m4, k8m5, k8m6, k8m7, k8m8, k8m9, k8m10, k8m11]
  instanceTypes := #[]
  staticTypes := #[.int, .int, .int, .boolean]
  resolved := Array.replicate 635 none
  statics := some 1 }

def pool9 : Array CpInfo := pool [(2, .class_ 4), (0, .nameAndType 5 6), (0, u "java/lang/Object"), (0, u "<init>"), (0, u "()V"), (1, .class_ 10), (1, u "com/example/cohortwise/cohortwise/cli/Arguments"), (0, u "values"), (0, u "Ljava/util/Map;"), (2, u "flags"), (0, u "Ljava/util/Set;"), (38, u "(Ljava/lang/String;)Lcom/example/cohortwise/cohortwise/cli/InputRefusedException;"), (6, .class_ 63), (0, u "com/example/cohortwise/cohortwise/cli/InputRefusedException"), (0, .class_ 65), (0, u "java/lang/StringBuilder"), (0, .methodref 64 3), (2, .methodref 64 70), (0, .nameAndType 71 72), (0, u "append"), (0, u "(Ljava/lang/String;)Ljava/lang/StringBuilder;"), (6, .methodref 64 80), (0, .nameAndType 81 82), (0, u "toString"), (0, u "()Ljava/lang/String;"), (0, .methodref 62 84), (0, .nameAndType 5 85), (0, u "(Ljava/lang/String;)V"), (56, .string 143), (0, u "missing option "), (5, u "missingOption"), (3, u "OPTION_PREFIX"), (0, u "Ljava/lang/String;")] 42

def k9c0 : Code := { maxStack := 4, maxLocals := 1, code := prog_1_method_5_code, exceptionTable := #[], attributes := #[] }
def k9m0 : Method := { name := "missingOption", desc := "(Ljava/lang/String;)Lcom/example/cohortwise/cohortwise/cli/InputRefusedException;", sig := { parameters := [(.object "java/lang/String")], returnType := some (.object "com/example/cohortwise/cohortwise/cli/InputRefusedException") }, accessFlags := 8, code := some k9c0 }
/-- com/example/cohortwise/cohortwise/cli/Arguments -/
def k9 : Class := { plain "com/example/cohortwise/cohortwise/cli/Arguments" (some 0) with
  accessFlags := 48
  interfaces := #[]
  cf := some (fileOf pool9 8 #[] #[{ accessFlags := 8, nameIndex := 149, descriptorIndex := 55, attributes := #[] }] 48 2 #[] #[{ accessFlags := 26, nameIndex := 153, descriptorIndex := 154, attributes := #[] }, { accessFlags := 18, nameIndex := 11, descriptorIndex := 12, attributes := #[] }, { accessFlags := 18, nameIndex := 15, descriptorIndex := 16, attributes := #[] }])
  fields := #[{ name := "OPTION_PREFIX", type := (.object "java/lang/String"), accessFlags := 26, slot := 0, constantValue := 0 }, { name := "values", type := (.object "java/util/Map"), accessFlags := 18, slot := 0, constantValue := 0 }, { name := "flags", type := (.object "java/util/Set"), accessFlags := 18, slot := 1, constantValue := 0 }]
  methods := #[k9m0]
  instanceTypes := #[(.object "java/util/Map"), (.object "java/util/Set")]
  staticTypes := #[(.object "java/lang/String")]
  resolved := Array.replicate 197 none
  statics := none }

def pool10 : Array CpInfo := pool [(1, .methodref 2 3), (0, .class_ 4), (0, .nameAndType 5 6), (0, u "java/lang/Object"), (0, u "<init>"), (0, u "()V"), (0, .fieldref 8 9), (0, .class_ 10), (0, .nameAndType 11 12), (0, u "java/lang/Throwable"), (0, u "cause"), (0, u "Ljava/lang/Throwable;"), (0, .fieldref 8 14), (0, .nameAndType 15 16), (0, u "UNASSIGNED_STACK"), (0, u "[Ljava/lang/StackTraceElement;"), (0, .fieldref 8 18), (0, .nameAndType 19 16), (0, u "stackTrace"), (0, .fieldref 8 21), (0, .nameAndType 22 23), (0, u "SUPPRESSED_SENTINEL"), (0, u "Ljava/util/List;"), (0, .fieldref 8 25), (0, .nameAndType 26 23), (0, u "suppressedExceptions"), (0, .methodref 8 28), (0, .nameAndType 29 30), (0, u "fillInStackTrace"), (0, u "()Ljava/lang/Throwable;"), (0, .fieldref 8 32), (0, .nameAndType 33 34), (0, u "detailMessage"), (0, u "Ljava/lang/String;"), (3, u "()Ljava/lang/String;"), (2, u "getMessage"), (51, .class_ 94), (0, u "java/lang/Throwable$WrappedPrintStream"), (6, .class_ 103), (1, u "java/lang/Throwable$PrintStreamOrWriter"), (61, u "$assertionsDisabled"), (0, u "Z"), (26, .class_ 194), (0, u "java/lang/Throwable$WrappedPrintWriter"), (3, .fieldref 8 199), (0, .nameAndType 200 201), (0, u "backtrace"), (0, u "Ljava/lang/Object;"), (0, .methodref 8 203), (0, .nameAndType 29 204), (0, u "(I)Ljava/lang/Throwable;"), (6, u "depth"), (0, u "I"), (10, u "(Ljava/lang/String;)V"), (45, .class_ 271), (1, u "java/lang/Throwable$SentinelHolder"), (32, u "EMPTY_THROWABLE_ARRAY"), (0, u "[Ljava/lang/Throwable;"), (12, .class_ 319), (0, u "java/io/Serializable"), (0, u "serialVersionUID"), (0, u "J"), (5, u "NULL_CAUSE_MESSAGE"), (0, u "SELF_SUPPRESSION_MESSAGE"), (0, u "CAUSE_CAPTION"), (0, u "SUPPRESSED_CAPTION")] 73

def k10c0 : Code := { maxStack := 2, maxLocals := 1, code := jdk_78_method_1_code, exceptionTable := #[], attributes := #[] }
def k10m0 : Method := { name := "<init>", desc := "()V", sig := { parameters := [], returnType := none }, accessFlags := 1, code := some k10c0 }
def k10c1 : Code := { maxStack := 2, maxLocals := 2, code := jdk_78_method_2_code, exceptionTable := #[], attributes := #[] }
def k10m1 : Method := { name := "<init>", desc := "(Ljava/lang/String;)V", sig := { parameters := [(.object "java/lang/String")], returnType := none }, accessFlags := 1, code := some k10c1 }
def k10c2 : Code := { maxStack := 1, maxLocals := 1, code := jdk_78_method_6_code, exceptionTable := #[], attributes := #[] }
def k10m2 : Method := { name := "getMessage", desc := "()Ljava/lang/String;", sig := { parameters := [], returnType := some (.object "java/lang/String") }, accessFlags := 1, code := some k10c2 }
def k10c3 : Code := { maxStack := 2, maxLocals := 1, code := ⟨#[0x2a, 0xb4, 0x00, 0x11, 0xc7, 0x00, 0x0a, 0x2a, 0xb4, 0x00, 0xc6, 0xc6, 0x00, 0x10, 0x2a, 0x03, 0xb6, 0x00, 0xca, 0x57, 0x2a, 0xb2, 0x00, 0x0d, 0xb5, 0x00, 0x11, 0x2a, 0xb0]⟩, exceptionTable := #[], attributes := #[] }
def k10m3 : Method := { name := "fillInStackTrace", desc := "()Ljava/lang/Throwable;", sig := { parameters := [], returnType := some (.object "java/lang/Throwable") }, accessFlags := 33, code := some k10c3 }
def k10m4 : Method := { name := "fillInStackTrace", desc := "(I)Ljava/lang/Throwable;", sig := { parameters := [.int], returnType := some (.object "java/lang/Throwable") }, accessFlags := 258, code := none }
/-- java/lang/Throwable -/
def k10 : Class := { plain "java/lang/Throwable" (some 0) with
  accessFlags := 33
  interfaces := #[2]
  cf := some (fileOf pool10 8 #[.nestMembers #[193, 93, 101, 269]] #[{ accessFlags := 1, nameIndex := 5, descriptorIndex := 6, attributes := #[] }, { accessFlags := 1, nameIndex := 5, descriptorIndex := 223, attributes := #[] }, { accessFlags := 1, nameIndex := 41, descriptorIndex := 38, attributes := #[] }, { accessFlags := 33, nameIndex := 29, descriptorIndex := 30, attributes := #[] }, { accessFlags := 258, nameIndex := 29, descriptorIndex := 204, attributes := #[] }] 33 2 #[318] #[{ accessFlags := 26, nameIndex := 320, descriptorIndex := 321, attributes := #[] }, { accessFlags := 130, nameIndex := 200, descriptorIndex := 201, attributes := #[] }, { accessFlags := 2, nameIndex := 33, descriptorIndex := 34, attributes := #[] }, { accessFlags := 26, nameIndex := 15, descriptorIndex := 16, attributes := #[] }, { accessFlags := 2, nameIndex := 11, descriptorIndex := 12, attributes := #[] }, { accessFlags := 2, nameIndex := 19, descriptorIndex := 16, attributes := #[] }, { accessFlags := 130, nameIndex := 211, descriptorIndex := 212, attributes := #[] }, { accessFlags := 26, nameIndex := 22, descriptorIndex := 23, attributes := #[] }, { accessFlags := 2, nameIndex := 26, descriptorIndex := 23, attributes := #[] }, { accessFlags := 26, nameIndex := 327, descriptorIndex := 34, attributes := #[] }, { accessFlags := 26, nameIndex := 328, descriptorIndex := 34, attributes := #[] }, { accessFlags := 26, nameIndex := 329, descriptorIndex := 34, attributes := #[] }, { accessFlags := 26, nameIndex := 330, descriptorIndex := 34, attributes := #[] }, { accessFlags := 26, nameIndex := 304, descriptorIndex := 305, attributes := #[] }, { accessFlags := 4120, nameIndex := 165, descriptorIndex := 166, attributes := #[] }])
  fields := #[{ name := "serialVersionUID", type := .long, accessFlags := 26, slot := 0, constantValue := 0 }, { name := "backtrace", type := (.object "java/lang/Object"), accessFlags := 130, slot := 0, constantValue := 0 }, { name := "detailMessage", type := (.object "java/lang/String"), accessFlags := 2, slot := 1, constantValue := 0 }, { name := "UNASSIGNED_STACK", type := (.array (.object "java/lang/StackTraceElement")), accessFlags := 26, slot := 1, constantValue := 0 }, { name := "cause", type := (.object "java/lang/Throwable"), accessFlags := 2, slot := 2, constantValue := 0 }, { name := "stackTrace", type := (.array (.object "java/lang/StackTraceElement")), accessFlags := 2, slot := 3, constantValue := 0 }, { name := "depth", type := .int, accessFlags := 130, slot := 4, constantValue := 0 }, { name := "SUPPRESSED_SENTINEL", type := (.object "java/util/List"), accessFlags := 26, slot := 2, constantValue := 0 }, { name := "suppressedExceptions", type := (.object "java/util/List"), accessFlags := 2, slot := 5, constantValue := 0 }, { name := "NULL_CAUSE_MESSAGE", type := (.object "java/lang/String"), accessFlags := 26, slot := 3, constantValue := 0 }, { name := "SELF_SUPPRESSION_MESSAGE", type := (.object "java/lang/String"), accessFlags := 26, slot := 4, constantValue := 0 }, { name := "CAUSE_CAPTION", type := (.object "java/lang/String"), accessFlags := 26, slot := 5, constantValue := 0 }, { name := "SUPPRESSED_CAPTION", type := (.object "java/lang/String"), accessFlags := 26, slot := 6, constantValue := 0 }, { name := "EMPTY_THROWABLE_ARRAY", type := (.array (.object "java/lang/Throwable")), accessFlags := 26, slot := 7, constantValue := 0 }, { name := "$assertionsDisabled", type := .boolean, accessFlags := 4120, slot := 8, constantValue := 0 }]
  methods := #[k10m0, k10m1, k10m2, k10m3, k10m4]
  instanceTypes := #[(.object "java/lang/Object"), (.object "java/lang/String"), (.object "java/lang/Throwable"), (.array (.object "java/lang/StackTraceElement")), .int, (.object "java/util/List")]
  staticTypes := #[.long, (.array (.object "java/lang/StackTraceElement")), (.object "java/util/List"), (.object "java/lang/String"), (.object "java/lang/String"), (.object "java/lang/String"), (.object "java/lang/String"), (.array (.object "java/lang/Throwable")), .boolean]
  resolved := Array.replicate 404 none
  statics := some 2 }

def pool11 : Array CpInfo := pool [(2, .class_ 4), (1, u "java/lang/Throwable"), (0, u "<init>"), (0, u "()V"), (0, .methodref 2 8), (0, .nameAndType 5 9), (0, u "(Ljava/lang/String;)V"), (9, .class_ 20), (0, u "java/lang/Exception"), (0, u "serialVersionUID"), (0, u "J")] 17

def k11m0 : Method := { name := "<init>", desc := "()V", sig := { parameters := [], returnType := none }, accessFlags := 1, code := none }
def k11c1 : Code := { maxStack := 2, maxLocals := 2, code := jdk_59_method_2_code, exceptionTable := #[], attributes := #[] }
def k11m1 : Method := { name := "<init>", desc := "(Ljava/lang/String;)V", sig := { parameters := [(.object "java/lang/String")], returnType := none }, accessFlags := 1, code := some k11c1 }
/-- java/lang/Exception -/
def k11 : Class := { plain "java/lang/Exception" (some 10) with
  accessFlags := 33
  interfaces := #[]
  cf := some (fileOf pool11 19 #[] #[{ accessFlags := 1, nameIndex := 5, descriptorIndex := 6, attributes := #[] }, { accessFlags := 1, nameIndex := 5, descriptorIndex := 9, attributes := #[] }] 33 2 #[] #[{ accessFlags := 24, nameIndex := 21, descriptorIndex := 22, attributes := #[] }])
  fields := #[{ name := "serialVersionUID", type := .long, accessFlags := 24, slot := 0, constantValue := 0 }]
  methods := #[k11m0, k11m1]
  instanceTypes := #[(.object "java/lang/Object"), (.object "java/lang/String"), (.object "java/lang/Throwable"), (.array (.object "java/lang/StackTraceElement")), .int, (.object "java/util/List")]
  staticTypes := #[.long]
  resolved := Array.replicate 40 none
  statics := none }

def pool12 : Array CpInfo := pool [(2, .class_ 4), (1, u "java/lang/Exception"), (0, u "<init>"), (0, u "()V"), (0, .methodref 2 8), (0, .nameAndType 5 9), (0, u "(Ljava/lang/String;)V"), (9, .class_ 20), (0, u "java/lang/RuntimeException"), (0, u "serialVersionUID"), (0, u "J")] 17

def k12m0 : Method := { name := "<init>", desc := "()V", sig := { parameters := [], returnType := none }, accessFlags := 1, code := none }
def k12c1 : Code := { maxStack := 2, maxLocals := 2, code := jdk_58_method_2_code, exceptionTable := #[], attributes := #[] }
def k12m1 : Method := { name := "<init>", desc := "(Ljava/lang/String;)V", sig := { parameters := [(.object "java/lang/String")], returnType := none }, accessFlags := 1, code := some k12c1 }
/-- java/lang/RuntimeException -/
def k12 : Class := { plain "java/lang/RuntimeException" (some 11) with
  accessFlags := 33
  interfaces := #[]
  cf := some (fileOf pool12 19 #[] #[{ accessFlags := 1, nameIndex := 5, descriptorIndex := 6, attributes := #[] }, { accessFlags := 1, nameIndex := 5, descriptorIndex := 9, attributes := #[] }] 33 2 #[] #[{ accessFlags := 24, nameIndex := 21, descriptorIndex := 22, attributes := #[] }])
  fields := #[{ name := "serialVersionUID", type := .long, accessFlags := 24, slot := 0, constantValue := 0 }]
  methods := #[k12m0, k12m1]
  instanceTypes := #[(.object "java/lang/Object"), (.object "java/lang/String"), (.object "java/lang/Throwable"), (.array (.object "java/lang/StackTraceElement")), .int, (.object "java/util/List")]
  staticTypes := #[.long]
  resolved := Array.replicate 40 none
  statics := none }

def pool13 : Array CpInfo := pool [(1, .methodref 2 3), (0, .class_ 4), (0, .nameAndType 5 6), (0, u "java/lang/RuntimeException"), (0, u "<init>"), (0, u "(Ljava/lang/String;)V"), (0, .class_ 8), (0, u "com/example/cohortwise/cohortwise/cli/InputRefusedException"), (0, u "serialVersionUID"), (0, u "J")] 7

def k13c0 : Code := { maxStack := 2, maxLocals := 2, code := prog_6_method_1_code, exceptionTable := #[], attributes := #[] }
def k13m0 : Method := { name := "<init>", desc := "(Ljava/lang/String;)V", sig := { parameters := [(.object "java/lang/String")], returnType := none }, accessFlags := 1, code := some k13c0 }
/-- com/example/cohortwise/cohortwise/cli/InputRefusedException -/
def k13 : Class := { plain "com/example/cohortwise/cohortwise/cli/InputRefusedException" (some 12) with
  accessFlags := 33
  interfaces := #[]
  cf := some (fileOf pool13 7 #[] #[{ accessFlags := 1, nameIndex := 5, descriptorIndex := 6, attributes := #[] }] 33 2 #[] #[{ accessFlags := 26, nameIndex := 9, descriptorIndex := 10, attributes := #[] }])
  fields := #[{ name := "serialVersionUID", type := .long, accessFlags := 26, slot := 0, constantValue := 0 }]
  methods := #[k13m0]
  instanceTypes := #[(.object "java/lang/Object"), (.object "java/lang/String"), (.object "java/lang/Throwable"), (.array (.object "java/lang/StackTraceElement")), .int, (.object "java/util/List")]
  staticTypes := #[.long]
  resolved := Array.replicate 18 none
  statics := none }

def pool14 : Array CpInfo := pool [(1, .class_ 2), (0, u "java/lang/Appendable"), (0, .class_ 4), (0, u "java/lang/Object")] 9

/-- java/lang/Appendable -/
def k14 : Class := { plain "java/lang/Appendable" (some 0) with
  accessFlags := 1537
  interfaces := #[]
  cf := some (fileOf pool14 1 #[] #[] 1537 3 #[] #[])
  fields := #[]
  methods := #[]
  instanceTypes := #[]
  staticTypes := #[]
  resolved := Array.replicate 14 none
  statics := none }

def pool15 : Array CpInfo := pool [(1, .class_ 2), (0, u "java/lang/String"), (0, .methodref 4 5), (0, .class_ 6), (0, .nameAndType 7 8), (0, u "java/lang/Object"), (0, u "<init>"), (0, u "()V"), (1, .class_ 12), (1, u "java/lang/AbstractStringBuilder"), (0, u "EMPTYVALUE"), (0, u "[B"), (0, .fieldref 10 16), (0, .nameAndType 17 14), (0, u "value"), (0, .fieldref 1 19), (0, .nameAndType 20 21), (0, u "COMPACT_STRINGS"), (0, u "Z"), (0, .fieldref 10 23), (0, .nameAndType 24 25), (0, u "coder"), (0, u "B"), (0, .methodref 27 28), (0, .class_ 29), (0, .nameAndType 30 31), (0, u "java/lang/StringUTF16"), (0, u "newBytesFor"), (0, u "(I)[B"), (0, .methodref 1 33), (0, .nameAndType 34 35), (0, u "length"), (0, u "()I"), (3, .integer 2147483647), (0, .methodref 1 41), (0, .nameAndType 24 42), (0, u "()B"), (2, u "append"), (0, u "(Ljava/lang/String;)Ljava/lang/AbstractStringBuilder;"), (1, .class_ 49), (0, u "java/lang/CharSequence"), (19, u "(Ljava/lang/String;)V"), (5, u "maybeLatin1"), (3, .fieldref 10 80), (0, .nameAndType 81 82), (0, u "count"), (0, u "I"), (0, .methodref 10 84), (0, .nameAndType 85 86), (0, u "isLatin1"), (0, u "()Z"), (1, .class_ 90), (1, u "java/lang/StringLatin1"), (9, .methodref 10 101), (0, .nameAndType 102 103), (0, u "ensureCapacityInternal"), (0, u "(I)V"), (0, .methodref 10 105), (0, .nameAndType 106 107), (0, u "newCapacity"), (0, u "(I)I"), (0, .methodref 109 110), (0, .class_ 111), (0, .nameAndType 112 113), (0, u "java/util/Arrays"), (0, u "copyOf"), (0, u "([BI)[B"), (0, .methodref 115 116), (0, .class_ 117), (0, .nameAndType 118 119), (0, u "jdk/internal/util/ArraysSupport"), (0, u "newLength"), (0, u "(III)I"), (5, .methodref 88 126), (0, .nameAndType 127 128), (0, u "inflate"), (0, u "([BI[BII)V"), (66, .methodref 10 196), (0, .nameAndType 127 8), (11, .methodref 10 209), (0, .nameAndType 210 211), (0, u "putStringAt"), (0, u "(ILjava/lang/String;)V"), (5, u "inflateIfNeededFor"), (2, .nameAndType 221 222), (0, u "getBytes"), (0, u "([BIB)V"), (174, .methodref 10 398), (0, .nameAndType 217 69), (0, .methodref 1 220), (3, u "()[B"), (40, .class_ 445), (0, u "java/lang/Appendable"), (106, u "getValue")] 56

def k15m0 : Method := { name := "<init>", desc := "()V", sig := { parameters := [], returnType := none }, accessFlags := 0, code := none }
def k15c1 : Code := { maxStack := 2, maxLocals := 2, code := jdk_68_method_2_code, exceptionTable := #[], attributes := #[] }
def k15m1 : Method := { name := "<init>", desc := "(I)V", sig := { parameters := [.int], returnType := none }, accessFlags := 0, code := some k15c1 }
def k15c2 : Code := { maxStack := 1, maxLocals := 1, code := jdk_68_method_6_code, exceptionTable := #[], attributes := #[] }
def k15m2 : Method := { name := "length", desc := "()I", sig := { parameters := [], returnType := some .int }, accessFlags := 1, code := some k15c2 }
def k15c3 : Code := { maxStack := 4, maxLocals := 3, code := jdk_68_method_9_code, exceptionTable := #[], attributes := #[] }
def k15m3 : Method := { name := "ensureCapacityInternal", desc := "(I)V", sig := { parameters := [.int], returnType := none }, accessFlags := 2, code := some k15c3 }
def k15c4 : Code := { maxStack := 5, maxLocals := 6, code := jdk_68_method_10_code, exceptionTable := #[], attributes := #[] }
def k15m4 : Method := { name := "newCapacity", desc := "(I)I", sig := { parameters := [.int], returnType := some .int }, accessFlags := 2, code := some k15c4 }
def k15c5 : Code := { maxStack := 5, maxLocals := 2, code := jdk_68_method_11_code, exceptionTable := #[], attributes := #[] }
def k15m5 : Method := { name := "inflate", desc := "()V", sig := { parameters := [], returnType := none }, accessFlags := 2, code := some k15c5 }
def k15c6 : Code := { maxStack := 3, maxLocals := 3, code := jdk_68_method_22_code, exceptionTable := #[], attributes := #[] }
def k15m6 : Method := { name := "append", desc := "(Ljava/lang/String;)Ljava/lang/AbstractStringBuilder;", sig := { parameters := [(.object "java/lang/String")], returnType := some (.object "java/lang/AbstractStringBuilder") }, accessFlags := 1, code := some k15c6 }
def k15c7 : Code := { maxStack := 1, maxLocals := 1, code := jdk_68_method_64_code, exceptionTable := #[], attributes := #[] }
def k15m7 : Method := { name := "getValue", desc := "()[B", sig := { parameters := [], returnType := some (.array .byte) }, accessFlags := 16, code := some k15c7 }
def k15c8 : Code := { maxStack := 1, maxLocals := 1, code := jdk_68_method_68_code, exceptionTable := #[], attributes := #[] }
def k15m8 : Method := { name := "isLatin1", desc := "()Z", sig := { parameters := [], returnType := some .boolean }, accessFlags := 16, code := some k15c8 }
def k15c9 : Code := { maxStack := 2, maxLocals := 2, code := jdk_68_method_71_code, exceptionTable := #[], attributes := #[] }
def k15m9 : Method := { name := "inflateIfNeededFor", desc := "(Ljava/lang/String;)V", sig := { parameters := [(.object "java/lang/String")], returnType := none }, accessFlags := 2, code := some k15c9 }
def k15c10 : Code := { maxStack := 4, maxLocals := 3, code := jdk_68_method_73_code, exceptionTable := #[], attributes := #[] }
def k15m10 : Method := { name := "putStringAt", desc := "(ILjava/lang/String;)V", sig := { parameters := [.int, (.object "java/lang/String")], returnType := none }, accessFlags := 2, code := some k15c10 }
/-- java/lang/AbstractStringBuilder -/
def k15 : Class := { plain "java/lang/AbstractStringBuilder" (some 0) with
  accessFlags := 1056
  interfaces := #[14, 4]
  cf := some (fileOf pool15 10 #[] #[{ accessFlags := 0, nameIndex := 7, descriptorIndex := 8, attributes := #[] }, { accessFlags := 0, nameIndex := 7, descriptorIndex := 103, attributes := #[] }, { accessFlags := 1, nameIndex := 34, descriptorIndex := 35, attributes := #[] }, { accessFlags := 2, nameIndex := 102, descriptorIndex := 103, attributes := #[] }, { accessFlags := 2, nameIndex := 106, descriptorIndex := 107, attributes := #[] }, { accessFlags := 2, nameIndex := 127, descriptorIndex := 8, attributes := #[] }, { accessFlags := 1, nameIndex := 45, descriptorIndex := 46, attributes := #[] }, { accessFlags := 16, nameIndex := 552, descriptorIndex := 403, attributes := #[] }, { accessFlags := 16, nameIndex := 85, descriptorIndex := 86, attributes := #[] }, { accessFlags := 2, nameIndex := 217, descriptorIndex := 69, attributes := #[] }, { accessFlags := 2, nameIndex := 210, descriptorIndex := 211, attributes := #[] }] 1056 4 #[444, 48] #[{ accessFlags := 0, nameIndex := 17, descriptorIndex := 14, attributes := #[] }, { accessFlags := 0, nameIndex := 24, descriptorIndex := 25, attributes := #[] }, { accessFlags := 0, nameIndex := 75, descriptorIndex := 21, attributes := #[] }, { accessFlags := 0, nameIndex := 81, descriptorIndex := 82, attributes := #[] }, { accessFlags := 26, nameIndex := 13, descriptorIndex := 14, attributes := #[] }])
  fields := #[{ name := "value", type := (.array .byte), accessFlags := 0, slot := 0, constantValue := 0 }, { name := "coder", type := .byte, accessFlags := 0, slot := 1, constantValue := 0 }, { name := "maybeLatin1", type := .boolean, accessFlags := 0, slot := 2, constantValue := 0 }, { name := "count", type := .int, accessFlags := 0, slot := 3, constantValue := 0 }, { name := "EMPTYVALUE", type := (.array .byte), accessFlags := 26, slot := 0, constantValue := 0 }]
  methods := #[k15m0, k15m1, k15m2, k15m3, k15m4, k15m5, k15m6, k15m7, k15m8, k15m9, k15m10]
  instanceTypes := #[(.array .byte), .byte, .boolean, .int]
  staticTypes := #[(.array .byte)]
  resolved := Array.replicate 609 none
  statics := none }

def pool16 : Array CpInfo := pool [(1, .methodref 2 3), (0, .class_ 4), (0, .nameAndType 5 6), (0, u "java/lang/AbstractStringBuilder"), (0, u "<init>"), (0, u "(I)V"), (11, .class_ 20), (1, u "java/lang/String"), (3, .class_ 26), (1, u "java/lang/StringBuilder"), (0, u "append"), (0, u "(Ljava/lang/String;)Ljava/lang/StringBuilder;"), (0, .methodref 2 30), (0, .nameAndType 27 31), (0, u "(Ljava/lang/String;)Ljava/lang/AbstractStringBuilder;"), (105, .methodref 18 138), (0, .nameAndType 5 139), (0, u "(Ljava/lang/StringBuilder;)V"), (5, u "()V"), (10, u "()I"), (186, .methodref 2 344), (0, .nameAndType 345 156), (0, u "length"), (3, .class_ 350), (0, u "java/lang/Appendable"), (0, .class_ 352), (0, u "java/io/Serializable"), (0, .class_ 354), (0, u "java/lang/Comparable"), (0, .class_ 356), (0, u "java/lang/CharSequence"), (0, u "serialVersionUID"), (0, u "J"), (40, u "toString"), (0, u "()Ljava/lang/String;")] 21

def k16c0 : Code := { maxStack := 2, maxLocals := 1, code := jdk_67_method_1_code, exceptionTable := #[], attributes := #[] }
def k16m0 : Method := { name := "<init>", desc := "()V", sig := { parameters := [], returnType := none }, accessFlags := 1, code := some k16c0 }
def k16c1 : Code := { maxStack := 2, maxLocals := 2, code := jdk_67_method_7_code, exceptionTable := #[], attributes := #[] }
def k16m1 : Method := { name := "append", desc := "(Ljava/lang/String;)Ljava/lang/StringBuilder;", sig := { parameters := [(.object "java/lang/String")], returnType := some (.object "java/lang/StringBuilder") }, accessFlags := 1, code := some k16c1 }
def k16c2 : Code := { maxStack := 3, maxLocals := 1, code := jdk_67_method_42_code, exceptionTable := #[], attributes := #[] }
def k16m2 : Method := { name := "toString", desc := "()Ljava/lang/String;", sig := { parameters := [], returnType := some (.object "java/lang/String") }, accessFlags := 1, code := some k16c2 }
def k16c3 : Code := { maxStack := 1, maxLocals := 1, code := jdk_67_method_93_code, exceptionTable := #[], attributes := #[] }
def k16m3 : Method := { name := "length", desc := "()I", sig := { parameters := [], returnType := some .int }, accessFlags := 4161, code := some k16c3 }
/-- java/lang/StringBuilder -/
def k16 : Class := { plain "java/lang/StringBuilder" (some 15) with
  accessFlags := 49
  interfaces := #[14, 2, 3, 4]
  cf := some (fileOf pool16 24 #[] #[{ accessFlags := 1, nameIndex := 5, descriptorIndex := 145, attributes := #[] }, { accessFlags := 1, nameIndex := 27, descriptorIndex := 28, attributes := #[] }, { accessFlags := 1, nameIndex := 399, descriptorIndex := 400, attributes := #[] }, { accessFlags := 4161, nameIndex := 345, descriptorIndex := 156, attributes := #[] }] 49 2 #[349, 351, 353, 355] #[{ accessFlags := 24, nameIndex := 357, descriptorIndex := 358, attributes := #[] }])
  fields := #[{ name := "serialVersionUID", type := .long, accessFlags := 24, slot := 0, constantValue := 0 }]
  methods := #[k16m0, k16m1, k16m2, k16m3]
  instanceTypes := #[(.array .byte), .byte, .boolean, .int]
  staticTypes := #[.long]
  resolved := Array.replicate 422 none
  statics := none }

def pool17 : Array CpInfo := pool [(2, .class_ 4), (1, u "java/lang/Object"), (0, u "<init>"), (0, u "()V"), (1, .class_ 10), (1, u "java/lang/System"), (0, u "allowSecurityManager"), (0, u "I"), (16, u "cons"), (0, u "Ljava/io/Console;"), (77, .class_ 110), (1, u "java/lang/System$CallersHolder"), (43, u "initialErrStream"), (0, u "Ljava/io/PrintStream;"), (19, u "security"), (0, u "Ljava/lang/SecurityManager;"), (31, .class_ 209), (0, u "java/lang/System$1"), (7, u "props"), (0, u "Ljava/util/Properties;"), (2, u "lineSeparator"), (0, u "Ljava/lang/String;"), (96, .class_ 321), (1, u "java/lang/System$LoggerFinder"), (5, .class_ 328), (0, u "java/lang/System$Logger"), (67, u "err"), (2, u "out"), (91, u "notSupportedJnuEncoding"), (15, u "in"), (17, u "initialIn"), (0, u "Ljava/io/InputStream;"), (35, u "bootLayer"), (0, u "Ljava/lang/ModuleLayer;"), (99, .class_ 664), (0, u "java/lang/System$2"), (9, u "NEVER"), (2, u "MAYBE"), (49, u "arraycopy"), (0, u "(Ljava/lang/Object;ILjava/lang/Object;II)V"), (72, .class_ 802), (0, u "java/lang/System$Logger$Level")] 31

def k17m0 : Method := { name := "<init>", desc := "()V", sig := { parameters := [], returnType := none }, accessFlags := 2, code := none }
def k17m1 : Method := { name := "arraycopy", desc := "(Ljava/lang/Object;ILjava/lang/Object;II)V", sig := { parameters := [(.object "java/lang/Object"), .int, (.object "java/lang/Object"), .int, .int], returnType := none }, accessFlags := 265, code := none }
/-- java/lang/System -/
def k17 : Class := { plain "java/lang/System" (some 0) with
  accessFlags := 49
  interfaces := #[]
  cf := some (fileOf pool17 8 #[.nestMembers #[319, 327, 801, 108, 663, 208]] #[{ accessFlags := 2, nameIndex := 5, descriptorIndex := 6, attributes := #[] }, { accessFlags := 265, nameIndex := 727, descriptorIndex := 728, attributes := #[] }] 49 2 #[] #[{ accessFlags := 25, nameIndex := 507, descriptorIndex := 526, attributes := #[] }, { accessFlags := 25, nameIndex := 399, descriptorIndex := 155, attributes := #[] }, { accessFlags := 25, nameIndex := 396, descriptorIndex := 155, attributes := #[] }, { accessFlags := 10, nameIndex := 525, descriptorIndex := 526, attributes := #[] }, { accessFlags := 26, nameIndex := 674, descriptorIndex := 12, attributes := #[] }, { accessFlags := 26, nameIndex := 677, descriptorIndex := 12, attributes := #[] }, { accessFlags := 10, nameIndex := 11, descriptorIndex := 12, attributes := #[] }, { accessFlags := 74, nameIndex := 175, descriptorIndex := 176, attributes := #[] }, { accessFlags := 10, nameIndex := 491, descriptorIndex := 222, attributes := #[] }, { accessFlags := 74, nameIndex := 29, descriptorIndex := 30, attributes := #[] }, { accessFlags := 74, nameIndex := 154, descriptorIndex := 155, attributes := #[] }, { accessFlags := 10, nameIndex := 217, descriptorIndex := 218, attributes := #[] }, { accessFlags := 10, nameIndex := 221, descriptorIndex := 222, attributes := #[] }, { accessFlags := 8, nameIndex := 562, descriptorIndex := 563, attributes := #[] }])
  fields := #[{ name := "in", type := (.object "java/io/InputStream"), accessFlags := 25, slot := 0, constantValue := 0 }, { name := "out", type := (.object "java/io/PrintStream"), accessFlags := 25, slot := 1, constantValue := 0 }, { name := "err", type := (.object "java/io/PrintStream"), accessFlags := 25, slot := 2, constantValue := 0 }, { name := "initialIn", type := (.object "java/io/InputStream"), accessFlags := 10, slot := 3, constantValue := 0 }, { name := "NEVER", type := .int, accessFlags := 26, slot := 4, constantValue := 0 }, { name := "MAYBE", type := .int, accessFlags := 26, slot := 5, constantValue := 0 }, { name := "allowSecurityManager", type := .int, accessFlags := 10, slot := 6, constantValue := 0 }, { name := "security", type := (.object "java/lang/SecurityManager"), accessFlags := 74, slot := 7, constantValue := 0 }, { name := "notSupportedJnuEncoding", type := (.object "java/lang/String"), accessFlags := 10, slot := 8, constantValue := 0 }, { name := "cons", type := (.object "java/io/Console"), accessFlags := 74, slot := 9, constantValue := 0 }, { name := "initialErrStream", type := (.object "java/io/PrintStream"), accessFlags := 74, slot := 10, constantValue := 0 }, { name := "props", type := (.object "java/util/Properties"), accessFlags := 10, slot := 11, constantValue := 0 }, { name := "lineSeparator", type := (.object "java/lang/String"), accessFlags := 10, slot := 12, constantValue := 0 }, { name := "bootLayer", type := (.object "java/lang/ModuleLayer"), accessFlags := 8, slot := 13, constantValue := 0 }]
  methods := #[k17m0, k17m1]
  instanceTypes := #[]
  staticTypes := #[(.object "java/io/InputStream"), (.object "java/io/PrintStream"), (.object "java/io/PrintStream"), (.object "java/io/InputStream"), .int, .int, .int, (.object "java/lang/SecurityManager"), (.object "java/lang/String"), (.object "java/io/Console"), (.object "java/io/PrintStream"), (.object "java/util/Properties"), (.object "java/lang/String"), (.object "java/lang/ModuleLayer")]
  resolved := Array.replicate 834 none
  statics := none }

def pool18 : Array CpInfo := pool [(2, .class_ 4), (1, u "java/lang/Object"), (0, u "<init>"), (0, u "()V"), (7, .class_ 16), (1, u "java/util/Arrays"), (57, .class_ 76), (1, u "java/util/Arrays$NaturalOrder"), (32, u "()Ljava/lang/Object;"), (3, .class_ 115), (1, u "java/util/Arrays$LegacyMergeSort"), (1, u "Z"), (10, .nameAndType 129 109), (0, u "clone"), (9, u "copyOfRange"), (10, .methodref 151 152), (0, .class_ 153), (0, .nameAndType 154 155), (0, u "java/lang/System"), (0, u "arraycopy"), (0, u "(Ljava/lang/Object;ILjava/lang/Object;II)V"), (146, u "copyOf"), (1, .methodref 305 306), (0, .class_ 307), (0, .nameAndType 308 309), (0, u "java/lang/Math"), (0, u "min"), (0, u "(II)I"), (0, .methodref 311 128), (0, .class_ 312), (0, u "[B"), (26, .methodref 14 340), (0, .nameAndType 341 342), (0, u "copyOfRangeByte"), (0, u "([BII)[B"), (0, .methodref 14 344), (0, .nameAndType 345 346), (0, u "checkLength"), (0, u "(II)V"), (28, .class_ 376), (0, u "java/util/Arrays$ArrayList"), (68, u "$assertionsDisabled"), (269, u "MIN_ARRAY_SORT_GRAN"), (0, u "I"), (2, u "INSERTIONSORT_THRESHOLD"), (149, u "([BI)[B"), (105, .class_ 976), (0, u "java/util/Arrays$ArrayItr")] 52

def k18m0 : Method := { name := "<init>", desc := "()V", sig := { parameters := [], returnType := none }, accessFlags := 2, code := none }
def k18c1 : Code := { maxStack := 6, maxLocals := 3, code := jdk_65_method_121_code, exceptionTable := #[], attributes := #[] }
def k18m1 : Method := { name := "copyOf", desc := "([BI)[B", sig := { parameters := [(.array .byte), .int], returnType := some (.array .byte) }, accessFlags := 9, code := some k18c1 }
def k18c2 : Code := { maxStack := 4, maxLocals := 2, code := jdk_65_method_131_code, exceptionTable := #[], attributes := #[] }
def k18m2 : Method := { name := "checkLength", desc := "(II)V", sig := { parameters := [.int, .int], returnType := none }, accessFlags := 10, code := some k18c2 }
def k18c3 : Code := { maxStack := 3, maxLocals := 3, code := jdk_65_method_132_code, exceptionTable := #[], attributes := #[] }
def k18m3 : Method := { name := "copyOfRange", desc := "([BII)[B", sig := { parameters := [(.array .byte), .int, .int], returnType := some (.array .byte) }, accessFlags := 9, code := some k18c3 }
def k18c4 : Code := { maxStack := 6, maxLocals := 5, code := jdk_65_method_133_code, exceptionTable := #[], attributes := #[] }
def k18m4 : Method := { name := "copyOfRangeByte", desc := "([BII)[B", sig := { parameters := [(.array .byte), .int, .int], returnType := some (.array .byte) }, accessFlags := 10, code := some k18c4 }
/-- java/util/Arrays -/
def k18 : Class := { plain "java/util/Arrays" (some 0) with
  accessFlags := 49
  interfaces := #[]
  cf := some (fileOf pool18 14 #[.nestMembers #[975, 375, 113, 74]] #[{ accessFlags := 2, nameIndex := 5, descriptorIndex := 6, attributes := #[] }, { accessFlags := 9, nameIndex := 302, descriptorIndex := 869, attributes := #[] }, { accessFlags := 10, nameIndex := 345, descriptorIndex := 346, attributes := #[] }, { accessFlags := 9, nameIndex := 139, descriptorIndex := 342, attributes := #[] }, { accessFlags := 10, nameIndex := 341, descriptorIndex := 342, attributes := #[] }] 49 2 #[] #[{ accessFlags := 26, nameIndex := 715, descriptorIndex := 716, attributes := #[] }, { accessFlags := 26, nameIndex := 719, descriptorIndex := 716, attributes := #[] }, { accessFlags := 4120, nameIndex := 445, descriptorIndex := 117, attributes := #[] }])
  fields := #[{ name := "MIN_ARRAY_SORT_GRAN", type := .int, accessFlags := 26, slot := 0, constantValue := 0 }, { name := "INSERTIONSORT_THRESHOLD", type := .int, accessFlags := 26, slot := 1, constantValue := 0 }, { name := "$assertionsDisabled", type := .boolean, accessFlags := 4120, slot := 2, constantValue := 0 }]
  methods := #[k18m0, k18m1, k18m2, k18m3, k18m4]
  instanceTypes := #[]
  staticTypes := #[.int, .int, .boolean]
  resolved := Array.replicate 1029 none
  statics := none }

def pool19 : Array CpInfo := pool [(1, .class_ 2), (0, u "java/lang/Math"), (1, .class_ 6), (1, u "java/lang/Object"), (0, u "<init>"), (0, u "()V"), (89, .class_ 100), (1, u "java/lang/Math$RandomNumberGeneratorHolder"), (71, u "negativeZeroFloatBits"), (0, u "J"), (2, u "negativeZeroDoubleBits"), (21, u "max"), (2, u "min"), (43, u "$assertionsDisabled"), (0, u "Z"), (88, u "(II)I"), (2, u "twoToTheDoubleScaleDown"), (0, u "D"), (4, u "twoToTheDoubleScaleUp"), (9, u "E"), (3, u "PI"), (2, u "TAU"), (2, u "DEGREES_TO_RADIANS"), (0, u "RADIANS_TO_DEGREES")] 94

def k19m0 : Method := { name := "<init>", desc := "()V", sig := { parameters := [], returnType := none }, accessFlags := 2, code := none }
def k19c1 : Code := { maxStack := 2, maxLocals := 2, code := jdk_29_method_65_code, exceptionTable := #[], attributes := #[] }
def k19m1 : Method := { name := "max", desc := "(II)I", sig := { parameters := [.int, .int], returnType := some .int }, accessFlags := 9, code := some k19c1 }
def k19c2 : Code := { maxStack := 2, maxLocals := 2, code := jdk_29_method_69_code, exceptionTable := #[], attributes := #[] }
def k19m2 : Method := { name := "min", desc := "(II)I", sig := { parameters := [.int, .int], returnType := some .int }, accessFlags := 9, code := some k19c2 }
/-- java/lang/Math -/
def k19 : Class := { plain "java/lang/Math" (some 0) with
  accessFlags := 49
  interfaces := #[]
  cf := some (fileOf pool19 1 #[.nestMembers #[98]] #[{ accessFlags := 2, nameIndex := 7, descriptorIndex := 8, attributes := #[] }, { accessFlags := 9, nameIndex := 198, descriptorIndex := 335, attributes := #[] }, { accessFlags := 9, nameIndex := 201, descriptorIndex := 335, attributes := #[] }] 49 4 #[] #[{ accessFlags := 25, nameIndex := 354, descriptorIndex := 339, attributes := #[] }, { accessFlags := 25, nameIndex := 358, descriptorIndex := 339, attributes := #[] }, { accessFlags := 25, nameIndex := 361, descriptorIndex := 339, attributes := #[] }, { accessFlags := 26, nameIndex := 364, descriptorIndex := 339, attributes := #[] }, { accessFlags := 26, nameIndex := 365, descriptorIndex := 339, attributes := #[] }, { accessFlags := 26, nameIndex := 172, descriptorIndex := 173, attributes := #[] }, { accessFlags := 26, nameIndex := 176, descriptorIndex := 173, attributes := #[] }, { accessFlags := 8, nameIndex := 344, descriptorIndex := 339, attributes := #[] }, { accessFlags := 8, nameIndex := 338, descriptorIndex := 339, attributes := #[] }, { accessFlags := 4120, nameIndex := 245, descriptorIndex := 246, attributes := #[] }])
  fields := #[{ name := "E", type := .double, accessFlags := 25, slot := 0, constantValue := 0 }, { name := "PI", type := .double, accessFlags := 25, slot := 1, constantValue := 0 }, { name := "TAU", type := .double, accessFlags := 25, slot := 2, constantValue := 0 }, { name := "DEGREES_TO_RADIANS", type := .double, accessFlags := 26, slot := 3, constantValue := 0 }, { name := "RADIANS_TO_DEGREES", type := .double, accessFlags := 26, slot := 4, constantValue := 0 }, { name := "negativeZeroFloatBits", type := .long, accessFlags := 26, slot := 5, constantValue := 0 }, { name := "negativeZeroDoubleBits", type := .long, accessFlags := 26, slot := 6, constantValue := 0 }, { name := "twoToTheDoubleScaleUp", type := .double, accessFlags := 8, slot := 7, constantValue := 0 }, { name := "twoToTheDoubleScaleDown", type := .double, accessFlags := 8, slot := 8, constantValue := 0 }, { name := "$assertionsDisabled", type := .boolean, accessFlags := 4120, slot := 9, constantValue := 0 }]
  methods := #[k19m0, k19m1, k19m2]
  instanceTypes := #[]
  staticTypes := #[.double, .double, .double, .double, .double, .long, .long, .double, .double, .boolean]
  resolved := Array.replicate 460 none
  statics := none }

def pool20 : Array CpInfo := pool [(4, .class_ 6), (1, u "java/lang/Object"), (0, u "<init>"), (0, u "()V"), (5, .class_ 16), (1, u "java/lang/StringLatin1"), (0, u "inflate"), (2, .class_ 22), (1, u "java/lang/StringUTF16"), (3, .nameAndType 17 27), (0, u "([BI[BII)V"), (93, u "$assertionsDisabled"), (0, u "Z"), (98, .class_ 223), (1, u "java/lang/StringLatin1$LinesSpliterator"), (16, .methodref 20 26), (40, u "equals"), (0, u "([B[B)Z"), (107, .class_ 391), (0, u "java/lang/StringLatin1$CharsSpliterator")] 3

def k20m0 : Method := { name := "<init>", desc := "()V", sig := { parameters := [], returnType := none }, accessFlags := 0, code := none }
def k20c1 : Code := { maxStack := 3, maxLocals := 3, code := jdk_43_method_13_code, exceptionTable := #[], attributes := #[] }
def k20m1 : Method := { name := "equals", desc := "([B[B)Z", sig := { parameters := [(.array .byte), (.array .byte)], returnType := some .boolean }, accessFlags := 9, code := some k20c1 }
def k20c2 : Code := { maxStack := 5, maxLocals := 5, code := jdk_43_method_50_code, exceptionTable := #[], attributes := #[] }
def k20m2 : Method := { name := "inflate", desc := "([BI[BII)V", sig := { parameters := [(.array .byte), .int, (.array .byte), .int, .int], returnType := none }, accessFlags := 9, code := some k20c2 }
/-- java/lang/StringLatin1 -/
def k20 : Class := { plain "java/lang/StringLatin1" (some 0) with
  accessFlags := 48
  interfaces := #[]
  cf := some (fileOf pool20 14 #[.nestMembers #[390, 221]] #[{ accessFlags := 0, nameIndex := 7, descriptorIndex := 8, attributes := #[] }, { accessFlags := 9, nameIndex := 281, descriptorIndex := 282, attributes := #[] }, { accessFlags := 9, nameIndex := 17, descriptorIndex := 27, attributes := #[] }] 48 4 #[] #[{ accessFlags := 4120, nameIndex := 121, descriptorIndex := 122, attributes := #[] }])
  fields := #[{ name := "$assertionsDisabled", type := .boolean, accessFlags := 4120, slot := 0, constantValue := 0 }]
  methods := #[k20m0, k20m1, k20m2]
  instanceTypes := #[]
  staticTypes := #[.boolean]
  resolved := Array.replicate 395 none
  statics := none }

def pool21 : Array CpInfo := pool [(9, u "<init>"), (6, .class_ 18), (1, u "java/lang/Object"), (0, u "()V"), (1, .class_ 23), (1, u "jdk/internal/util/ArraysSupport"), (0, u "LOG2_ARRAY_LONG_INDEX_SCALE"), (0, u "I"), (2, u "U"), (0, u "Ljdk/internal/misc/Unsafe;"), (8, u "BIG_ENDIAN"), (0, u "Z"), (8, u "LOG2_BYTE_BIT_SIZE"), (4, u "LOG2_ARRAY_INT_INDEX_SCALE"), (54, u "JLA"), (0, u "Ljdk/internal/access/JavaLangAccess;"), (11, u "LOG2_ARRAY_BOOLEAN_INDEX_SCALE"), (9, u "LOG2_ARRAY_BYTE_INDEX_SCALE"), (5, u "LOG2_ARRAY_CHAR_INDEX_SCALE"), (5, u "LOG2_ARRAY_SHORT_INDEX_SCALE"), (18, u "LOG2_ARRAY_FLOAT_INDEX_SCALE"), (24, u "LOG2_ARRAY_DOUBLE_INDEX_SCALE"), (6, .methodref 195 196), (0, .class_ 197), (0, .nameAndType 198 199), (0, u "java/lang/Math"), (0, u "max"), (0, u "(II)I"), (0, .integer 2147483639), (76, u "T_BOOLEAN"), (2, u "T_CHAR"), (1, u "T_FLOAT"), (1, u "T_DOUBLE"), (1, u "T_BYTE"), (1, u "T_SHORT"), (1, u "T_INT"), (1, u "T_LONG"), (1, u "SOFT_MAX_ARRAY_LENGTH"), (56, u "newLength"), (0, u "(III)I")] 25

def k21m0 : Method := { name := "<init>", desc := "()V", sig := { parameters := [], returnType := none }, accessFlags := 2, code := none }
def k21c1 : Code := { maxStack := 3, maxLocals := 4, code := jdk_48_method_27_code, exceptionTable := #[], attributes := #[] }
def k21m1 : Method := { name := "newLength", desc := "(III)I", sig := { parameters := [.int, .int, .int], returnType := some .int }, accessFlags := 9, code := some k21c1 }
/-- jdk/internal/util/ArraysSupport -/
def k21 : Class := { plain "jdk/internal/util/ArraysSupport" (some 0) with
  accessFlags := 33
  interfaces := #[]
  cf := some (fileOf pool21 21 #[] #[{ accessFlags := 2, nameIndex := 9, descriptorIndex := 19, attributes := #[] }, { accessFlags := 9, nameIndex := 351, descriptorIndex := 352, attributes := #[] }] 33 16 #[] #[{ accessFlags := 24, nameIndex := 28, descriptorIndex := 29, attributes := #[] }, { accessFlags := 26, nameIndex := 38, descriptorIndex := 39, attributes := #[] }, { accessFlags := 25, nameIndex := 121, descriptorIndex := 25, attributes := #[] }, { accessFlags := 25, nameIndex := 131, descriptorIndex := 25, attributes := #[] }, { accessFlags := 25, nameIndex := 137, descriptorIndex := 25, attributes := #[] }, { accessFlags := 25, nameIndex := 143, descriptorIndex := 25, attributes := #[] }, { accessFlags := 25, nameIndex := 53, descriptorIndex := 25, attributes := #[] }, { accessFlags := 25, nameIndex := 24, descriptorIndex := 25, attributes := #[] }, { accessFlags := 25, nameIndex := 162, descriptorIndex := 25, attributes := #[] }, { accessFlags := 25, nameIndex := 187, descriptorIndex := 25, attributes := #[] }, { accessFlags := 26, nameIndex := 48, descriptorIndex := 25, attributes := #[] }, { accessFlags := 25, nameIndex := 277, descriptorIndex := 25, attributes := #[] }, { accessFlags := 25, nameIndex := 280, descriptorIndex := 25, attributes := #[] }, { accessFlags := 25, nameIndex := 282, descriptorIndex := 25, attributes := #[] }, { accessFlags := 25, nameIndex := 284, descriptorIndex := 25, attributes := #[] }, { accessFlags := 25, nameIndex := 286, descriptorIndex := 25, attributes := #[] }, { accessFlags := 25, nameIndex := 288, descriptorIndex := 25, attributes := #[] }, { accessFlags := 25, nameIndex := 290, descriptorIndex := 25, attributes := #[] }, { accessFlags := 25, nameIndex := 292, descriptorIndex := 25, attributes := #[] }, { accessFlags := 26, nameIndex := 108, descriptorIndex := 109, attributes := #[] }, { accessFlags := 25, nameIndex := 294, descriptorIndex := 25, attributes := #[] }])
  fields := #[{ name := "U", type := (.object "jdk/internal/misc/Unsafe"), accessFlags := 24, slot := 0, constantValue := 0 }, { name := "BIG_ENDIAN", type := .boolean, accessFlags := 26, slot := 1, constantValue := 0 }, { name := "LOG2_ARRAY_BOOLEAN_INDEX_SCALE", type := .int, accessFlags := 25, slot := 2, constantValue := 0 }, { name := "LOG2_ARRAY_BYTE_INDEX_SCALE", type := .int, accessFlags := 25, slot := 3, constantValue := 0 }, { name := "LOG2_ARRAY_CHAR_INDEX_SCALE", type := .int, accessFlags := 25, slot := 4, constantValue := 0 }, { name := "LOG2_ARRAY_SHORT_INDEX_SCALE", type := .int, accessFlags := 25, slot := 5, constantValue := 0 }, { name := "LOG2_ARRAY_INT_INDEX_SCALE", type := .int, accessFlags := 25, slot := 6, constantValue := 0 }, { name := "LOG2_ARRAY_LONG_INDEX_SCALE", type := .int, accessFlags := 25, slot := 7, constantValue := 0 }, { name := "LOG2_ARRAY_FLOAT_INDEX_SCALE", type := .int, accessFlags := 25, slot := 8, constantValue := 0 }, { name := "LOG2_ARRAY_DOUBLE_INDEX_SCALE", type := .int, accessFlags := 25, slot := 9, constantValue := 0 }, { name := "LOG2_BYTE_BIT_SIZE", type := .int, accessFlags := 26, slot := 10, constantValue := 0 }, { name := "T_BOOLEAN", type := .int, accessFlags := 25, slot := 11, constantValue := 0 }, { name := "T_CHAR", type := .int, accessFlags := 25, slot := 12, constantValue := 0 }, { name := "T_FLOAT", type := .int, accessFlags := 25, slot := 13, constantValue := 0 }, { name := "T_DOUBLE", type := .int, accessFlags := 25, slot := 14, constantValue := 0 }, { name := "T_BYTE", type := .int, accessFlags := 25, slot := 15, constantValue := 0 }, { name := "T_SHORT", type := .int, accessFlags := 25, slot := 16, constantValue := 0 }, { name := "T_INT", type := .int, accessFlags := 25, slot := 17, constantValue := 0 }, { name := "T_LONG", type := .int, accessFlags := 25, slot := 18, constantValue := 0 }, { name := "JLA", type := (.object "jdk/internal/access/JavaLangAccess"), accessFlags := 26, slot := 19, constantValue := 0 }, { name := "SOFT_MAX_ARRAY_LENGTH", type := .int, accessFlags := 25, slot := 20, constantValue := 0 }]
  methods := #[k21m0, k21m1]
  instanceTypes := #[]
  staticTypes := #[(.object "jdk/internal/misc/Unsafe"), .boolean, .int, .int, .int, .int, .int, .int, .int, .int, .int, .int, .int, .int, .int, .int, .int, .int, .int, (.object "jdk/internal/access/JavaLangAccess"), .int]
  resolved := Array.replicate 378 none
  statics := none }

def pool22 : Array CpInfo := pool [(2, .class_ 4), (1, u "java/lang/Object"), (0, u "<init>"), (0, u "()V"), (17, .class_ 26), (1, u "jdk/internal/util/Preconditions"), (22, u "checkFromIndexSize"), (5, .class_ 56), (0, u "jdk/internal/util/Preconditions$4"), (57, .class_ 115), (0, u "jdk/internal/util/Preconditions$1"), (7, u "SIOOBE_FORMATTER"), (0, u "Ljava/util/function/BiFunction;"), (0, .class_ 126), (0, u "jdk/internal/util/Preconditions$2"), (3, u "AIOOBE_FORMATTER"), (0, .class_ 132), (0, u "jdk/internal/util/Preconditions$3"), (3, u "IOOBE_FORMATTER"), (46, u "(IIILjava/util/function/BiFunction;)I")] 10

def k22m0 : Method := { name := "<init>", desc := "()V", sig := { parameters := [], returnType := none }, accessFlags := 1, code := none }
def k22c1 : Code := { maxStack := 4, maxLocals := 4, code := jdk_41_method_13_code, exceptionTable := #[], attributes := #[] }
def k22m1 : Method := { name := "checkFromIndexSize", desc := "(IIILjava/util/function/BiFunction;)I", sig := { parameters := [.int, .int, .int, (.object "java/util/function/BiFunction")], returnType := some .int }, accessFlags := 9, code := some k22c1 }
/-- jdk/internal/util/Preconditions -/
def k22 : Class := { plain "jdk/internal/util/Preconditions" (some 0) with
  accessFlags := 33
  interfaces := #[]
  cf := some (fileOf pool22 24 #[.nestMembers #[55, 131, 125, 114]] #[{ accessFlags := 1, nameIndex := 5, descriptorIndex := 6, attributes := #[] }, { accessFlags := 9, nameIndex := 49, descriptorIndex := 183, attributes := #[] }] 33 2 #[] #[{ accessFlags := 25, nameIndex := 123, descriptorIndex := 124, attributes := #[] }, { accessFlags := 25, nameIndex := 130, descriptorIndex := 124, attributes := #[] }, { accessFlags := 25, nameIndex := 136, descriptorIndex := 124, attributes := #[] }])
  fields := #[{ name := "SIOOBE_FORMATTER", type := (.object "java/util/function/BiFunction"), accessFlags := 25, slot := 0, constantValue := 0 }, { name := "AIOOBE_FORMATTER", type := (.object "java/util/function/BiFunction"), accessFlags := 25, slot := 1, constantValue := 0 }, { name := "IOOBE_FORMATTER", type := (.object "java/util/function/BiFunction"), accessFlags := 25, slot := 2, constantValue := 0 }]
  methods := #[k22m0, k22m1]
  instanceTypes := #[]
  staticTypes := #[(.object "java/util/function/BiFunction"), (.object "java/util/function/BiFunction"), (.object "java/util/function/BiFunction")]
  resolved := Array.replicate 194 none
  statics := some 3 }

def pool23 : Array CpInfo := pool [(1, .class_ 2), (0, u "java/lang/Cloneable"), (0, .class_ 4), (0, u "java/lang/Object")] 2

/-- java/lang/Cloneable -/
def k23 : Class := { plain "java/lang/Cloneable" (some 0) with
  accessFlags := 1537
  interfaces := #[]
  cf := some (fileOf pool23 1 #[] #[] 1537 3 #[] #[])
  fields := #[]
  methods := #[]
  instanceTypes := #[]
  staticTypes := #[]
  resolved := Array.replicate 7 none
  statics := none }

def pool24 : Array CpInfo := pool [(2, .class_ 4), (1, u "java/lang/Object"), (0, u "<init>"), (0, u "()V"), (12, .class_ 20), (0, u "java/util/Collections"), (63, u "r"), (0, u "Ljava/util/Random;"), (80, .class_ 167), (0, u "java/util/Collections$UnmodifiableCollection"), (6, .class_ 175), (0, u "java/util/Collections$UnmodifiableSequencedCollection"), (6, .class_ 183), (0, u "java/util/Collections$UnmodifiableSet"), (6, .class_ 191), (0, u "java/util/Collections$UnmodifiableSequencedSet"), (6, .class_ 199), (0, u "java/util/Collections$UnmodifiableSortedSet"), (6, .class_ 207), (0, u "java/util/Collections$UnmodifiableNavigableSet"), (4, .class_ 213), (0, u "java/util/Collections$UnmodifiableList"), (1, .class_ 216), (0, u "java/util/Collections$UnmodifiableRandomAccessList"), (6, .class_ 224), (0, u "java/util/Collections$UnmodifiableMap"), (6, .class_ 232), (0, u "java/util/Collections$UnmodifiableSequencedMap"), (4, .class_ 238), (0, u "java/util/Collections$UnmodifiableSortedMap"), (6, .class_ 246), (0, u "java/util/Collections$UnmodifiableNavigableMap"), (3, .class_ 251), (0, u "java/util/Collections$SynchronizedCollection"), (4, .class_ 257), (0, u "java/util/Collections$SynchronizedSet"), (4, .class_ 263), (0, u "java/util/Collections$SynchronizedSortedSet"), (1, .class_ 266), (0, u "java/util/Collections$SynchronizedNavigableSet"), (1, .class_ 269), (0, u "java/util/Collections$SynchronizedRandomAccessList"), (1, .class_ 272), (0, u "java/util/Collections$SynchronizedList"), (5, .class_ 279), (0, u "java/util/Collections$SynchronizedMap"), (1, .class_ 282), (0, u "java/util/Collections$SynchronizedSortedMap"), (1, .class_ 285), (0, u "java/util/Collections$SynchronizedNavigableMap"), (1, .class_ 288), (0, u "java/util/Collections$CheckedCollection"), (11, .class_ 301), (0, u "java/util/Collections$CheckedQueue"), (3, .class_ 306), (0, u "java/util/Collections$CheckedSet"), (3, .class_ 311), (0, u "java/util/Collections$CheckedSortedSet"), (3, .class_ 316), (0, u "java/util/Collections$CheckedNavigableSet"), (3, .class_ 321), (0, u "java/util/Collections$CheckedRandomAccessList"), (3, .class_ 326), (0, u "java/util/Collections$CheckedList"), (1, .class_ 329), (0, u "java/util/Collections$CheckedMap"), (3, .class_ 334), (0, u "java/util/Collections$CheckedSortedMap"), (3, .class_ 339), (0, u "java/util/Collections$CheckedNavigableMap"), (4, .class_ 346), (1, u "java/util/Collections$EmptyIterator"), (3, .class_ 352), (1, u "java/util/Collections$EmptyListIterator"), (2, .class_ 357), (1, u "java/util/Collections$EmptyEnumeration"), (4, u "EMPTY_SET"), (0, u "Ljava/util/Set;"), (6, u "EMPTY_LIST"), (0, u "Ljava/util/List;"), (2, u "EMPTY_MAP"), (0, u "Ljava/util/Map;"), (4, .class_ 381), (0, u "java/util/Collections$SingletonSet"), (2, .class_ 385), (0, u "java/util/Collections$1"), (1, .class_ 388), (0, u "java/util/Collections$2"), (1, .class_ 391), (0, u "java/util/Collections$SingletonList"), (1, .class_ 394), (0, u "java/util/Collections$SingletonMap"), (22, .class_ 418), (0, u "java/util/Collections$CopiesList"), (4, .class_ 425), (1, u "java/util/Collections$ReverseComparator"), (8, .class_ 435), (0, u "java/util/Collections$ReverseComparator2"), (6, .class_ 443), (0, u "java/util/Collections$3"), (25, .class_ 470), (0, u "java/util/Collections$SetFromMap"), (2, .class_ 474), (0, u "java/util/Collections$SequencedSetFromMap"), (3, .class_ 479), (0, u "java/util/Collections$AsLIFOQueue"), (11, .class_ 492), (0, u "java/util/Collections$EmptySet"), (1, .class_ 495), (0, u "java/util/Collections$EmptyList"), (1, .class_ 498), (0, u "java/util/Collections$EmptyMap"), (1, u "BINARYSEARCH_THRESHOLD"), (0, u "I"), (2, u "REVERSE_THRESHOLD"), (1, u "SHUFFLE_THRESHOLD"), (1, u "FILL_THRESHOLD"), (1, u "ROTATE_THRESHOLD"), (1, u "COPY_THRESHOLD"), (1, u "REPLACEALL_THRESHOLD"), (1, u "INDEXOFSUBLIST_THRESHOLD"), (333, .class_ 851), (0, u "java/util/Collections$CheckedMap$CheckedEntrySet"), (0, .class_ 853), (0, u "java/util/Collections$CheckedMap$CheckedEntrySet$CheckedEntry"), (0, .class_ 855), (0, u "java/util/Collections$CheckedMap$CheckedEntrySet$1"), (0, .class_ 857), (0, u "java/util/Collections$CheckedList$1"), (0, .class_ 859), (0, u "java/util/Collections$CheckedCollection$1"), (0, .class_ 861), (0, u "java/util/Collections$UnmodifiableNavigableMap$EmptyNavigableMap"), (0, .class_ 863), (0, u "java/util/Collections$UnmodifiableMap$UnmodifiableEntrySet"), (0, .class_ 865), (0, u "java/util/Collections$UnmodifiableMap$UnmodifiableEntrySet$UnmodifiableEntry"), (0, .class_ 867), (0, u "java/util/Collections$UnmodifiableMap$UnmodifiableEntrySet$UnmodifiableEntrySetSpliterator"), (0, .class_ 869), (0, u "java/util/Collections$UnmodifiableMap$UnmodifiableEntrySet$1"), (0, .class_ 871), (0, u "java/util/Collections$UnmodifiableList$1"), (0, .class_ 873), (0, u "java/util/Collections$UnmodifiableNavigableSet$EmptyNavigableSet"), (0, .class_ 875), (0, u "java/util/Collections$UnmodifiableCollection$1")] 57

def k24m0 : Method := { name := "<init>", desc := "()V", sig := { parameters := [], returnType := none }, accessFlags := 2, code := none }
/-- java/util/Collections -/
def k24 : Class := { plain "java/util/Collections" (some 0) with
  accessFlags := 33
  interfaces := #[]
  cf := some (fileOf pool24 19 #[.nestMembers #[478, 473, 469, 434, 423, 417, 393, 390, 380, 497, 494, 491, 355, 350, 344, 338, 333, 328, 850, 852, 854, 320, 325, 856, 315, 310, 305, 300, 287, 858, 284, 281, 278, 268, 271, 265, 262, 256, 250, 245, 860, 237, 231, 223, 862, 864, 866, 868, 215, 212, 870, 206, 872, 198, 190, 182, 174, 166, 874, 442, 387, 384]] #[{ accessFlags := 2, nameIndex := 5, descriptorIndex := 6, attributes := #[] }] 33 2 #[] #[{ accessFlags := 26, nameIndex := 500, descriptorIndex := 501, attributes := #[] }, { accessFlags := 26, nameIndex := 504, descriptorIndex := 501, attributes := #[] }, { accessFlags := 26, nameIndex := 506, descriptorIndex := 501, attributes := #[] }, { accessFlags := 26, nameIndex := 508, descriptorIndex := 501, attributes := #[] }, { accessFlags := 26, nameIndex := 510, descriptorIndex := 501, attributes := #[] }, { accessFlags := 26, nameIndex := 512, descriptorIndex := 501, attributes := #[] }, { accessFlags := 26, nameIndex := 514, descriptorIndex := 501, attributes := #[] }, { accessFlags := 26, nameIndex := 516, descriptorIndex := 501, attributes := #[] }, { accessFlags := 10, nameIndex := 84, descriptorIndex := 85, attributes := #[] }, { accessFlags := 25, nameIndex := 362, descriptorIndex := 363, attributes := #[] }, { accessFlags := 25, nameIndex := 370, descriptorIndex := 371, attributes := #[] }, { accessFlags := 25, nameIndex := 374, descriptorIndex := 375, attributes := #[] }])
  fields := #[{ name := "BINARYSEARCH_THRESHOLD", type := .int, accessFlags := 26, slot := 0, constantValue := 0 }, { name := "REVERSE_THRESHOLD", type := .int, accessFlags := 26, slot := 1, constantValue := 0 }, { name := "SHUFFLE_THRESHOLD", type := .int, accessFlags := 26, slot := 2, constantValue := 0 }, { name := "FILL_THRESHOLD", type := .int, accessFlags := 26, slot := 3, constantValue := 0 }, { name := "ROTATE_THRESHOLD", type := .int, accessFlags := 26, slot := 4, constantValue := 0 }, { name := "COPY_THRESHOLD", type := .int, accessFlags := 26, slot := 5, constantValue := 0 }, { name := "REPLACEALL_THRESHOLD", type := .int, accessFlags := 26, slot := 6, constantValue := 0 }, { name := "INDEXOFSUBLIST_THRESHOLD", type := .int, accessFlags := 26, slot := 7, constantValue := 0 }, { name := "r", type := (.object "java/util/Random"), accessFlags := 10, slot := 8, constantValue := 0 }, { name := "EMPTY_SET", type := (.object "java/util/Set"), accessFlags := 25, slot := 9, constantValue := 0 }, { name := "EMPTY_LIST", type := (.object "java/util/List"), accessFlags := 25, slot := 10, constantValue := 0 }, { name := "EMPTY_MAP", type := (.object "java/util/Map"), accessFlags := 25, slot := 11, constantValue := 0 }]
  methods := #[k24m0]
  instanceTypes := #[]
  staticTypes := #[.int, .int, .int, .int, .int, .int, .int, .int, (.object "java/util/Random"), (.object "java/util/Set"), (.object "java/util/List"), (.object "java/util/Map")]
  resolved := Array.replicate 933 none
  statics := some 4 }

def pool25 : Array CpInfo := pool [(8, .class_ 10), (1, u "java/lang/Iterable"), (24, .class_ 36), (0, u "java/lang/Object")] 25

/-- java/lang/Iterable -/
def k25 : Class := { plain "java/lang/Iterable" (some 0) with
  accessFlags := 1537
  interfaces := #[]
  cf := some (fileOf pool25 8 #[] #[] 1537 35 #[] #[])
  fields := #[]
  methods := #[]
  instanceTypes := #[]
  staticTypes := #[]
  resolved := Array.replicate 62 none
  statics := none }

def pool26 : Array CpInfo := pool [(10, .class_ 12), (1, u "java/util/Collection"), (47, .class_ 61), (0, u "java/lang/Object"), (0, .class_ 63), (0, u "java/lang/Iterable")] 51

/-- java/util/Collection -/
def k26 : Class := { plain "java/util/Collection" (some 0) with
  accessFlags := 1537
  interfaces := #[25]
  cf := some (fileOf pool26 10 #[] #[] 1537 60 #[62] #[])
  fields := #[]
  methods := #[]
  instanceTypes := #[]
  staticTypes := #[]
  resolved := Array.replicate 115 none
  statics := none }

def pool27 : Array CpInfo := pool [(2, .class_ 4), (1, u "java/lang/Object"), (0, u "<init>"), (0, u "()V"), (1, .class_ 10), (1, u "java/util/AbstractCollection"), (66, .class_ 78), (0, u "java/util/Collection")] 81

def k27m0 : Method := { name := "<init>", desc := "()V", sig := { parameters := [], returnType := none }, accessFlags := 4, code := none }
/-- java/util/AbstractCollection -/
def k27 : Class := { plain "java/util/AbstractCollection" (some 0) with
  accessFlags := 1057
  interfaces := #[26]
  cf := some (fileOf pool27 8 #[] #[{ accessFlags := 4, nameIndex := 5, descriptorIndex := 6, attributes := #[] }] 1057 2 #[77] #[])
  fields := #[]
  methods := #[k27m0]
  instanceTypes := #[]
  staticTypes := #[]
  resolved := Array.replicate 160 none
  statics := none }

def pool28 : Array CpInfo := pool [(8, .class_ 10), (1, u "java/util/SequencedCollection"), (15, .class_ 27), (0, u "java/lang/Object"), (0, .class_ 29), (0, u "java/util/Collection")] 27

/-- java/util/SequencedCollection -/
def k28 : Class := { plain "java/util/SequencedCollection" (some 0) with
  accessFlags := 1537
  interfaces := #[26]
  cf := some (fileOf pool28 8 #[] #[] 1537 26 #[28] #[])
  fields := #[]
  methods := #[]
  instanceTypes := #[]
  staticTypes := #[]
  resolved := Array.replicate 57 none
  statics := none }

def pool29 : Array CpInfo := pool [(8, .class_ 10), (1, u "java/util/List"), (92, .class_ 104), (0, u "java/lang/Object"), (15, .class_ 121), (0, u "java/util/SequencedCollection")] 129

/-- java/util/List -/
def k29 : Class := { plain "java/util/List" (some 0) with
  accessFlags := 1537
  interfaces := #[28]
  cf := some (fileOf pool29 8 #[] #[] 1537 103 #[120] #[])
  fields := #[]
  methods := #[]
  instanceTypes := #[]
  staticTypes := #[]
  resolved := Array.replicate 251 none
  statics := none }

def pool30 : Array CpInfo := pool [(2, .class_ 4), (1, u "java/util/AbstractCollection"), (0, u "<init>"), (0, u "()V"), (1, .class_ 10), (1, u "java/util/AbstractList"), (0, u "modCount"), (0, u "I"), (64, .class_ 78), (0, u "java/util/AbstractList$Itr"), (3, .class_ 83), (0, u "java/util/AbstractList$ListItr"), (9, .class_ 94), (0, u "java/util/AbstractList$RandomAccessSubList"), (3, .class_ 99), (0, u "java/util/AbstractList$SubList"), (33, .class_ 134), (0, u "java/util/List"), (73, .class_ 209), (0, u "java/util/AbstractList$SubList$1"), (0, .class_ 211), (0, u "java/util/AbstractList$RandomAccessSpliterator")] 6

def k30m0 : Method := { name := "<init>", desc := "()V", sig := { parameters := [], returnType := none }, accessFlags := 4, code := none }
/-- java/util/AbstractList -/
def k30 : Class := { plain "java/util/AbstractList" (some 27) with
  accessFlags := 1057
  interfaces := #[29]
  cf := some (fileOf pool30 8 #[.nestMembers #[93, 98, 208, 210, 82, 77]] #[{ accessFlags := 4, nameIndex := 5, descriptorIndex := 6, attributes := #[] }] 1057 2 #[133] #[{ accessFlags := 132, nameIndex := 11, descriptorIndex := 12, attributes := #[] }])
  fields := #[{ name := "modCount", type := .int, accessFlags := 132, slot := 0, constantValue := 0 }]
  methods := #[k30m0]
  instanceTypes := #[.int]
  staticTypes := #[]
  resolved := Array.replicate 218 none
  statics := none }

def pool31 : Array CpInfo := pool [(1, .class_ 2), (0, u "java/util/RandomAccess"), (0, .class_ 4), (0, u "java/lang/Object")] 2

/-- java/util/RandomAccess -/
def k31 : Class := { plain "java/util/RandomAccess" (some 0) with
  accessFlags := 1537
  interfaces := #[]
  cf := some (fileOf pool31 1 #[] #[] 1537 3 #[] #[])
  fields := #[]
  methods := #[]
  instanceTypes := #[]
  staticTypes := #[]
  resolved := Array.replicate 7 none
  statics := none }

def pool32 : Array CpInfo := pool [(2, .class_ 4), (1, u "java/util/AbstractList"), (0, u "<init>"), (0, u "()V"), (1, .class_ 10), (1, u "java/util/Collections"), (54, .class_ 66), (0, u "java/util/Collections$EmptyList"), (0, .class_ 68), (0, u "java/util/RandomAccess"), (0, .class_ 70), (0, u "java/io/Serializable"), (0, u "serialVersionUID"), (0, u "J")] 77

def k32m0 : Method := { name := "<init>", desc := "()V", sig := { parameters := [], returnType := none }, accessFlags := 2, code := none }
/-- java/util/Collections$EmptyList -/
def k32 : Class := { plain "java/util/Collections$EmptyList" (some 30) with
  accessFlags := 32
  interfaces := #[31, 2]
  cf := some (fileOf pool32 65 #[.nestHost 8] #[{ accessFlags := 2, nameIndex := 5, descriptorIndex := 6, attributes := #[] }] 32 2 #[67, 69] #[{ accessFlags := 26, nameIndex := 71, descriptorIndex := 72, attributes := #[] }])
  fields := #[{ name := "serialVersionUID", type := .long, accessFlags := 26, slot := 0, constantValue := 0 }]
  methods := #[k32m0]
  instanceTypes := #[.int]
  staticTypes := #[.long]
  resolved := Array.replicate 150 none
  statics := none }

def pool33 : Array CpInfo := pool [(2, .class_ 4), (1, u "java/lang/StackTraceElement"), (0, u "<init>"), (2, .class_ 10), (1, u "java/lang/Object"), (0, u "()V"), (2, u "format"), (0, u "B"), (2, u "classLoaderName"), (0, u "Ljava/lang/String;"), (2, u "moduleName"), (2, u "moduleVersion"), (12, u "declaringClass"), (4, u "methodName"), (2, u "fileName"), (2, u "lineNumber"), (0, u "I"), (65, u "declaringClassObject"), (0, u "Ljava/lang/Class;"), (33, .class_ 153), (1, u "java/lang/StackTraceElement$HashedModules"), (17, .class_ 172), (0, u "java/io/Serializable"), (0, u "NATIVE_METHOD"), (1, u "UNKNOWN_SOURCE"), (2, u "BUILTIN_CLASS_LOADER"), (1, u "JDK_NON_UPGRADEABLE_MODULE"), (1, u "serialVersionUID"), (0, u "J")] 51

def k33m0 : Method := { name := "<init>", desc := "()V", sig := { parameters := [], returnType := none }, accessFlags := 2, code := none }
/-- java/lang/StackTraceElement -/
def k33 : Class := { plain "java/lang/StackTraceElement" (some 0) with
  accessFlags := 49
  interfaces := #[2]
  cf := some (fileOf pool33 2 #[.nestMembers #[151]] #[{ accessFlags := 2, nameIndex := 5, descriptorIndex := 11, attributes := #[] }] 49 8 #[171] #[{ accessFlags := 26, nameIndex := 173, descriptorIndex := 19, attributes := #[] }, { accessFlags := 26, nameIndex := 175, descriptorIndex := 19, attributes := #[] }, { accessFlags := 130, nameIndex := 116, descriptorIndex := 117, attributes := #[] }, { accessFlags := 2, nameIndex := 18, descriptorIndex := 19, attributes := #[] }, { accessFlags := 2, nameIndex := 22, descriptorIndex := 19, attributes := #[] }, { accessFlags := 2, nameIndex := 25, descriptorIndex := 19, attributes := #[] }, { accessFlags := 2, nameIndex := 38, descriptorIndex := 19, attributes := #[] }, { accessFlags := 2, nameIndex := 43, descriptorIndex := 19, attributes := #[] }, { accessFlags := 2, nameIndex := 46, descriptorIndex := 19, attributes := #[] }, { accessFlags := 2, nameIndex := 49, descriptorIndex := 50, attributes := #[] }, { accessFlags := 2, nameIndex := 14, descriptorIndex := 15, attributes := #[] }, { accessFlags := 26, nameIndex := 178, descriptorIndex := 15, attributes := #[] }, { accessFlags := 26, nameIndex := 180, descriptorIndex := 15, attributes := #[] }, { accessFlags := 26, nameIndex := 182, descriptorIndex := 183, attributes := #[] }])
  fields := #[{ name := "NATIVE_METHOD", type := (.object "java/lang/String"), accessFlags := 26, slot := 0, constantValue := 0 }, { name := "UNKNOWN_SOURCE", type := (.object "java/lang/String"), accessFlags := 26, slot := 1, constantValue := 0 }, { name := "declaringClassObject", type := (.object "java/lang/Class"), accessFlags := 130, slot := 0, constantValue := 0 }, { name := "classLoaderName", type := (.object "java/lang/String"), accessFlags := 2, slot := 1, constantValue := 0 }, { name := "moduleName", type := (.object "java/lang/String"), accessFlags := 2, slot := 2, constantValue := 0 }, { name := "moduleVersion", type := (.object "java/lang/String"), accessFlags := 2, slot := 3, constantValue := 0 }, { name := "declaringClass", type := (.object "java/lang/String"), accessFlags := 2, slot := 4, constantValue := 0 }, { name := "methodName", type := (.object "java/lang/String"), accessFlags := 2, slot := 5, constantValue := 0 }, { name := "fileName", type := (.object "java/lang/String"), accessFlags := 2, slot := 6, constantValue := 0 }, { name := "lineNumber", type := .int, accessFlags := 2, slot := 7, constantValue := 0 }, { name := "format", type := .byte, accessFlags := 2, slot := 8, constantValue := 0 }, { name := "BUILTIN_CLASS_LOADER", type := .byte, accessFlags := 26, slot := 2, constantValue := 0 }, { name := "JDK_NON_UPGRADEABLE_MODULE", type := .byte, accessFlags := 26, slot := 3, constantValue := 0 }, { name := "serialVersionUID", type := .long, accessFlags := 26, slot := 4, constantValue := 0 }]
  methods := #[k33m0]
  instanceTypes := #[(.object "java/lang/Class"), (.object "java/lang/String"), (.object "java/lang/String"), (.object "java/lang/String"), (.object "java/lang/String"), (.object "java/lang/String"), (.object "java/lang/String"), .int, .byte]
  staticTypes := #[(.object "java/lang/String"), (.object "java/lang/String"), .byte, .byte, .long]
  resolved := Array.replicate 235 none
  statics := none }

/-- the primitive byte -/
def k34 : Class := { plain "byte" none with kind := .primitive 'B', accessFlags := 0x411 }
/-- [B -/
def k35 : Class := { plain "[B" (some 0) with kind := .array 34 .byte, interfaces := #[23, 2], accessFlags := 1041 }

/-- the primitive char -/
def k36 : Class := { plain "char" none with kind := .primitive 'C', accessFlags := 0x411 }
/-- [C -/
def k37 : Class := { plain "[C" (some 0) with kind := .array 36 .char, interfaces := #[23, 2], accessFlags := 1041 }

/-- the primitive int -/
def k38 : Class := { plain "int" none with kind := .primitive 'I', accessFlags := 0x411 }
/-- [I -/
def k39 : Class := { plain "[I" (some 0) with kind := .array 38 .int, interfaces := #[23, 2], accessFlags := 1041 }

/-- [Ljava/lang/Object; -/
def k40 : Class := { plain "[Ljava/lang/Object;" (some 0) with kind := .array 0 (.object "java/lang/Object"), interfaces := #[23, 2], accessFlags := 1041 }

/-- [Ljava/lang/StackTraceElement; -/
def k41 : Class := { plain "[Ljava/lang/StackTraceElement;" (some 0) with kind := .array 33 (.object "java/lang/StackTraceElement"), interfaces := #[23, 2], accessFlags := 1041 }

/-- [Ljava/lang/Throwable; -/
def k42 : Class := { plain "[Ljava/lang/Throwable;" (some 0) with kind := .array 10 (.object "java/lang/Throwable"), interfaces := #[23, 2], accessFlags := 1041 }

def heap : Heap := #[{ cls := 7, slots := #[.long 0, .int 1, .null, .int 0, .null, .int 0, .int 0], vm := .statics 7 },
  { cls := 8, slots := #[.int 0, .int 8, .int 0, .int 1], vm := .statics 8 },
  { cls := 10, slots := #[.long 0, .ref 5, .ref 6, .null, .null, .null, .null, .ref 7, .int 1], vm := .statics 10 },
  { cls := 22, slots := #[.null, .null, .null], vm := .statics 22 },
  { cls := 24, slots := #[.int 0, .int 0, .int 0, .int 0, .int 0, .int 0, .int 0, .int 0, .null, .null, .ref 6, .null], vm := .statics 24 },
  { cls := 41, slots := #[], vm := .none },
  { cls := 32, slots := #[.int 0], vm := .none },
  { cls := 42, slots := #[], vm := .none }]
def classes : Array Class := #[k0, k1, k2, k3, k4, k5, k6, k7, k8, k9, k10, k11, k12, k13, k14, k15, k16, k17, k18, k19, k20, k21, k22, k23, k24, k25, k26, k27, k28, k29, k30, k31, k32, k33, k34, k35, k36, k37, k38, k39, k40, k41, k42]
def interned : List (Array UInt16 × Addr) := []
def slotsUsed : Nat := 36
def theMethod : MethodId := ⟨1, 1⟩
def args0 : Array Value := #[.int 5, .int 5, .int 5, .int 5]
def aboutOver (below : List Frame) : State where
  vm := { classes := classes, interned := interned.toArray }
  heap := heap
  slotsUsed := slotsUsed
  threads := #[{ frames := .invoking theMethod args0 :: below }]
def below0 : List Frame := [.native { method := ⟨0, 0⟩, args := #[] }]
def about1 : State := aboutOver below0
def p0 : Program := .bare "" "" ""
def e0 : Env := launch0.env 0 0 0
theorem w_frames : about1.frames = Frame.invoking theMethod args0 :: below0 := rfl
set_option maxRecDepth 65536 in
theorem w_args : argsFit about1.vm theMethod args0 = true := by decide +kernel
set_option maxRecDepth 65536 in
theorem w_heap : heapFits about1 = true := by decide +kernel
set_option maxRecDepth 65536 in
theorem w_runnable : about1.curStatus? = some .runnable := by decide +kernel
set_option maxRecDepth 65536 in
theorem w_alone : about1.alone = true := by decide +kernel
set_option maxRecDepth 65536 in
theorem w_named : about1.methodNamed? x = some theMethod := by decide +kernel
set_option maxRecDepth 65536 in
theorem w_hears : about1.hears theMethod below0 = true := by decide +kernel
set_option maxRecDepth 65536 in
theorem w_ripe : about1.ripe theMethod args0 below0 = true := by decide +kernel
theorem w_running : about1.status = .running := rfl
set_option maxRecDepth 65536 in
theorem w_room : about1.hasRoom e0.platform room_1 = true :=
  launch0.hasRoom_least _ room_1 (by decide +kernel) (by decide +kernel) (by decide +kernel) (by decide +kernel) (by decide +kernel) (by decide +kernel)
theorem allAtoms_all (ts : List Jvm.Cond) (a : Array Jvm.Value) (st : Jvm.State) : (allAtoms ts).before a st = ts.all (fun c => c.before a st) := by
  induction ts with
  | nil => rfl
  | cons c t ih =>
    show (Jvm.Cond.and c (allAtoms t)).before a st = _
    rw [Jvm.Cond.before_and, ih, List.all_cons]
def words1 : List Jvm.Cond := Jvm.Cond.code x code maxLocals ret :: tables_1
/-- a 'code' word, met by the world's own term for the bytes: nothing is compared byte by byte -/
theorem code_word {y : MethodName} {bytes : ByteArray} {mx : Nat} {rt : Option FieldType} {a : Array Value} {s : State} {m : MethodId} {meth : Method} {c : Code} (h1 : s.methodNamed? y = some m) (h2 : s.vm.method? m = some meth) (h3 : meth.code = some c) (h4 : c.code = bytes)
    (h5 : (c.maxLocals == mx && c.exceptionTable.isEmpty && decide (c.maxStack ≤ mostOperands) && decide (meth.sig.returnType = rt) && !meth.locks && decide (parseMethodDescriptor y.desc = some meth.sig)) = true) : (Jvm.Cond.code y bytes mx rt).before a s = true := by
  simp only [Bool.and_eq_true, beq_iff_eq, Bool.not_eq_true', decide_eq_true_eq] at h5
  obtain ⟨⟨⟨⟨⟨g1, g2⟩, g3⟩, g4⟩, g5⟩, g6⟩ := h5
  simp [Cond.before, Cond.holds, Cond.value, h1, h2, h3, h4, g1, g2, g3, g4, g5, g6]
def isCode : Jvm.Cond → Bool
  | .code _ _ _ _ => true
  | _ => false
theorem all_split {L : List Jvm.Cond} {P : Jvm.Cond → Bool} (h1 : L.all (fun c => isCode c || P c) = true) (h2 : ∀ c ∈ L.filter isCode, P c = true) : L.all P = true := by
  refine List.all_eq_true.mpr fun c hc => ?_
  have h := List.all_eq_true.mp h1 c hc
  rcases Bool.eq_false_or_eq_true (isCode c) with hi | hi
  · exact h2 c (List.mem_filter.mpr ⟨hc, hi⟩)
  · simpa [hi] using h
set_option maxRecDepth 65536 in
theorem w_c0 : (Jvm.Cond.code x code maxLocals ret).before args0 about1 = true := code_word (m := ⟨1, 1⟩) (meth := k1m1) (c := k1c1) (by decide +kernel) rfl rfl rfl (by decide +kernel)
set_option maxRecDepth 65536 in
theorem w_c1 : (Jvm.Cond.code ({ cls := "java/lang/String", name := "<init>", desc := "([C)V" } : Jvm.MethodName) jdk_42_method_3_code (2 : Nat) (Option.none : Option Jvm.ClassFile.FieldType)).before args0 about1 = true := code_word (m := ⟨7, 1⟩) (meth := k7m1) (c := k7c1) (by decide +kernel) rfl rfl rfl (by decide +kernel)
set_option maxRecDepth 65536 in
theorem w_c2 : (Jvm.Cond.code ({ cls := "java/lang/String", name := "<init>", desc := "([CIILjava/lang/Void;)V" } : Jvm.MethodName) jdk_42_method_149_code (6 : Nat) (Option.none : Option Jvm.ClassFile.FieldType)).before args0 about1 = true := code_word (m := ⟨7, 6⟩) (meth := k7m6) (c := k7c6) (by decide +kernel) rfl rfl rfl (by decide +kernel)
set_option maxRecDepth 65536 in
theorem w_c3 : (Jvm.Cond.code ({ cls := "java/lang/Object", name := "<init>", desc := "()V" } : Jvm.MethodName) object_method_1_code (1 : Nat) (Option.none : Option Jvm.ClassFile.FieldType)).before args0 about1 = true := code_word (m := ⟨0, 0⟩) (meth := k0m0) (c := k0c0) (by decide +kernel) rfl rfl rfl (by decide +kernel)
set_option maxRecDepth 65536 in
theorem w_c4 : (Jvm.Cond.code ({ cls := "java/lang/StringUTF16", name := "compress", desc := "([CII)[B" } : Jvm.MethodName) jdk_52_method_16_code (6 : Nat) (Option.some (Jvm.ClassFile.FieldType.array Jvm.ClassFile.FieldType.byte))).before args0 about1 = true := code_word (m := ⟨8, 8⟩) (meth := k8m8) (c := k8c8) (by decide +kernel) rfl rfl rfl (by decide +kernel)
set_option maxRecDepth 65536 in
theorem w_c5 : (Jvm.Cond.code ({ cls := "java/lang/StringUTF16", name := "compress", desc := "([CI[BII)I" } : Jvm.MethodName) jdk_52_method_21_code (7 : Nat) (Option.some Jvm.ClassFile.FieldType.int)).before args0 about1 = true := code_word (m := ⟨8, 9⟩) (meth := k8m9) (c := k8c9) (by decide +kernel) rfl rfl rfl (by decide +kernel)
set_option maxRecDepth 65536 in
theorem w_c6 : (Jvm.Cond.code ({ cls := "java/lang/StringUTF16", name := "coderFromArrayLen", desc := "([BI)B" } : Jvm.MethodName) jdk_52_method_15_code (2 : Nat) (Option.some Jvm.ClassFile.FieldType.byte)).before args0 about1 = true := code_word (m := ⟨8, 7⟩) (meth := k8m7) (c := k8c7) (by decide +kernel) rfl rfl rfl (by decide +kernel)
set_option maxRecDepth 65536 in
theorem w_c7 : (Jvm.Cond.code ({ cls := "com/example/cohortwise/cohortwise/cli/Arguments", name := "missingOption", desc := "(Ljava/lang/String;)Lcom/example/cohortwise/cohortwise/cli/InputRefusedException;" } : Jvm.MethodName) prog_1_method_5_code (1 : Nat) (Option.some (Jvm.ClassFile.FieldType.object "com/example/cohortwise/cohortwise/cli/InputRefusedException"))).before args0 about1 = true := code_word (m := ⟨9, 0⟩) (meth := k9m0) (c := k9c0) (by decide +kernel) rfl rfl rfl (by decide +kernel)
set_option maxRecDepth 65536 in
theorem w_c8 : (Jvm.Cond.code ({ cls := "java/lang/StringBuilder", name := "<init>", desc := "()V" } : Jvm.MethodName) jdk_67_method_1_code (1 : Nat) (Option.none : Option Jvm.ClassFile.FieldType)).before args0 about1 = true := code_word (m := ⟨16, 0⟩) (meth := k16m0) (c := k16c0) (by decide +kernel) rfl rfl rfl (by decide +kernel)
set_option maxRecDepth 65536 in
theorem w_c9 : (Jvm.Cond.code ({ cls := "java/lang/AbstractStringBuilder", name := "<init>", desc := "(I)V" } : Jvm.MethodName) jdk_68_method_2_code (2 : Nat) (Option.none : Option Jvm.ClassFile.FieldType)).before args0 about1 = true := code_word (m := ⟨15, 1⟩) (meth := k15m1) (c := k15c1) (by decide +kernel) rfl rfl rfl (by decide +kernel)
set_option maxRecDepth 65536 in
theorem w_c10 : (Jvm.Cond.code ({ cls := "java/lang/StringBuilder", name := "append", desc := "(Ljava/lang/String;)Ljava/lang/StringBuilder;" } : Jvm.MethodName) jdk_67_method_7_code (2 : Nat) (Option.some (Jvm.ClassFile.FieldType.object "java/lang/StringBuilder"))).before args0 about1 = true := code_word (m := ⟨16, 1⟩) (meth := k16m1) (c := k16c1) (by decide +kernel) rfl rfl rfl (by decide +kernel)
set_option maxRecDepth 65536 in
theorem w_c11 : (Jvm.Cond.code ({ cls := "java/lang/AbstractStringBuilder", name := "append", desc := "(Ljava/lang/String;)Ljava/lang/AbstractStringBuilder;" } : Jvm.MethodName) jdk_68_method_22_code (3 : Nat) (Option.some (Jvm.ClassFile.FieldType.object "java/lang/AbstractStringBuilder"))).before args0 about1 = true := code_word (m := ⟨15, 6⟩) (meth := k15m6) (c := k15c6) (by decide +kernel) rfl rfl rfl (by decide +kernel)
set_option maxRecDepth 65536 in
theorem w_c12 : (Jvm.Cond.code ({ cls := "java/lang/String", name := "length", desc := "()I" } : Jvm.MethodName) jdk_42_method_54_code (1 : Nat) (Option.some Jvm.ClassFile.FieldType.int)).before args0 about1 = true := code_word (m := ⟨7, 3⟩) (meth := k7m3) (c := k7c3) (by decide +kernel) rfl rfl rfl (by decide +kernel)
set_option maxRecDepth 65536 in
theorem w_c13 : (Jvm.Cond.code ({ cls := "java/lang/String", name := "coder", desc := "()B" } : Jvm.MethodName) jdk_42_method_152_code (1 : Nat) (Option.some Jvm.ClassFile.FieldType.byte)).before args0 about1 = true := code_word (m := ⟨7, 8⟩) (meth := k7m8) (c := k7c8) (by decide +kernel) rfl rfl rfl (by decide +kernel)
set_option maxRecDepth 65536 in
theorem w_c14 : (Jvm.Cond.code ({ cls := "java/lang/AbstractStringBuilder", name := "ensureCapacityInternal", desc := "(I)V" } : Jvm.MethodName) jdk_68_method_9_code (3 : Nat) (Option.none : Option Jvm.ClassFile.FieldType)).before args0 about1 = true := code_word (m := ⟨15, 3⟩) (meth := k15m3) (c := k15c3) (by decide +kernel) rfl rfl rfl (by decide +kernel)
set_option maxRecDepth 65536 in
theorem w_c15 : (Jvm.Cond.code ({ cls := "java/lang/AbstractStringBuilder", name := "putStringAt", desc := "(ILjava/lang/String;)V" } : Jvm.MethodName) jdk_68_method_73_code (3 : Nat) (Option.none : Option Jvm.ClassFile.FieldType)).before args0 about1 = true := code_word (m := ⟨15, 10⟩) (meth := k15m10) (c := k15c10) (by decide +kernel) rfl rfl rfl (by decide +kernel)
set_option maxRecDepth 65536 in
theorem w_c16 : (Jvm.Cond.code ({ cls := "java/lang/AbstractStringBuilder", name := "inflateIfNeededFor", desc := "(Ljava/lang/String;)V" } : Jvm.MethodName) jdk_68_method_71_code (2 : Nat) (Option.none : Option Jvm.ClassFile.FieldType)).before args0 about1 = true := code_word (m := ⟨15, 9⟩) (meth := k15m9) (c := k15c9) (by decide +kernel) rfl rfl rfl (by decide +kernel)
set_option maxRecDepth 65536 in
theorem w_c17 : (Jvm.Cond.code ({ cls := "java/lang/String", name := "getBytes", desc := "([BIB)V" } : Jvm.MethodName) jdk_42_method_147_code (4 : Nat) (Option.none : Option Jvm.ClassFile.FieldType)).before args0 about1 = true := code_word (m := ⟨7, 5⟩) (meth := k7m5) (c := k7c5) (by decide +kernel) rfl rfl rfl (by decide +kernel)
set_option maxRecDepth 65536 in
theorem w_c18 : (Jvm.Cond.code ({ cls := "java/lang/StringBuilder", name := "toString", desc := "()Ljava/lang/String;" } : Jvm.MethodName) jdk_67_method_42_code (1 : Nat) (Option.some (Jvm.ClassFile.FieldType.object "java/lang/String"))).before args0 about1 = true := code_word (m := ⟨16, 2⟩) (meth := k16m2) (c := k16c2) (by decide +kernel) rfl rfl rfl (by decide +kernel)
set_option maxRecDepth 65536 in
theorem w_c19 : (Jvm.Cond.code ({ cls := "java/lang/String", name := "<init>", desc := "(Ljava/lang/StringBuilder;)V" } : Jvm.MethodName) jdk_42_method_53_code (2 : Nat) (Option.none : Option Jvm.ClassFile.FieldType)).before args0 about1 = true := code_word (m := ⟨7, 2⟩) (meth := k7m2) (c := k7c2) (by decide +kernel) rfl rfl rfl (by decide +kernel)
set_option maxRecDepth 65536 in
theorem w_c20 : (Jvm.Cond.code ({ cls := "java/lang/String", name := "<init>", desc := "(Ljava/lang/AbstractStringBuilder;Ljava/lang/Void;)V" } : Jvm.MethodName) jdk_42_method_150_code (5 : Nat) (Option.none : Option Jvm.ClassFile.FieldType)).before args0 about1 = true := code_word (m := ⟨7, 7⟩) (meth := k7m7) (c := k7c7) (by decide +kernel) rfl rfl rfl (by decide +kernel)
set_option maxRecDepth 65536 in
theorem w_c21 : (Jvm.Cond.code ({ cls := "java/lang/AbstractStringBuilder", name := "getValue", desc := "()[B" } : Jvm.MethodName) jdk_68_method_64_code (1 : Nat) (Option.some (Jvm.ClassFile.FieldType.array Jvm.ClassFile.FieldType.byte))).before args0 about1 = true := code_word (m := ⟨15, 7⟩) (meth := k15m7) (c := k15c7) (by decide +kernel) rfl rfl rfl (by decide +kernel)
set_option maxRecDepth 65536 in
theorem w_c22 : (Jvm.Cond.code ({ cls := "java/lang/StringBuilder", name := "length", desc := "()I" } : Jvm.MethodName) jdk_67_method_93_code (1 : Nat) (Option.some Jvm.ClassFile.FieldType.int)).before args0 about1 = true := code_word (m := ⟨16, 3⟩) (meth := k16m3) (c := k16c3) (by decide +kernel) rfl rfl rfl (by decide +kernel)
set_option maxRecDepth 65536 in
theorem w_c23 : (Jvm.Cond.code ({ cls := "java/lang/AbstractStringBuilder", name := "length", desc := "()I" } : Jvm.MethodName) jdk_68_method_6_code (1 : Nat) (Option.some Jvm.ClassFile.FieldType.int)).before args0 about1 = true := code_word (m := ⟨15, 2⟩) (meth := k15m2) (c := k15c2) (by decide +kernel) rfl rfl rfl (by decide +kernel)
set_option maxRecDepth 65536 in
theorem w_c24 : (Jvm.Cond.code ({ cls := "java/lang/AbstractStringBuilder", name := "isLatin1", desc := "()Z" } : Jvm.MethodName) jdk_68_method_68_code (1 : Nat) (Option.some Jvm.ClassFile.FieldType.boolean)).before args0 about1 = true := code_word (m := ⟨15, 8⟩) (meth := k15m8) (c := k15c8) (by decide +kernel) rfl rfl rfl (by decide +kernel)
set_option maxRecDepth 65536 in
theorem w_c25 : (Jvm.Cond.code ({ cls := "java/util/Arrays", name := "copyOfRange", desc := "([BII)[B" } : Jvm.MethodName) jdk_65_method_132_code (3 : Nat) (Option.some (Jvm.ClassFile.FieldType.array Jvm.ClassFile.FieldType.byte))).before args0 about1 = true := code_word (m := ⟨18, 3⟩) (meth := k18m3) (c := k18c3) (by decide +kernel) rfl rfl rfl (by decide +kernel)
set_option maxRecDepth 65536 in
theorem w_c26 : (Jvm.Cond.code ({ cls := "java/util/Arrays", name := "copyOfRangeByte", desc := "([BII)[B" } : Jvm.MethodName) jdk_65_method_133_code (5 : Nat) (Option.some (Jvm.ClassFile.FieldType.array Jvm.ClassFile.FieldType.byte))).before args0 about1 = true := code_word (m := ⟨18, 4⟩) (meth := k18m4) (c := k18c4) (by decide +kernel) rfl rfl rfl (by decide +kernel)
set_option maxRecDepth 65536 in
theorem w_c27 : (Jvm.Cond.code ({ cls := "java/util/Arrays", name := "checkLength", desc := "(II)V" } : Jvm.MethodName) jdk_65_method_131_code (2 : Nat) (Option.none : Option Jvm.ClassFile.FieldType)).before args0 about1 = true := code_word (m := ⟨18, 2⟩) (meth := k18m2) (c := k18c2) (by decide +kernel) rfl rfl rfl (by decide +kernel)
set_option maxRecDepth 65536 in
theorem w_c28 : (Jvm.Cond.code ({ cls := "java/lang/Math", name := "min", desc := "(II)I" } : Jvm.MethodName) jdk_29_method_69_code (2 : Nat) (Option.some Jvm.ClassFile.FieldType.int)).before args0 about1 = true := code_word (m := ⟨19, 2⟩) (meth := k19m2) (c := k19c2) (by decide +kernel) rfl rfl rfl (by decide +kernel)
set_option maxRecDepth 65536 in
theorem w_c29 : (Jvm.Cond.code ({ cls := "com/example/cohortwise/cohortwise/cli/InputRefusedException", name := "<init>", desc := "(Ljava/lang/String;)V" } : Jvm.MethodName) prog_6_method_1_code (2 : Nat) (Option.none : Option Jvm.ClassFile.FieldType)).before args0 about1 = true := code_word (m := ⟨13, 0⟩) (meth := k13m0) (c := k13c0) (by decide +kernel) rfl rfl rfl (by decide +kernel)
set_option maxRecDepth 65536 in
theorem w_c30 : (Jvm.Cond.code ({ cls := "java/lang/RuntimeException", name := "<init>", desc := "(Ljava/lang/String;)V" } : Jvm.MethodName) jdk_58_method_2_code (2 : Nat) (Option.none : Option Jvm.ClassFile.FieldType)).before args0 about1 = true := code_word (m := ⟨12, 1⟩) (meth := k12m1) (c := k12c1) (by decide +kernel) rfl rfl rfl (by decide +kernel)
set_option maxRecDepth 65536 in
theorem w_c31 : (Jvm.Cond.code ({ cls := "java/lang/Exception", name := "<init>", desc := "(Ljava/lang/String;)V" } : Jvm.MethodName) jdk_59_method_2_code (2 : Nat) (Option.none : Option Jvm.ClassFile.FieldType)).before args0 about1 = true := code_word (m := ⟨11, 1⟩) (meth := k11m1) (c := k11c1) (by decide +kernel) rfl rfl rfl (by decide +kernel)
set_option maxRecDepth 65536 in
theorem w_c32 : (Jvm.Cond.code ({ cls := "java/lang/Throwable", name := "<init>", desc := "(Ljava/lang/String;)V" } : Jvm.MethodName) jdk_78_method_2_code (2 : Nat) (Option.none : Option Jvm.ClassFile.FieldType)).before args0 about1 = true := code_word (m := ⟨10, 1⟩) (meth := k10m1) (c := k10c1) (by decide +kernel) rfl rfl rfl (by decide +kernel)
set_option maxRecDepth 65536 in
theorem w_c33 : (Jvm.Cond.code ({ cls := "java/lang/Throwable", name := "<init>", desc := "()V" } : Jvm.MethodName) jdk_78_method_1_code (1 : Nat) (Option.none : Option Jvm.ClassFile.FieldType)).before args0 about1 = true := code_word (m := ⟨10, 0⟩) (meth := k10m0) (c := k10c0) (by decide +kernel) rfl rfl rfl (by decide +kernel)
set_option maxRecDepth 65536 in
theorem w_c34 : (Jvm.Cond.code ({ cls := "java/lang/Throwable", name := "getMessage", desc := "()Ljava/lang/String;" } : Jvm.MethodName) jdk_78_method_6_code (1 : Nat) (Option.some (Jvm.ClassFile.FieldType.object "java/lang/String"))).before args0 about1 = true := code_word (m := ⟨10, 2⟩) (meth := k10m2) (c := k10c2) (by decide +kernel) rfl rfl rfl (by decide +kernel)
set_option maxRecDepth 65536 in
theorem w_c35 : (Jvm.Cond.code ({ cls := "java/lang/String", name := "equals", desc := "(Ljava/lang/Object;)Z" } : Jvm.MethodName) jdk_42_method_66_code (3 : Nat) (Option.some Jvm.ClassFile.FieldType.boolean)).before args0 about1 = true := code_word (m := ⟨7, 4⟩) (meth := k7m4) (c := k7c4) (by decide +kernel) rfl rfl rfl (by decide +kernel)
set_option maxRecDepth 65536 in
theorem w_c36 : (Jvm.Cond.code ({ cls := "java/lang/StringLatin1", name := "equals", desc := "([B[B)Z" } : Jvm.MethodName) jdk_43_method_13_code (3 : Nat) (Option.some Jvm.ClassFile.FieldType.boolean)).before args0 about1 = true := code_word (m := ⟨20, 1⟩) (meth := k20m1) (c := k20c1) (by decide +kernel) rfl rfl rfl (by decide +kernel)
set_option maxRecDepth 65536 in
theorem w_c37 : (Jvm.Cond.code ({ cls := "java/lang/AbstractStringBuilder", name := "newCapacity", desc := "(I)I" } : Jvm.MethodName) jdk_68_method_10_code (6 : Nat) (Option.some Jvm.ClassFile.FieldType.int)).before args0 about1 = true := code_word (m := ⟨15, 4⟩) (meth := k15m4) (c := k15c4) (by decide +kernel) rfl rfl rfl (by decide +kernel)
set_option maxRecDepth 65536 in
theorem w_c38 : (Jvm.Cond.code ({ cls := "jdk/internal/util/ArraysSupport", name := "newLength", desc := "(III)I" } : Jvm.MethodName) jdk_48_method_27_code (4 : Nat) (Option.some Jvm.ClassFile.FieldType.int)).before args0 about1 = true := code_word (m := ⟨21, 1⟩) (meth := k21m1) (c := k21c1) (by decide +kernel) rfl rfl rfl (by decide +kernel)
set_option maxRecDepth 65536 in
theorem w_c39 : (Jvm.Cond.code ({ cls := "java/lang/Math", name := "max", desc := "(II)I" } : Jvm.MethodName) jdk_29_method_65_code (2 : Nat) (Option.some Jvm.ClassFile.FieldType.int)).before args0 about1 = true := code_word (m := ⟨19, 1⟩) (meth := k19m1) (c := k19c1) (by decide +kernel) rfl rfl rfl (by decide +kernel)
set_option maxRecDepth 65536 in
theorem w_c40 : (Jvm.Cond.code ({ cls := "java/util/Arrays", name := "copyOf", desc := "([BI)[B" } : Jvm.MethodName) jdk_65_method_121_code (3 : Nat) (Option.some (Jvm.ClassFile.FieldType.array Jvm.ClassFile.FieldType.byte))).before args0 about1 = true := code_word (m := ⟨18, 1⟩) (meth := k18m1) (c := k18c1) (by decide +kernel) rfl rfl rfl (by decide +kernel)
set_option maxRecDepth 65536 in
theorem w_c41 : (Jvm.Cond.code ({ cls := "java/lang/StringUTF16", name := "toBytes", desc := "([CII)[B" } : Jvm.MethodName) jdk_52_method_14_code (5 : Nat) (Option.some (Jvm.ClassFile.FieldType.array Jvm.ClassFile.FieldType.byte))).before args0 about1 = true := code_word (m := ⟨8, 6⟩) (meth := k8m6) (c := k8c6) (by decide +kernel) rfl rfl rfl (by decide +kernel)
set_option maxRecDepth 65536 in
theorem w_c42 : (Jvm.Cond.code ({ cls := "java/lang/StringUTF16", name := "newBytesFor", desc := "(I)[B" } : Jvm.MethodName) jdk_52_method_2_code (1 : Nat) (Option.some (Jvm.ClassFile.FieldType.array Jvm.ClassFile.FieldType.byte))).before args0 about1 = true := code_word (m := ⟨8, 1⟩) (meth := k8m1) (c := k8c1) (by decide +kernel) rfl rfl rfl (by decide +kernel)
set_option maxRecDepth 65536 in
theorem w_c43 : (Jvm.Cond.code ({ cls := "java/lang/StringUTF16", name := "newBytesLength", desc := "(I)I" } : Jvm.MethodName) jdk_52_method_3_code (1 : Nat) (Option.some Jvm.ClassFile.FieldType.int)).before args0 about1 = true := code_word (m := ⟨8, 2⟩) (meth := k8m2) (c := k8c2) (by decide +kernel) rfl rfl rfl (by decide +kernel)
set_option maxRecDepth 65536 in
theorem w_c44 : (Jvm.Cond.code ({ cls := "java/lang/StringUTF16", name := "putChar", desc := "([BII)V" } : Jvm.MethodName) jdk_52_method_4_code (3 : Nat) (Option.none : Option Jvm.ClassFile.FieldType)).before args0 about1 = true := code_word (m := ⟨8, 3⟩) (meth := k8m3) (c := k8c3) (by decide +kernel) rfl rfl rfl (by decide +kernel)
set_option maxRecDepth 65536 in
theorem w_c45 : (Jvm.Cond.code ({ cls := "java/lang/StringUTF16", name := "getChar", desc := "([BI)C" } : Jvm.MethodName) jdk_52_method_5_code (2 : Nat) (Option.some Jvm.ClassFile.FieldType.char)).before args0 about1 = true := code_word (m := ⟨8, 4⟩) (meth := k8m4) (c := k8c4) (by decide +kernel) rfl rfl rfl (by decide +kernel)
set_option maxRecDepth 65536 in
theorem w_c46 : (Jvm.Cond.code ({ cls := "java/lang/AbstractStringBuilder", name := "inflate", desc := "()V" } : Jvm.MethodName) jdk_68_method_11_code (2 : Nat) (Option.none : Option Jvm.ClassFile.FieldType)).before args0 about1 = true := code_word (m := ⟨15, 5⟩) (meth := k15m5) (c := k15c5) (by decide +kernel) rfl rfl rfl (by decide +kernel)
set_option maxRecDepth 65536 in
theorem w_c47 : (Jvm.Cond.code ({ cls := "java/lang/StringLatin1", name := "inflate", desc := "([BI[BII)V" } : Jvm.MethodName) jdk_43_method_50_code (5 : Nat) (Option.none : Option Jvm.ClassFile.FieldType)).before args0 about1 = true := code_word (m := ⟨20, 2⟩) (meth := k20m2) (c := k20c2) (by decide +kernel) rfl rfl rfl (by decide +kernel)
set_option maxRecDepth 65536 in
theorem w_c48 : (Jvm.Cond.code ({ cls := "java/lang/StringUTF16", name := "inflate", desc := "([BI[BII)V" } : Jvm.MethodName) jdk_52_method_86_code (6 : Nat) (Option.none : Option Jvm.ClassFile.FieldType)).before args0 about1 = true := code_word (m := ⟨8, 10⟩) (meth := k8m10) (c := k8c10) (by decide +kernel) rfl rfl rfl (by decide +kernel)
set_option maxRecDepth 65536 in
theorem w_c49 : (Jvm.Cond.code ({ cls := "java/lang/StringUTF16", name := "checkBoundsOffCount", desc := "(II[B)V" } : Jvm.MethodName) jdk_52_method_94_code (3 : Nat) (Option.none : Option Jvm.ClassFile.FieldType)).before args0 about1 = true := code_word (m := ⟨8, 11⟩) (meth := k8m11) (c := k8c11) (by decide +kernel) rfl rfl rfl (by decide +kernel)
set_option maxRecDepth 65536 in
theorem w_c50 : (Jvm.Cond.code ({ cls := "java/lang/StringUTF16", name := "length", desc := "([B)I" } : Jvm.MethodName) jdk_52_method_6_code (1 : Nat) (Option.some Jvm.ClassFile.FieldType.int)).before args0 about1 = true := code_word (m := ⟨8, 5⟩) (meth := k8m5) (c := k8c5) (by decide +kernel) rfl rfl rfl (by decide +kernel)
set_option maxRecDepth 65536 in
theorem w_c51 : (Jvm.Cond.code ({ cls := "java/lang/String", name := "checkBoundsOffCount", desc := "(III)I" } : Jvm.MethodName) jdk_42_method_157_code (3 : Nat) (Option.some Jvm.ClassFile.FieldType.int)).before args0 about1 = true := code_word (m := ⟨7, 9⟩) (meth := k7m9) (c := k7c9) (by decide +kernel) rfl rfl rfl (by decide +kernel)
set_option maxRecDepth 65536 in
theorem w_c52 : (Jvm.Cond.code ({ cls := "jdk/internal/util/Preconditions", name := "checkFromIndexSize", desc := "(IIILjava/util/function/BiFunction;)I" } : Jvm.MethodName) jdk_41_method_13_code (4 : Nat) (Option.some Jvm.ClassFile.FieldType.int)).before args0 about1 = true := code_word (m := ⟨22, 1⟩) (meth := k22m1) (c := k22c1) (by decide +kernel) rfl rfl rfl (by decide +kernel)
def codes1 : List Jvm.Cond := [Jvm.Cond.code x code maxLocals ret, Jvm.Cond.code ({ cls := "java/lang/String", name := "<init>", desc := "([C)V" } : Jvm.MethodName) jdk_42_method_3_code (2 : Nat) (Option.none : Option Jvm.ClassFile.FieldType), Jvm.Cond.code ({ cls := "java/lang/String", name := "<init>", desc := "([CIILjava/lang/Void;)V" } : Jvm.MethodName) jdk_42_method_149_code (6 : Nat) (Option.none : Option Jvm.ClassFile.FieldType), Jvm.Cond.code ({ cls := "java/lang/Object", name := "<init>", desc := "()V" } : Jvm.MethodName) object_method_1_code (1 : Nat) (Option.none : Option Jvm.ClassFile.FieldType), Jvm.Cond.code ({ cls := "java/lang/StringUTF16", name := "compress", desc := "([CII)[B" } : Jvm.MethodName) jdk_52_method_16_code (6 : Nat) (Option.some (Jvm.ClassFile.FieldType.array Jvm.ClassFile.FieldType.byte)), Jvm.Cond.code ({ cls := "java/lang/StringUTF16", name := "compress", desc := "([CI[BII)I" } : Jvm.MethodName) jdk_52_method_21_code (7 : Nat) (Option.some Jvm.ClassFile.FieldType.int), Jvm.Cond.code ({ cls := "java/lang/StringUTF16", name := "coderFromArrayLen", desc := "([BI)B" } : Jvm.MethodName) jdk_52_method_15_code (2 : Nat) (Option.some Jvm.ClassFile.FieldType.byte), Jvm.Cond.code ({ cls := "com/example/cohortwise/cohortwise/cli/Arguments", name := "missingOption", desc := "(Ljava/lang/String;)Lcom/example/cohortwise/cohortwise/cli/InputRefusedException;" } : Jvm.MethodName) prog_1_method_5_code (1 : Nat) (Option.some (Jvm.ClassFile.FieldType.object "com/example/cohortwise/cohortwise/cli/InputRefusedException")), Jvm.Cond.code ({ cls := "java/lang/StringBuilder", name := "<init>", desc := "()V" } : Jvm.MethodName) jdk_67_method_1_code (1 : Nat) (Option.none : Option Jvm.ClassFile.FieldType), Jvm.Cond.code ({ cls := "java/lang/AbstractStringBuilder", name := "<init>", desc := "(I)V" } : Jvm.MethodName) jdk_68_method_2_code (2 : Nat) (Option.none : Option Jvm.ClassFile.FieldType), Jvm.Cond.code ({ cls := "java/lang/StringBuilder", name := "append", desc := "(Ljava/lang/String;)Ljava/lang/StringBuilder;" } : Jvm.MethodName) jdk_67_method_7_code (2 : Nat) (Option.some (Jvm.ClassFile.FieldType.object "java/lang/StringBuilder")), Jvm.Cond.code ({ cls := "java/lang/AbstractStringBuilder", name := "append", desc := "(Ljava/lang/String;)Ljava/lang/AbstractStringBuilder;" } : Jvm.MethodName) jdk_68_method_22_code (3 : Nat) (Option.some (Jvm.ClassFile.FieldType.object "java/lang/AbstractStringBuilder")), Jvm.Cond.code ({ cls := "java/lang/String", name := "length", desc := "()I" } : Jvm.MethodName) jdk_42_method_54_code (1 : Nat) (Option.some Jvm.ClassFile.FieldType.int), Jvm.Cond.code ({ cls := "java/lang/String", name := "coder", desc := "()B" } : Jvm.MethodName) jdk_42_method_152_code (1 : Nat) (Option.some Jvm.ClassFile.FieldType.byte), Jvm.Cond.code ({ cls := "java/lang/AbstractStringBuilder", name := "ensureCapacityInternal", desc := "(I)V" } : Jvm.MethodName) jdk_68_method_9_code (3 : Nat) (Option.none : Option Jvm.ClassFile.FieldType), Jvm.Cond.code ({ cls := "java/lang/AbstractStringBuilder", name := "putStringAt", desc := "(ILjava/lang/String;)V" } : Jvm.MethodName) jdk_68_method_73_code (3 : Nat) (Option.none : Option Jvm.ClassFile.FieldType), Jvm.Cond.code ({ cls := "java/lang/AbstractStringBuilder", name := "inflateIfNeededFor", desc := "(Ljava/lang/String;)V" } : Jvm.MethodName) jdk_68_method_71_code (2 : Nat) (Option.none : Option Jvm.ClassFile.FieldType), Jvm.Cond.code ({ cls := "java/lang/String", name := "getBytes", desc := "([BIB)V" } : Jvm.MethodName) jdk_42_method_147_code (4 : Nat) (Option.none : Option Jvm.ClassFile.FieldType), Jvm.Cond.code ({ cls := "java/lang/StringBuilder", name := "toString", desc := "()Ljava/lang/String;" } : Jvm.MethodName) jdk_67_method_42_code (1 : Nat) (Option.some (Jvm.ClassFile.FieldType.object "java/lang/String")), Jvm.Cond.code ({ cls := "java/lang/String", name := "<init>", desc := "(Ljava/lang/StringBuilder;)V" } : Jvm.MethodName) jdk_42_method_53_code (2 : Nat) (Option.none : Option Jvm.ClassFile.FieldType), Jvm.Cond.code ({ cls := "java/lang/String", name := "<init>", desc := "(Ljava/lang/AbstractStringBuilder;Ljava/lang/Void;)V" } : Jvm.MethodName) jdk_42_method_150_code (5 : Nat) (Option.none : Option Jvm.ClassFile.FieldType), Jvm.Cond.code ({ cls := "java/lang/AbstractStringBuilder", name := "getValue", desc := "()[B" } : Jvm.MethodName) jdk_68_method_64_code (1 : Nat) (Option.some (Jvm.ClassFile.FieldType.array Jvm.ClassFile.FieldType.byte)), Jvm.Cond.code ({ cls := "java/lang/StringBuilder", name := "length", desc := "()I" } : Jvm.MethodName) jdk_67_method_93_code (1 : Nat) (Option.some Jvm.ClassFile.FieldType.int), Jvm.Cond.code ({ cls := "java/lang/AbstractStringBuilder", name := "length", desc := "()I" } : Jvm.MethodName) jdk_68_method_6_code (1 : Nat) (Option.some Jvm.ClassFile.FieldType.int), Jvm.Cond.code ({ cls := "java/lang/AbstractStringBuilder", name := "isLatin1", desc := "()Z" } : Jvm.MethodName) jdk_68_method_68_code (1 : Nat) (Option.some Jvm.ClassFile.FieldType.boolean), Jvm.Cond.code ({ cls := "java/util/Arrays", name := "copyOfRange", desc := "([BII)[B" } : Jvm.MethodName) jdk_65_method_132_code (3 : Nat) (Option.some (Jvm.ClassFile.FieldType.array Jvm.ClassFile.FieldType.byte)), Jvm.Cond.code ({ cls := "java/util/Arrays", name := "copyOfRangeByte", desc := "([BII)[B" } : Jvm.MethodName) jdk_65_method_133_code (5 : Nat) (Option.some (Jvm.ClassFile.FieldType.array Jvm.ClassFile.FieldType.byte)), Jvm.Cond.code ({ cls := "java/util/Arrays", name := "checkLength", desc := "(II)V" } : Jvm.MethodName) jdk_65_method_131_code (2 : Nat) (Option.none : Option Jvm.ClassFile.FieldType), Jvm.Cond.code ({ cls := "java/lang/Math", name := "min", desc := "(II)I" } : Jvm.MethodName) jdk_29_method_69_code (2 : Nat) (Option.some Jvm.ClassFile.FieldType.int), Jvm.Cond.code ({ cls := "com/example/cohortwise/cohortwise/cli/InputRefusedException", name := "<init>", desc := "(Ljava/lang/String;)V" } : Jvm.MethodName) prog_6_method_1_code (2 : Nat) (Option.none : Option Jvm.ClassFile.FieldType), Jvm.Cond.code ({ cls := "java/lang/RuntimeException", name := "<init>", desc := "(Ljava/lang/String;)V" } : Jvm.MethodName) jdk_58_method_2_code (2 : Nat) (Option.none : Option Jvm.ClassFile.FieldType), Jvm.Cond.code ({ cls := "java/lang/Exception", name := "<init>", desc := "(Ljava/lang/String;)V" } : Jvm.MethodName) jdk_59_method_2_code (2 : Nat) (Option.none : Option Jvm.ClassFile.FieldType), Jvm.Cond.code ({ cls := "java/lang/Throwable", name := "<init>", desc := "(Ljava/lang/String;)V" } : Jvm.MethodName) jdk_78_method_2_code (2 : Nat) (Option.none : Option Jvm.ClassFile.FieldType), Jvm.Cond.code ({ cls := "java/lang/Throwable", name := "<init>", desc := "()V" } : Jvm.MethodName) jdk_78_method_1_code (1 : Nat) (Option.none : Option Jvm.ClassFile.FieldType), Jvm.Cond.code ({ cls := "java/lang/Throwable", name := "getMessage", desc := "()Ljava/lang/String;" } : Jvm.MethodName) jdk_78_method_6_code (1 : Nat) (Option.some (Jvm.ClassFile.FieldType.object "java/lang/String")), Jvm.Cond.code ({ cls := "java/lang/String", name := "equals", desc := "(Ljava/lang/Object;)Z" } : Jvm.MethodName) jdk_42_method_66_code (3 : Nat) (Option.some Jvm.ClassFile.FieldType.boolean), Jvm.Cond.code ({ cls := "java/lang/StringLatin1", name := "equals", desc := "([B[B)Z" } : Jvm.MethodName) jdk_43_method_13_code (3 : Nat) (Option.some Jvm.ClassFile.FieldType.boolean), Jvm.Cond.code ({ cls := "java/lang/AbstractStringBuilder", name := "newCapacity", desc := "(I)I" } : Jvm.MethodName) jdk_68_method_10_code (6 : Nat) (Option.some Jvm.ClassFile.FieldType.int), Jvm.Cond.code ({ cls := "jdk/internal/util/ArraysSupport", name := "newLength", desc := "(III)I" } : Jvm.MethodName) jdk_48_method_27_code (4 : Nat) (Option.some Jvm.ClassFile.FieldType.int), Jvm.Cond.code ({ cls := "java/lang/Math", name := "max", desc := "(II)I" } : Jvm.MethodName) jdk_29_method_65_code (2 : Nat) (Option.some Jvm.ClassFile.FieldType.int), Jvm.Cond.code ({ cls := "java/util/Arrays", name := "copyOf", desc := "([BI)[B" } : Jvm.MethodName) jdk_65_method_121_code (3 : Nat) (Option.some (Jvm.ClassFile.FieldType.array Jvm.ClassFile.FieldType.byte)), Jvm.Cond.code ({ cls := "java/lang/StringUTF16", name := "toBytes", desc := "([CII)[B" } : Jvm.MethodName) jdk_52_method_14_code (5 : Nat) (Option.some (Jvm.ClassFile.FieldType.array Jvm.ClassFile.FieldType.byte)), Jvm.Cond.code ({ cls := "java/lang/StringUTF16", name := "newBytesFor", desc := "(I)[B" } : Jvm.MethodName) jdk_52_method_2_code (1 : Nat) (Option.some (Jvm.ClassFile.FieldType.array Jvm.ClassFile.FieldType.byte)), Jvm.Cond.code ({ cls := "java/lang/StringUTF16", name := "newBytesLength", desc := "(I)I" } : Jvm.MethodName) jdk_52_method_3_code (1 : Nat) (Option.some Jvm.ClassFile.FieldType.int), Jvm.Cond.code ({ cls := "java/lang/StringUTF16", name := "putChar", desc := "([BII)V" } : Jvm.MethodName) jdk_52_method_4_code (3 : Nat) (Option.none : Option Jvm.ClassFile.FieldType), Jvm.Cond.code ({ cls := "java/lang/StringUTF16", name := "getChar", desc := "([BI)C" } : Jvm.MethodName) jdk_52_method_5_code (2 : Nat) (Option.some Jvm.ClassFile.FieldType.char), Jvm.Cond.code ({ cls := "java/lang/AbstractStringBuilder", name := "inflate", desc := "()V" } : Jvm.MethodName) jdk_68_method_11_code (2 : Nat) (Option.none : Option Jvm.ClassFile.FieldType), Jvm.Cond.code ({ cls := "java/lang/StringLatin1", name := "inflate", desc := "([BI[BII)V" } : Jvm.MethodName) jdk_43_method_50_code (5 : Nat) (Option.none : Option Jvm.ClassFile.FieldType), Jvm.Cond.code ({ cls := "java/lang/StringUTF16", name := "inflate", desc := "([BI[BII)V" } : Jvm.MethodName) jdk_52_method_86_code (6 : Nat) (Option.none : Option Jvm.ClassFile.FieldType), Jvm.Cond.code ({ cls := "java/lang/StringUTF16", name := "checkBoundsOffCount", desc := "(II[B)V" } : Jvm.MethodName) jdk_52_method_94_code (3 : Nat) (Option.none : Option Jvm.ClassFile.FieldType), Jvm.Cond.code ({ cls := "java/lang/StringUTF16", name := "length", desc := "([B)I" } : Jvm.MethodName) jdk_52_method_6_code (1 : Nat) (Option.some Jvm.ClassFile.FieldType.int), Jvm.Cond.code ({ cls := "java/lang/String", name := "checkBoundsOffCount", desc := "(III)I" } : Jvm.MethodName) jdk_42_method_157_code (3 : Nat) (Option.some Jvm.ClassFile.FieldType.int), Jvm.Cond.code ({ cls := "jdk/internal/util/Preconditions", name := "checkFromIndexSize", desc := "(IIILjava/util/function/BiFunction;)I" } : Jvm.MethodName) jdk_41_method_13_code (4 : Nat) (Option.some Jvm.ClassFile.FieldType.int)]
set_option maxRecDepth 65536 in
theorem codes_eq : words1.filter isCode = codes1 := rfl
theorem w_codes : ∀ c ∈ words1.filter isCode, c.before args0 about1 = true := by
  rw [codes_eq]
  intro c hc
  simp only [codes1, List.mem_cons, List.not_mem_nil, or_false] at hc
  rcases hc with rfl | rfl | rfl | rfl | rfl | rfl | rfl | rfl | rfl | rfl | rfl | rfl | rfl | rfl | rfl | rfl | rfl | rfl | rfl | rfl | rfl | rfl | rfl | rfl | rfl | rfl | rfl | rfl | rfl | rfl | rfl | rfl | rfl | rfl | rfl | rfl | rfl | rfl | rfl | rfl | rfl | rfl | rfl | rfl | rfl | rfl | rfl | rfl | rfl | rfl | rfl | rfl | rfl
  · exact w_c0
  · exact w_c1
  · exact w_c2
  · exact w_c3
  · exact w_c4
  · exact w_c5
  · exact w_c6
  · exact w_c7
  · exact w_c8
  · exact w_c9
  · exact w_c10
  · exact w_c11
  · exact w_c12
  · exact w_c13
  · exact w_c14
  · exact w_c15
  · exact w_c16
  · exact w_c17
  · exact w_c18
  · exact w_c19
  · exact w_c20
  · exact w_c21
  · exact w_c22
  · exact w_c23
  · exact w_c24
  · exact w_c25
  · exact w_c26
  · exact w_c27
  · exact w_c28
  · exact w_c29
  · exact w_c30
  · exact w_c31
  · exact w_c32
  · exact w_c33
  · exact w_c34
  · exact w_c35
  · exact w_c36
  · exact w_c37
  · exact w_c38
  · exact w_c39
  · exact w_c40
  · exact w_c41
  · exact w_c42
  · exact w_c43
  · exact w_c44
  · exact w_c45
  · exact w_c46
  · exact w_c47
  · exact w_c48
  · exact w_c49
  · exact w_c50
  · exact w_c51
  · exact w_c52
set_option maxRecDepth 65536 in
theorem w_t1 : (words1.take 24).all (fun c => isCode c || c.before args0 about1) = true := by decide +kernel
set_option maxRecDepth 65536 in
theorem w_t2 : ((words1.drop 24).take 24).all (fun c => isCode c || c.before args0 about1) = true := by decide +kernel
set_option maxRecDepth 65536 in
theorem w_t3 : (((words1.drop 24).drop 24).take 24).all (fun c => isCode c || c.before args0 about1) = true := by decide +kernel
set_option maxRecDepth 65536 in
theorem w_t4 : ((((words1.drop 24).drop 24).drop 24).take 24).all (fun c => isCode c || c.before args0 about1) = true := by decide +kernel
set_option maxRecDepth 65536 in
theorem w_t5 : (((((words1.drop 24).drop 24).drop 24).drop 24).take 24).all (fun c => isCode c || c.before args0 about1) = true := by decide +kernel
set_option maxRecDepth 65536 in
theorem w_t6 : ((((((words1.drop 24).drop 24).drop 24).drop 24).drop 24).take 24).all (fun c => isCode c || c.before args0 about1) = true := by decide +kernel
set_option maxRecDepth 65536 in
theorem w_t7 : (((((((words1.drop 24).drop 24).drop 24).drop 24).drop 24).drop 24).take 24).all (fun c => isCode c || c.before args0 about1) = true := by decide +kernel
set_option maxRecDepth 65536 in
theorem w_t8 : ((((((((words1.drop 24).drop 24).drop 24).drop 24).drop 24).drop 24).drop 24).take 24).all (fun c => isCode c || c.before args0 about1) = true := by decide +kernel
set_option maxRecDepth 65536 in
theorem w_t9 : (((((((((words1.drop 24).drop 24).drop 24).drop 24).drop 24).drop 24).drop 24).drop 24).take 24).all (fun c => isCode c || c.before args0 about1) = true := by decide +kernel
set_option maxRecDepth 65536 in
theorem w_t10 : ((((((((((words1.drop 24).drop 24).drop 24).drop 24).drop 24).drop 24).drop 24).drop 24).drop 24).take 24).all (fun c => isCode c || c.before args0 about1) = true := by decide +kernel
set_option maxRecDepth 65536 in
theorem w_t11 : (((((((((((words1.drop 24).drop 24).drop 24).drop 24).drop 24).drop 24).drop 24).drop 24).drop 24).drop 24).take 24).all (fun c => isCode c || c.before args0 about1) = true := by decide +kernel
set_option maxRecDepth 65536 in
theorem w_t12 : ((((((((((((words1.drop 24).drop 24).drop 24).drop 24).drop 24).drop 24).drop 24).drop 24).drop 24).drop 24).drop 24).take 24).all (fun c => isCode c || c.before args0 about1) = true := by decide +kernel
set_option maxRecDepth 65536 in
theorem w_t13 : ((((((((((((words1.drop 24).drop 24).drop 24).drop 24).drop 24).drop 24).drop 24).drop 24).drop 24).drop 24).drop 24).drop 24).all (fun c => isCode c || c.before args0 about1) = true := by decide +kernel
theorem w_tables : (allAtoms (Jvm.Cond.code x code maxLocals ret :: tables_1)).before args0 about1 = true := by
  rw [allAtoms_all]
  show words1.all (fun c => c.before args0 about1) = true
  refine all_split ?_ w_codes
  rw [← List.take_append_drop 24 words1, List.all_append, w_t1, ← List.take_append_drop 24 (words1.drop 24), List.all_append, w_t2, ← List.take_append_drop 24 ((words1.drop 24).drop 24), List.all_append, w_t3, ← List.take_append_drop 24 (((words1.drop 24).drop 24).drop 24), List.all_append, w_t4, ← List.take_append_drop 24 ((((words1.drop 24).drop 24).drop 24).drop 24), List.all_append, w_t5, ← List.take_append_drop 24 (((((words1.drop 24).drop 24).drop 24).drop 24).drop 24), List.all_append, w_t6, ← List.take_append_drop 24 ((((((words1.drop 24).drop 24).drop 24).drop 24).drop 24).drop 24), List.all_append, w_t7, ← List.take_append_drop 24 (((((((words1.drop 24).drop 24).drop 24).drop 24).drop 24).drop 24).drop 24), List.all_append, w_t8, ← List.take_append_drop 24 ((((((((words1.drop 24).drop 24).drop 24).drop 24).drop 24).drop 24).drop 24).drop 24), List.all_append, w_t9, ← List.take_append_drop 24 (((((((((words1.drop 24).drop 24).drop 24).drop 24).drop 24).drop 24).drop 24).drop 24).drop 24), List.all_append, w_t10, ← List.take_append_drop 24 ((((((((((words1.drop 24).drop 24).drop 24).drop 24).drop 24).drop 24).drop 24).drop 24).drop 24).drop 24), List.all_append, w_t11, ← List.take_append_drop 24 (((((((((((words1.drop 24).drop 24).drop 24).drop 24).drop 24).drop 24).drop 24).drop 24).drop 24).drop 24).drop 24), List.all_append, w_t12, w_t13]
  rfl
set_option maxRecDepth 65536 in
theorem w_rest : rest_1_c.before args0 about1 = true := by decide +kernel
set_option maxRecDepth 65536 in
theorem w_case : (Jvm.Cond.and given_1 narrow_1).before args0 about1 = true := by decide +kernel
set_option maxRecDepth 65536 in
theorem w_consts : constsHeld consts_1 about1 := Jvm.Lit.constsHeldB_iff.mp (by decide +kernel)
theorem w_applies : (headSpec (Jvm.Cond.code x code maxLocals ret :: tables_1) room_1).applies x e0.platform about1 = true :=
  (Spec.applies_iff w_frames).mpr ⟨w_running, w_runnable, w_alone, w_named, w_hears, w_ripe, w_room, w_tables⟩
theorem atStart : AtStart classFile x code maxLocals ret World_1 tables_1 room_1 Calls_1 rest_1 Pre_1 launch0 p0 e0 about1 theMethod args0 below0 :=
  ⟨lists_1, trivial, launch0.admits_env _ _ _, launch0.least_env, fairChoices_fair.cas, fairChoices_fair.clock, w_frames, w_args, w_heap, w_applies, ⟨(by decide +kernel : framesKnown about1 = true), ⟨(by decide +kernel : tablesKnown about1 = true), ⟨w_consts, trivial⟩⟩⟩, w_rest, w_case⟩
end start1
theorem witness_1 : WitnessClaimed_1 := ⟨start1.p0, start1.e0, start1.about1, start1.theMethod, start1.args0, start1.below0, start1.atStart⟩
end Jvm.Pilot.@@N@@
