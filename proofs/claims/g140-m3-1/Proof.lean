import JvmDerived
import JvmDerived.Pilot.@@N@@Statement
import JvmDerived.Pilot.@@N@@Code
set_option linter.unusedVariables false
set_option linter.unusedSimpArgs false
namespace Jvm.RoadKit
open Sem ClassFile Op Lib Jvm.Stand Jvm.Free Jvm.LawKit
section New
variable {p : Program} {l : Launch} {e : Env} {R : Room} {s : State} {m : MethodId} {args : Array Value} {below : List Frame} {meth : Method} {c : Code} {T : State} {locs : List Loc} {cells slots : Nat}
theorem retI (X : Stand p l e R s m args below meth c T locs cells slots) (hx : p.tables.exec = Jvm.exec) {pc : Nat} {Ls : Array Slot} {z : Int32} {rest : List Value} (hret : meth.sig.returnType = some .int) (hd : decode c.code pc = .ok (.ireturn, 1)) {fs : List Frame}
    (hl : ∀ (f : JFrame) (acts : List Action), f.method = m → f.locked = none → f.entered = [] → (doReturn e (T.setTop f) acts (some (.int z))).1 = T.setFrames fs) : Steps p.tables e below (T.setTop (mkF m pc Ls (.int z :: rest))) (T.setFrames fs) := by
  have hm' : T.vm.method? m = some meth := X.method'
  have hn : narrow .int (.int z) = .int z := rfl
  show Steps p.tables e below (T.setTop { method := m, pc := pc, locals := Ls, stack := _ :: rest, locked := none }) _
  jvm_step X.here [X.here.top, hx, hd, hm', hret, hn]
  first | (intro acts; rw [hl _ acts rfl rfl rfl]) | rw [hl _ _ rfl rfl rfl]
  exact Steps.refl _
theorem retR (X : Stand p l e R s m args below meth c T locs cells slots) (hx : p.tables.exec = Jvm.exec) {pc : Nat} {Ls : Array Slot} {w : Value} {t : FieldType} {rest : List Value} (hret : meth.sig.returnType = some t) (hn : narrow t w = w) (ht : t.isReference = true) (hw : w.isRef = true) (hd : decode c.code pc = .ok (.areturn, 1)) {fs : List Frame}
    (hl : ∀ (f : JFrame) (acts : List Action), f.method = m → f.locked = none → f.entered = [] → (doReturn e (T.setTop f) acts (some w)).1 = T.setFrames fs) : Steps p.tables e below (T.setTop (mkF m pc Ls (w :: rest))) (T.setFrames fs) := by
  have hm' : T.vm.method? m = some meth := X.method'
  show Steps p.tables e below (T.setTop { method := m, pc := pc, locals := Ls, stack := _ :: rest, locked := none }) _
  jvm_step X.here [X.here.top, hx, hd, hm', hret, hn, hw]
  try (refine ⟨ht, ?_⟩)
  first | (intro acts; rw [hl _ acts rfl rfl rfl]) | rw [hl _ _ rfl rfl rfl]
  exact Steps.refl _
end New
end Jvm.RoadKit
/- laws to paste: Road.lenW, StrChars.pair_says, StrChars.lo8_mask, StrChars.shr1, StrChars.shr0, StrChars.narrow_ch, Road.wide_lo, Road.wide_hi (cut by pick.py; bodies as the Statement names them) -/
namespace Jvm.Pilot.@@N@@
namespace StrChars
open Jvm Sem ClassFile Op Lib Jvm.Stand Jvm.Free.XT Jvm.Free.ALB Jvm.Free.JM Jvm.Free
open Jvm.Lib.Cold (StaticIs)
/-- the byte that i2b leaves of a char -/
def lo8 (x : Int32) : Int32 := x.toInt8.toInt32
def U16 : String := "java/lang/StringUTF16"
namespace Cmp5
def yN : MethodName := ⟨"java/lang/StringUTF16", "compress", "([CI[BII)I"⟩
abbrev yB : ByteArray := jdk_52_method_21_code
end Cmp5
namespace Cmp3
def yN : MethodName := ⟨"java/lang/StringUTF16", "compress", "([CII)[B"⟩
abbrev yB : ByteArray := jdk_52_method_16_code
end Cmp3
namespace CodL
def yN : MethodName := ⟨"java/lang/StringUTF16", "coderFromArrayLen", "([BI)B"⟩
abbrev yB : ByteArray := jdk_52_method_15_code
end CodL
namespace New4
def yN : MethodName := ⟨"java/lang/String", "<init>", "([CIILjava/lang/Void;)V"⟩
abbrev yB : ByteArray := jdk_42_method_149_code
end New4
namespace New1
def yN : MethodName := ⟨"java/lang/String", "<init>", "([C)V"⟩
abbrev yB : ByteArray := jdk_42_method_3_code
end New1
/-- the byte, read back as charAt reads it, is the char -/
theorem lo8_mask {x : Int32} (h0 : ¬ x < 0) (h1 : ¬ 255 < x) : lo8 x &&& 255 = x := by
  have t : ∀ k : Fin 256, lo8 (Int32.ofNat k.val) &&& 255 = Int32.ofNat k.val := by decide +kernel
  rw [Int32.lt_iff_toInt_lt] at h0 h1
  have e0 : (0 : Int32).toInt = 0 := rfl
  have e1 : (255 : Int32).toInt = 255 := rfl
  obtain ⟨k, hk⟩ : ∃ k : Nat, x.toInt = k := ⟨x.toInt.toNat, by omega⟩
  have hx : x = Int32.ofNat k := Int32.toInt_inj.mp (by rw [hk, Int32.toInt_ofNat_small (by omega)])
  rw [hx]
  exact t ⟨k, by omega⟩
end StrChars
namespace StrChars.Road
open Jvm Sem ClassFile Op Lib Jvm.Stand Jvm.Free Jvm.Free.XT
open Jvm.Lib.Cold (StaticIs)
abbrev ST : String := "java/lang/String"
/-- every table word that New1's law asks, flat -/
abbrev words : List Jvm.Cond := [.code New1.yN New1.yB 2 none, .initialized ST, .methodLink ST 27 New4.yN, .instanceMethod New4.yN,
  .code New4.yN New4.yB 6 none, .fieldLink ST 38 ST "COMPACT_STRINGS" "Z", .laysFinal ST ST "value" "[B", .fieldLink ST 9 ST "value" "[B", .laysFinal ST ST "coder" "B", .fieldLink ST 15 ST "coder" "B",
  .methodLink ST 1 Lib.objectInit, .instanceMethod Lib.objectInit, .code Lib.objectInit ⟨#[0xb1]⟩ 1 none, .methodLink ST 177 Cmp3.yN, .static Cmp3.yN, .methodLink ST 47 CodL.yN, .static CodL.yN,
  .code Cmp3.yN Cmp3.yB 6 (some (.array .byte)), .initialized U16, .arrayClass .byte, .methodLink U16 115 Cmp5.yN, .static Cmp5.yN, .code Cmp5.yN Cmp5.yB 7 (some .int), .code CodL.yN CodL.yB 2 (some .byte)]
end StrChars.Road
namespace StrChars
open Jvm Sem ClassFile Op Lib Jvm.Stand Jvm.Free.XT Jvm.Free.ALB Jvm.Free.JM Jvm.Free
open Jvm.Lib.Cold (StaticIs)
def hi8 (x : Int32) : Int32 := lo8 (x >>> ((8 : Int32) &&& 31))
/-- what StringUTF16.getChar makes of two bytes -/
def pairCh (u v : Int32) : Int32 := (((u &&& 255) <<< ((0 : Int32) &&& 31)) ||| ((v &&& 255) <<< ((8 : Int32) &&& 31))).toUInt32.toUInt16.toUInt32.toInt32
theorem shr0 (c : Int32) : c >>> ((0 : Int32) &&& 31) = c := by
  have e : ((0 : Int32) &&& 31) = 0 := by decide
  rw [e]
  apply Int32.toBitVec_inj.mp
  rw [Int32.toBitVec_shiftRight]
  have e1 : ((0 : Int32).toBitVec.smod 32) = 0#32 := by decide
  rw [e1, BitVec.sshiftRight_eq']
  exact BitVec.sshiftRight_zero
theorem lo8_and (x : Int32) : (lo8 x &&& 255).toBitVec.toNat = x.toBitVec.toNat % 256 := by
  have h : (lo8 x).toBitVec = (x.toBitVec.signExtend 8).signExtend 32 := by rw [lo8, Int8.toBitVec_toInt32, Int32.toBitVec_toInt8]
  rw [Int32.toBitVec_and, BitVec.toNat_and, h]
  have e : ((x.toBitVec.signExtend 8).signExtend 32).toNat % 256 = x.toBitVec.toNat % 256 := by
    rw [BitVec.toNat_signExtend]
    have hlt := x.toBitVec.isLt
    simp only [BitVec.toNat_setWidth, BitVec.toNat_signExtend]
    split <;> split <;> omega
  rw [← e]
  exact Nat.and_two_pow_sub_one_eq_mod _ 8
theorem pair_says {c : Int32} (h0 : ¬ c < 0) (h1 : ¬ 65535 < c) : pairCh (lo8 c) (hi8 c) = c := by
  rw [Int32.lt_iff_toInt_lt] at h0 h1
  have e0 : (0 : Int32).toInt = 0 := rfl
  have e1 : (65535 : Int32).toInt = 65535 := rfl
  have hc : c.toInt = c.toBitVec.toNat := by
    have := c.toBitVec.isLt
    have e : c.toInt = c.toBitVec.toInt := rfl
    rw [e] at h0 h1
    rw [e]
    rw [BitVec.toInt_eq_toNat_cond] at h0 h1 ⊢
    split at h0 <;> split <;> omega
  have hn : c.toBitVec.toNat < 65536 := by omega
  have a1 := lo8_and c
  have a2 : (hi8 c &&& 255).toBitVec.toNat = c.toBitVec.toNat / 256 := by
    rw [hi8, lo8_and]
    have e : ((8 : Int32) &&& 31) = 8 := by decide
    rw [e, Int32.toBitVec_shiftRight]
    have e2 : ((8 : Int32).toBitVec.smod 32) = 8#32 := by decide
    rw [e2, BitVec.sshiftRight_eq', BitVec.toNat_sshiftRight_of_msb_false (by rw [BitVec.msb_eq_false_iff_two_mul_lt]; omega)]
    show c.toBitVec.toNat >>> 8 % 256 = _
    rw [Nat.shiftRight_eq_div_pow]
    omega
  unfold pairCh
  apply Int32.toBitVec_inj.mp
  apply BitVec.eq_of_toNat_eq
  have f0 : ((0 : Int32) &&& 31) = 0 := by decide
  have f8 : ((8 : Int32) &&& 31) = 8 := by decide
  rw [f0, f8]
  have g : (((lo8 c &&& 255) <<< (0 : Int32)) ||| ((hi8 c &&& 255) <<< (8 : Int32))).toBitVec.toNat = c.toBitVec.toNat := by
    rw [Int32.toBitVec_or, Int32.toBitVec_shiftLeft, Int32.toBitVec_shiftLeft]
    have s0 : ((0 : Int32).toBitVec.smod 32) = 0#32 := by decide
    have s8 : ((8 : Int32).toBitVec.smod 32) = 8#32 := by decide
    rw [s0, s8, BitVec.toNat_or]
    simp only [BitVec.shiftLeft_eq', BitVec.toNat_shiftLeft, a1, a2]
    show (c.toBitVec.toNat % 256) <<< 0 % 2 ^ 32 ||| (c.toBitVec.toNat / 256) <<< 8 % 2 ^ 32 = _
    rw [Nat.shiftLeft_zero, Nat.mod_eq_of_lt (show c.toBitVec.toNat % 256 < 2 ^ 32 by omega), Nat.mod_eq_of_lt (show (c.toBitVec.toNat / 256) <<< 8 < 2 ^ 32 by rw [Nat.shiftLeft_eq]; omega), Nat.or_comm, ← Nat.shiftLeft_add_eq_or_of_lt (by omega), Nat.shiftLeft_eq]
    omega
  show BitVec.toNat (((((lo8 c &&& 255) <<< (0 : Int32)) ||| ((hi8 c &&& 255) <<< (8 : Int32))).toBitVec.setWidth 16).setWidth 32) = _
  rw [BitVec.toNat_setWidth, BitVec.toNat_setWidth, g]
  omega
end StrChars
namespace StrChars
open Jvm Sem ClassFile Op Lib Jvm.Stand Jvm.Free.XT Jvm.Free.ALB Jvm.Free.JM Jvm.Free
open Jvm.Lib.Cold (StaticIs)
theorem shr1 {n : Nat} (h : 2 * n < 2 ^ 31) : Int32.ofNat (2 * n) >>> ((1 : Int32) &&& 31) = Int32.ofNat n := by
  have e : ((1 : Int32) &&& 31) = 1 := by decide
  rw [e]
  apply Int32.toBitVec_inj.mp
  rw [Int32.toBitVec_shiftRight]
  have e1 : ((1 : Int32).toBitVec.smod 32) = 1#32 := by decide
  have hm : (BitVec.ofNat 32 (2 * n)).toNat = 2 * n := by rw [BitVec.toNat_ofNat, Nat.mod_eq_of_lt (by omega)]
  rw [e1, BitVec.sshiftRight_eq']
  apply BitVec.eq_of_toNat_eq
  show ((BitVec.ofNat 32 (2 * n)).sshiftRight 1).toNat = (BitVec.ofNat 32 n).toNat
  rw [BitVec.toNat_sshiftRight_of_msb_false (by rw [BitVec.msb_eq_false_iff_two_mul_lt, hm]; omega), hm, BitVec.toNat_ofNat, Nat.shiftRight_eq_div_pow]
  omega
theorem narrow_ch {c : Int32} (h0 : ¬ c < 0) (h1 : ¬ 65535 < c) : narrow .char (.int c) = .int c := by
  have q : narrow .char (.int (pairCh (lo8 c) (hi8 c))) = .int (pairCh (lo8 c) (hi8 c)) := narrow_c _
  rwa [pair_says h0 h1] at q
/-- the array's cell V codes the n chars f 0 .. f (n - 1) by the coder cd, as the JDK does: coder 1 just where some char is above 255 -/
def Cod (cd : Int32) (n : Nat) (f : Nat → Int32) (V : Cell) : Prop := (cd = 0 ∧ V.slots.size = n ∧ ∀ j, j < n → V.slots[j]? = some (.int (lo8 (f j))) ∧ ¬ 255 < f j) ∨ (cd = 1 ∧ V.slots.size = 2 * n ∧ (∀ j, j < n → V.slots[2 * j]? = some (.int (lo8 (f j))) ∧ V.slots[2 * j + 1]? = some (.int (hi8 (f j)))) ∧ ∃ j, j < n ∧ 255 < f j)
theorem Cod.cd {cd : Int32} {n : Nat} {f : Nat → Int32} {V : Cell} (h : Cod cd n f V) : cd = 0 ∨ cd = 1 := h.imp (fun q => q.1) fun q => q.1
theorem Cod.len {cd : Int32} {n : Nat} {f : Nat → Int32} {V : Cell} (h : Cod cd n f V) (hs : V.slots.size < 2 ^ 31) : Int32.ofNat V.slots.size >>> (cd &&& 31) = Int32.ofNat n := by
  rcases h with ⟨rfl, h, -⟩ | ⟨rfl, h, -⟩
  · rw [shr0, h]
  · rw [h, shr1 (by omega)]
/-- **x is a String of the n chars f 0 .. f (n - 1)**, Latin-1 or UTF-16; its array at t has the cell V -/
def Txt (x t : Addr) (V : Cell) (cd : Int32) (n : Nat) (f : Nat → Int32) (U : State) : Prop := Exact "java/lang/String" x U ∧ Has x "java/lang/String" "value" "[B" (.ref t) U ∧ Has x "java/lang/String" "coder" "B" (.int cd) U ∧ XT.Arr .byte t V U ∧ Cod cd n f V ∧ ∀ j, j < n → ¬ f j < 0 ∧ ¬ 65535 < f j
theorem Txt.mv {x t : Addr} {V : Cell} {cd : Int32} {n : Nat} {f : Nat → Int32} {U U' : State} (h : Txt x t V cd n f U) (hal : U.vm.Alike U'.vm) (hh : U'.heap = U.heap) : Txt x t V cd n f U' := ⟨h.1.mv hal hh, h.2.1.mv hal hh, h.2.2.1.mv hal hh, h.2.2.2.1.mv hal hh, h.2.2.2.2⟩
namespace Cdr
def yN : MethodName := ⟨"java/lang/String", "coder", "()B"⟩
abbrev yB : ByteArray := jdk_42_method_152_code
theorem d0 : decode yB 0 = .ok (.getstatic 38, 3) := by decide +kernel
theorem d3 : decode yB 3 = .ok (.ifCond (.eq) 10, 3) := by decide +kernel
theorem d6 : decode yB 6 = .ok (.aload_n 0, 1) := by decide +kernel
theorem d7 : decode yB 7 = .ok (.getfield 15, 3) := by decide +kernel
theorem d10 : decode yB 10 = .ok (.goto 4, 3) := by decide +kernel
theorem d14 : decode yB 14 = .ok (.ireturn, 1) := by decide +kernel
def site : List Cond := [.fieldLink "java/lang/String" 38 "java/lang/String" "COMPACT_STRINGS" "Z", .fieldLink "java/lang/String" 15 "java/lang/String" "coder" "B"]
def tab : Cond := tabOf yN yB 1 (some .byte) site
def P (x : Addr) (cd z : Int32) (args : Array Value) (s : State) : Prop := args = #[.ref x] ∧ Has x "java/lang/String" "coder" "B" (.int cd) s ∧ (cd = 0 ∨ cd = 1) ∧ StaticIs s "java/lang/String" "COMPACT_STRINGS" "Z" (.int z) ∧ ¬ z = 0
def E (cd : Int32) (r : Option Value) (s u : State) : Prop := XT.PureE (some (.int cd)) r s u
theorem law (l : Launch) (x : Addr) (cd z : Int32) : Law l yN 1 0 0 0 yB 1 (some .byte) site (P x cd z) (E cd) [] 0 0 := by
  refine Law.of_walk (plainFor_of_name (by decide +kernel)) (by decide +kernel) (by decide +kernel) (by decide) (fun _ _ h => by rw [h.1]; rfl) (fun _ U U' hal hh h => ⟨h.1, h.2.1.mv hal hh, h.2.2.1, h.2.2.2.1.there hal hh, h.2.2.2.2⟩) (fun r U U' V V' h1 hal h2 h => XT.PureE.mv r U U' V V' h1 hal h2 h) ?_
  intro p e s m args below meth c s₁ X0 hexec hbytes hml hret hlk hnm hown hh0 W hP
  obtain ⟨rfl, hx, hc, s1, hz⟩ := hP
  have c1 : Steps p.tables e below (s₁.setTop (entryFrame m #[.ref x] 1)) (s₁.setTop (mkF m 0 #[.val (.ref x)] [])) := entry rfl
  obtain ⟨T2, X2, q2, st2⟩ := X0.sget hexec hown (wk W (.fieldLink "java/lang/String" 38 "java/lang/String" "COMPACT_STRINGS" "Z")) s1 (fun _ _ h => by rw [hh0]; exact h) (g := (mkF m 0 #[.val (.ref x)] [])) rfl (hb hbytes d0)
  have hh2 := q2.trans hh0
  have c3 : Steps p.tables e below (s₁.setTop (entryFrame m #[.ref x] 1)) (T2.setTop (mkF m 7 #[.val (.ref x)] [.ref x])) := (c1.trans (st2 _ (Steps.refl _))).trans (by
    refine XS.ifNo X2.here hexec rfl (hb hbytes d3) rfl (i0_eq_f hz) ?_
    refine XS.aloadN X2.here hexec rfl (hb hbytes d6) rfl rfl ?_
    exact Steps.refl _)
  obtain ⟨T4, X4, q4, st4⟩ := X2.hget hexec hown (wk W (.fieldLink "java/lang/String" 15 "java/lang/String" "coder" "B")) (hx.mv X2.warmed.alike hh2) (g := (mkF m 7 #[.val (.ref x)] [.ref x])) rfl (rest := []) rfl (hb hbytes d7)
  have c5 : Steps p.tables e below (s₁.setTop (entryFrame m #[.ref x] 1)) (T4.setTop (mkF m 14 #[.val (.ref x)] [.int cd])) := (c3.trans (st4 _ (Steps.refl _))).trans (by
    refine XS.goto X4.here hexec rfl (pc0 := 10) rfl (hb hbytes d10) (by decide) rfl ?_
    exact Steps.refl _)
  exact ⟨T4, some (.int cd), _, _, _, X4, rfl, rfl, rfl, (fun h => by cases h), ⟨rfl, q4.trans hh2⟩, fun fs hl => c5.trans (X4.ireturnOut hexec hret (by rcases hc with rfl | rfl <;> rfl) (Or.inr (Or.inr (Or.inl rfl))) (hb hbytes d14) hl)⟩
end Cdr
namespace Len
def yN : MethodName := ⟨"java/lang/String", "length", "()I"⟩
abbrev yB : ByteArray := jdk_42_method_54_code
theorem d0 : decode yB 0 = .ok (.aload_n 0, 1) := by decide +kernel
theorem d1 : decode yB 1 = .ok (.getfield 9, 3) := by decide +kernel
theorem d4 : decode yB 4 = .ok (.arraylength, 1) := by decide +kernel
theorem d5 : decode yB 5 = .ok (.aload_n 0, 1) := by decide +kernel
theorem d6 : decode yB 6 = .ok (.invokevirtual 335, 3) := by decide +kernel
theorem d9 : decode yB 9 = .ok (.ishr, 1) := by decide +kernel
theorem d10 : decode yB 10 = .ok (.ireturn, 1) := by decide +kernel
def site : List Cond := [.fieldLink "java/lang/String" 9 "java/lang/String" "value" "[B", Cdr.tab] ++ virtW "java/lang/String" 335 "java/lang/String" Cdr.yN Cdr.yN
def tab : Cond := tabOf yN yB 1 (some .int) site
def P (x t : Addr) (V : Cell) (cd : Int32) (n : Nat) (f : Nat → Int32) (z : Int32) (args : Array Value) (s : State) : Prop := args = #[.ref x] ∧ Txt x t V cd n f s ∧ StaticIs s "java/lang/String" "COMPACT_STRINGS" "Z" (.int z) ∧ ¬ z = 0
def E (n : Nat) (r : Option Value) (s u : State) : Prop := XT.PureE (some (.int (Int32.ofNat n))) r s u
/-- length() of a String of n chars, in either coding -/
theorem law (l : Launch) (x t : Addr) (V : Cell) (cd : Int32) (n : Nat) (f : Nat → Int32) (z : Int32) : Law l yN 1 0 1 13 yB 1 (some .int) site (P x t V cd n f z) (E n) [] 0 0 := by
  refine Law.of_walk (plainFor_of_name (by decide +kernel)) (by decide +kernel) (by decide +kernel) (by decide) (fun _ _ h => by rw [h.1]; rfl) (fun _ U U' hal hh h => ⟨h.1, h.2.1.mv hal hh, h.2.2.1.there hal hh, h.2.2.2⟩) (fun r U U' V V' h1 hal h2 h => XT.PureE.mv r U U' V V' h1 hal h2 h) ?_
  intro p e s m args below meth c s₁ X0 hexec hbytes hml hret hlk hnm hown hh0 W hP
  obtain ⟨rfl, hx, s1, hz⟩ := hP
  have v31 := hx.2.2.2.1.2.2.2
  have c1 : Steps p.tables e below (s₁.setTop (entryFrame m #[.ref x] 1)) (s₁.setTop (mkF m 1 #[.val (.ref x)] [.ref x])) := Steps.trans (entry rfl) (by
    show Steps p.tables e below (s₁.setTop (mkF m 0 #[.val (.ref x)] [])) _
    refine XS.aloadN X0.here hexec rfl (hb hbytes d0) rfl rfl ?_
    exact Steps.refl _)
  obtain ⟨T2, X2, q2, st2⟩ := X0.hget hexec hown (wk W (.fieldLink "java/lang/String" 9 "java/lang/String" "value" "[B")) (hx.mv X0.warmed.alike hh0).2.1 (g := (mkF m 1 #[.val (.ref x)] [.ref x])) rfl (rest := []) rfl (hb hbytes d1)
  have hh2 := q2.trans hh0
  have hx2 := hx.mv X2.warmed.alike hh2
  have c3 : Steps p.tables e below (s₁.setTop (entryFrame m #[.ref x] 1)) (T2.setTop (mkF m 6 #[.val (.ref x)] [.ref x, .int (Int32.ofNat V.slots.size)])) := (c1.trans (st2 _ (Steps.refl _))).trans (by
    refine X2.alen hexec hx2.2.2.2.1 rfl rfl (hb hbytes d4) ?_
    refine XS.aloadN X2.here hexec rfl (hb hbytes d5) rfl rfl ?_
    exact Steps.refl _)
  obtain ⟨v4, T4, X4, E4, g4⟩ := X2.callV hexec (Cdr.law l x cd z) hown (wks W (virtW "java/lang/String" 335 "java/lang/String" Cdr.yN Cdr.yN)) rfl (by decide) (wk W Cdr.tab) (W := 1) (Nat.le_of_ble_eq_true rfl) (Nat.le_of_ble_eq_true rfl) (Nat.le_refl _) (Nat.le_refl _) (hx2.1.fc X2.warmed.alike) hx2.1.is (g := (mkF m 6 #[.val (.ref x)] [.ref x, .int (Int32.ofNat V.slots.size)])) rfl (by rw [hml]; rfl) c3 (argsL := []) (rest := [.int (Int32.ofNat V.slots.size)]) rfl rfl (by show 2 * 0 + (1 + 0) ≤ _; decide) (hb hbytes d6) (⟨rfl, hx2.2.2.1, hx.2.2.2.2.1.cd, s1.there X2.warmed.alike hh2, hz⟩)
  obtain ⟨rfl, q4⟩ := E4
  have c5 : Steps p.tables e below (s₁.setTop (entryFrame m #[.ref x] 1)) (T4.setTop (mkF m 10 #[.val (.ref x)] [.int (Int32.ofNat V.slots.size >>> (cd &&& 31))])) := Steps.trans g4 (by
    refine ishr X4.here hexec rfl (hb hbytes d9) rfl ?_
    exact Steps.refl _)
  rw [hx.2.2.2.2.1.len v31] at c5
  exact ⟨T4, some (.int (Int32.ofNat n)), _, _, _, X4, rfl, rfl, rfl, (fun h => by cases h), ⟨rfl, q4.trans hh2⟩, fun fs hl => c5.trans (X4.ireturnOut hexec hret rfl (Or.inl rfl) (hb hbytes d10) hl)⟩
theorem pays {l : Launch} {R : Room} {p : Program} {e : Env} {below : List Frame} {s : State} {sargs : Array Value} {len W : Nat} (x t : Addr) (V : Cell) (cd : Int32) (n : Nat) (f : Nat → Int32) (z : Int32) (htab : tab.before sargs s = true) (hfr : 2 ≤ R.frames) (hlo : W + 25 ≤ R.locals) :
    Back l R p e below s sargs yN len W (fun A₁ a₁ => A₁.cells + 0 ≤ R.cells ∧ A₁.slots + 0 ≤ R.slots ∧ P x t V cd n f z a₁ A₁.U) (fun A₁ _ v₁ B₁ => E n v₁ A₁.U B₁.U ∧ B₁.locs = A₁.locs ++ [] ∧ B₁.cells = A₁.cells + 0 ∧ B₁.slots = A₁.slots + 0) :=
  (law l x t V cd n f z).pays htab hfr (by omega)
end Len
end StrChars
namespace StrChars.Road
open Jvm Sem ClassFile Op Lib Jvm.Stand Jvm.Free Jvm.Free.XT
open Jvm.Lib.Cold (StaticIs)
theorem consq {a : Array Value} {s : State} {c : Jvm.Cond} {L : List Jvm.Cond} (h0 : c.before a s = true) (h : ∀ w ∈ L, w.before a s = true) : ∀ w ∈ c :: L, w.before a s = true := fun w hw => (List.mem_cons.mp hw).elim (fun e => e ▸ h0) (h w)
/-- the words of String.length(), either coding -/
abbrev wordsLen : List Jvm.Cond := [.code Len.yN Len.yB 1 (some .int), .initialized ST, .fieldLink ST 9 ST "value" "[B", .fieldLink ST 38 ST "COMPACT_STRINGS" "Z", .fieldLink ST 15 ST "coder" "B", .code Cdr.yN Cdr.yB 1 (some .byte), .methodLink ST 335 Cdr.yN, .declares Cdr.yN, .selects ST Cdr.yN Cdr.yN, .instanceMethod Cdr.yN]
theorem tabLen_of {a : Array Value} {s : State} (h : ∀ w ∈ wordsLen, w.before a s = true) : Len.tab.before a s = true := by
  have hc : Cdr.tab.before a s = true := unparts (wk h (.code Cdr.yN Cdr.yB 1 (some .byte))) (wks h (.initialized Cdr.yN.cls :: Cdr.site))
  have q := consq hc h
  exact unparts (wk q (.code Len.yN Len.yB 1 (some .int))) (wks q (.initialized Len.yN.cls :: Len.site))
theorem movedLen {Z s : State} {a0 args : Array Value} (hZ : Z.Warmed39 s.vm) (hw : ∀ d ∈ wordsLen, d.before a0 Z = true) : ∀ d ∈ wordsLen, d.before args s = true := fun d hd => by
  have q := hw d hd
  have t : ∀ d ∈ wordsLen, d = .arrayClass .byte ∨ (d.onTables && d.keepsFace) = true := by decide +kernel
  rcases t d hd with rfl | t
  · exact RoadKit.mvA hZ q
  · exact RoadKit.mv hZ q t
/-- the bytes of the chars cs, low before high -/
def wideBytes : List Int32 → List Value
  | [] => []
  | c :: cs => .int (lo8 c) :: .int (hi8 c) :: wideBytes cs
theorem wide_lo (d : Value) : ∀ (cs : List Int32) (j : Nat), j < cs.length → (wideBytes cs).getD (2 * j) d = .int (lo8 (cs.getD j 0))
  | [], j, h => absurd h (Nat.not_lt_zero j)
  | c :: cs, 0, _ => rfl
  | c :: cs, j + 1, h => by
    have q := wide_lo d cs j (by simpa using h)
    rw [show 2 * (j + 1) = 2 * j + 1 + 1 from by omega]
    simpa [wideBytes] using q
theorem wide_hi (d : Value) : ∀ (cs : List Int32) (j : Nat), j < cs.length → (wideBytes cs).getD (2 * j + 1) d = .int (hi8 (cs.getD j 0))
  | [], j, h => absurd h (Nat.not_lt_zero j)
  | c :: cs, 0, _ => rfl
  | c :: cs, j + 1, h => by
    have q := wide_hi d cs j (by simpa using h)
    rw [show 2 * (j + 1) + 1 = 2 * j + 1 + 1 + 1 from by omega]
    simpa [wideBytes] using q
theorem low_at (d : Value) (cs : List Int32) (j : Nat) (h : j < cs.length) : (cs.map fun c => Value.int (lo8 c)).getD j d = .int (lo8 (cs.getD j 0)) := by
  simp [List.getD_eq_getElem?_getD, h]
/-- an array of N2 bytes vs codes the chars cs by the coder cd -/
def CodA (cs : List Int32) (cd N2 : Int32) (vs : List Value) : Prop := (cd = 0 ∧ N2 = Int32.ofNat cs.length ∧ vs = (cs.map fun c => Value.int (lo8 c)) ∧ ∀ c ∈ cs, ¬ 255 < c) ∨ (cd = 1 ∧ N2 = Int32.ofNat (2 * cs.length) ∧ vs = wideBytes cs ∧ ∃ c ∈ cs, 255 < c)
theorem CodA.cod {cs : List Int32} {cd N2 : Int32} {vs : List Value} {V : Cell} (h : CodA cs cd N2 vs) (hn : 2 * cs.length < 2 ^ 31) (hs : V.slots.size = N2.toNatClampNeg) (hv : RoadKit.Has V vs (.int 0)) : Cod cd cs.length (fun j => cs.getD j 0) V := by
  rcases h with ⟨rfl, rfl, rfl, h⟩ | ⟨rfl, rfl, rfl, c, hc, hw⟩
  · rw [n32 (by omega)] at hs
    exact Or.inl ⟨rfl, hs, fun j hj => ⟨by rw [hv j (by omega), low_at _ _ _ hj], by
      have e : cs.getD j 0 = cs[j] := by simp [List.getD_eq_getElem?_getD, hj]
      show ¬ 255 < cs.getD j 0
      rw [e]; exact h _ (List.getElem_mem _)⟩⟩
  · rw [n32 (by omega)] at hs
    obtain ⟨j, hj, rfl⟩ := List.getElem_of_mem hc
    exact Or.inr ⟨rfl, hs, fun j hj => ⟨by rw [hv _ (by omega), wide_lo _ _ _ hj], by rw [hv _ (by omega), wide_hi _ _ _ hj]⟩, j, hj, by
      have e : cs.getD j 0 = cs[j] := by simp [List.getD_eq_getElem?_getD, hj]
      show 255 < cs.getD j 0
      rw [e]; exact hw⟩
/-- an object of exactly java/lang/String, its two fields found: as the laws ask it -/
theorem strObj {Z U : State} {a0 : Array Value} {kI : Nat} (wi : (Jvm.Cond.instantiable ST kI).before a0 Z = true) (al : Z.vm.Alike U.vm) {x : Addr} {v0 c0 : Value} (E : RoadKit.Exa Z U.heap x ST) (V : RoadKit.Fld Z U.heap x ST "value" "[B" v0) (C : RoadKit.Fld Z U.heap x ST "coder" "B" c0) :
    ∃ (D : Cell) (fV fC : Field), Blank ST x D U ∧ Found ST "value" "[B" fV U ∧ Found ST "coder" "B" fC U ∧ D.slots[fV.slot]? = some v0 ∧ D.slots[fC.slot]? = some c0 ∧ RoadKit.slotOf Z ST "value" "[B" = fV.slot ∧ RoadKit.slotOf Z ST "coder" "B" = fC.slot := by
  obtain ⟨D, cfV, kV, iV, fV, hD, gV, stV, knV, obV, asV, slV⟩ := V
  obtain ⟨D', cfC, kC, iC, fC, hD', gC, stC, -, -, asC, slC⟩ := C
  cases hD.symm.trans hD'
  obtain ⟨D2, kD, e1, e2, e3, e4, e5⟩ := E
  cases hD.symm.trans e1
  obtain ⟨c2, k2, i1, i2, i3, -⟩ := Cond.instantiable_spec wi
  cases e2.symm.trans i1
  cases e3.symm.trans i2
  obtain ⟨kU, u1, u2⟩ := al.2.2 _ _ e3
  exact ⟨D, fV, fC, ⟨hD, ⟨knV, fun q hq => by rw [hq] at obV; cases obV⟩, by rw [al.findClass]; exact e2, kU, u1, by rw [u2]; exact i3, by rw [u2]; exact e5 i3⟩, ⟨SBG.found_only al ⟨cfV, kV, iV, gV⟩, stV⟩, ⟨SBG.found_only al ⟨cfC, kC, iC, gC⟩, stC⟩, slV, slC, by simp [RoadKit.slotOf, gV], by simp [RoadKit.slotOf, gC]⟩
theorem sta_is {Z U : State} (al : Z.vm.Alike U.vm) {C n d : String} {v : Value} (S : RoadKit.Sta Z U.heap C n d v) : StaticIs U C n d v := by
  obtain ⟨cfS, iS, kS, fS, st, cS, t1, t2, t3, t4, t5, t6, t7⟩ := S
  exact StaticIs.there (s := { Z with heap := U.heap }) ⟨cfS, iS, kS, fS, st, cS, t1, t2, t3, t4, t5, (fun q => by rw [q] at t6; cases t6), t7⟩ al rfl
/-- **length() OF SUCH A STRING** -/
theorem lenW {p : Program} {l : Launch} {e : Env} {R : Room} {s : State} {args : Array Value} {below : List Frame} {len W : Nat} {Z : State} {a0 : Array Value} {h : Heap} (hZ : Z.Warmed39 s.vm) (hw : ∀ d ∈ wordsLen, d.before a0 Z = true) {kI : Nat} (wi : (Jvm.Cond.instantiable ST kI).before a0 Z = true)
    {x t : Addr} {kb : ClassId} {cs : List Int32} {cd N2 z : Int32} {vs : List Value} (E : RoadKit.Exa Z h x ST) (V : RoadKit.Fld Z h x ST "value" "[B" (.ref t)) (C : RoadKit.Fld Z h x ST "coder" "B" (.int cd)) (K : RoadKit.Arv Z h t kb .byte N2 vs (.int 0)) (hc : CodA cs cd N2 vs) (hb : ∀ c ∈ cs, ¬ c < 0 ∧ ¬ (65535 : Int32) < c)
    (S : RoadKit.Sta Z h ST "COMPACT_STRINGS" "Z" (.int z)) (hz : ¬ z = 0) (l2 : cs.length ≤ 4000) (hfr : 2 ≤ R.frames) (hlo : W + 25 ≤ R.locals) :
    Back l R p e below s args (⟨"java/lang/String", "length", "()I"⟩ : MethodName) len W (fun P a => a = #[.ref x] ∧ P.U.heap = h ∧ P.cells + 0 ≤ R.cells ∧ P.slots + 0 ≤ R.slots)
      (fun P _ v B => ∃ L, (v = some (.int (Int32.ofNat cs.length)) ∧ L = [] ∧ B.U.heap = h) ∧ B.locs = P.locs ++ L ∧ B.cells = P.cells + 0 ∧ B.slots = P.slots + 0) := by
  obtain ⟨A, K1, K2, K3, K4, K5, K6⟩ := K
  have hcod := hc.cod (by omega) K3 K5
  intro m meth c P g ig mk a X hg hsize hdg hW hn hp'
  obtain ⟨rfl, rfl, r1, r2⟩ := hp'
  have al : Z.vm.Alike P.U.vm := hZ.alike.trans X.warmed.alike
  obtain ⟨D, fV, fC, hB, F1, F2, g1, g2, -, -⟩ := strObj wi al E V C
  have hx : Txt x t A cd cs.length (fun j => cs.getD j 0) P.U := ⟨⟨_, hB.2.2.1, D, hB.1, rfl, by cases q : D.vm <;> first | rfl | exact absurd q (hB.2.1.2 _)⟩, Has.of hB F1 g1, Has.of hB F2 g2, ⟨K1.1, State.isArrayOf_alike al K1.2.1, K1.2.2, by rcases hcod with ⟨-, q, -⟩ | ⟨-, q, -⟩ <;> omega⟩, hcod, fun j hj => by
    have e : cs.getD j 0 = cs[j] := by simp [List.getD_eq_getElem?_getD, hj]
    show ¬ cs.getD j 0 < 0 ∧ ¬ 65535 < cs.getD j 0
    rw [e]; exact hb _ (List.getElem_mem _)⟩
  obtain ⟨v, B, X', ⟨⟨hv, hh⟩, hl, hk, hs⟩, st⟩ := Len.pays x t A cd cs.length (fun j => cs.getD j 0) z (tabLen_of (movedLen hZ hw)) hfr hlo m meth c P g ig mk _ X hg hsize hdg hW hn ⟨r1, r2, rfl, hx, sta_is al S, hz⟩
  exact ⟨v, B, X', ⟨[], ⟨hv, rfl, hh⟩, hl, hk, hs⟩, st⟩
end StrChars.Road
end Jvm.Pilot.@@N@@
namespace Jvm.Pilot.@@N@@
open Jvm Jvm.ClassFile Sem Op Lib Jvm.Free Jvm.Stand Jvm.LawKit Jvm.RoadKit Bundle Jvm.Pilot.@@N@@.Jvm.D
theorem tw {a0 : Array Value} {Z : State} (hw : ∀ d ∈ tables_1, d.before a0 Z = true) (k : Nat) {d : Jvm.Cond} (h : tables_1[k]? = some d) : d.before a0 Z = true := hw d (List.mem_of_getElem? h)
abbrev Dk (c : ByteArray) (n : Nat) (i : Instr) (k : Nat) : Prop := decode c n = .ok (i, k)
theorem own_k {P : Prop} (h : P := by decide +kernel) : P := h
theorem own_b {P : Prop} (h : P := by first | decide | (dsimp only [Pt.cells, Pt.slots]; omega) | (dsimp only; omega) | omega) : P := h
def own_Go (p : Program) (e : Env) (below : List Frame) (A : State) (G : Outcome → State → Prop) : Prop := ∃ s₂ o, Steps p.tables e below A s₂ ∧ s₂.status = .running ∧ Ended s₂ below o ∧ G o s₂
theorem own_go {p : Program} {e : Env} {below : List Frame} {A B : State} {G : Outcome → State → Prop} (st : ∀ t, Steps p.tables e below B t → Steps p.tables e below A t) (k : own_Go p e below B G) : own_Go p e below A G := by
  obtain ⟨t, o, h1, h2⟩ := k
  exact ⟨t, o, st t h1, h2⟩
theorem og {p : Program} {e : Env} {below : List Frame} {A B : State} {G : Outcome → State → Prop} (st : ∀ t, Steps p.tables e below B t → Steps p.tables e below A t) (k : own_Go p e below B G) : own_Go p e below A G := own_go st k
theorem own_gos {p : Program} {e : Env} {below : List Frame} {A B : State} {G : Outcome → State → Prop} (st : Steps p.tables e below A B) (k : own_Go p e below B G) : own_Go p e below A G := by
  obtain ⟨t, o, h1, h2⟩ := k
  exact ⟨t, o, st.trans h1, h2⟩
theorem own_fin {p : Program} {l : Launch} {e : Env} {R : Room} {s : State} {m : MethodId} {args : Array Value} {below : List Frame} {meth : Method} {c : Code} {T : State} {locs : List Loc} {cells slots : Nat} (X : Stand p l e R s m args below meth c T locs cells slots) {v : Option Value} (hv : meth.sig.returnType = none → v = none) (hl : meth.locks = false) {A : State}
    (ret : ∀ fs : List Frame, (∀ (f : JFrame) (acts : List Action), f.method = m → f.locked = none → f.entered = [] → (doReturn e (T.setTop f) acts v).1 = T.setFrames fs) → Steps p.tables e below A (T.setFrames fs)) {QQ : Option Value → Heap → List Loc → Prop} (hQ : QQ v T.heap locs) {C S : Nat} (hc : cells ≤ C) (hs : slots ≤ S) :
    own_Go p e below A (fun o U' => ∃ v L, o = .returned v ∧ QQ v U'.heap L ∧ FrameEnd s o U' L C S) := by
  obtain ⟨fs, hr, hrun, hended, hW, hsame⟩ := X.leave hv hl
  exact ⟨_, _, ret fs hr, hrun, hended, v, locs, rfl, hQ, ⟨_, rfl⟩, hW, hsame.mono hc hs⟩
theorem own_finW {p : Program} {l : Launch} {e : Env} {R : Room} {s : State} {vm1 : Vm} {m : MethodId} {args : Array Value} {below : List Frame} {meth : Method} {c : Code} {T : State} {locs : List Loc} {cells slots : Nat} (X : Stand p l e R (s.setVm vm1) m args below meth c T locs cells slots) {h0 h : Heap} (hh : s.heap = h0) {Z : State} {a0 : Array Value} (hZ : Z.Warmed39 (s.setVm vm1).vm) {n : Nat} (hS : s.Since vm1 n) (hn : n ≤ T.heap.size) {v : Option Value} (hv : meth.sig.returnType = none → v = none) (hl : meth.locks = false) {A : State}
    (ret : ∀ fs : List Frame, (∀ (f : JFrame) (acts : List Action), f.method = m → f.locked = none → f.entered = [] → (doReturn e (T.setTop f) acts v).1 = T.setFrames fs) → Steps p.tables e below A (T.setFrames fs)) {QQ : Option Value → Heap → List Loc → Prop} (hQ : QQ v T.heap locs) {EL : List (String × Nat)} (hEL : EW Z a0 EL) (eT : T.heap = h) (C : CHr Z EL s.vm h0 vm1 h) {CC SS : Nat} (hc : cells ≤ CC) (hs : slots ≤ SS) :
    own_Go p e below A (fun o U' => ∃ v L, o = .returned v ∧ QQ v U'.heap L ∧ CHr Z EL s.vm s.heap U'.vm U'.heap ∧ ReturnedEndW s o U' L CC SS) := by
  obtain ⟨fs, hr, hrun, hended, hE⟩ := X.leaveW hS hn hv hl
  have hC := C.trans (CHv.at X hZ hEL C.1)
  subst hh eT
  exact ⟨_, _, ret fs hr, hrun, hended, v, locs, rfl, hQ, hC, hE.1, hE.2.1, hE.2.2.1, hE.2.2.2.mono hc hs⟩
def own_EL : List (String × Nat) := [("com/example/rolelattice/rolelattice/decision/DistinguishedName", 144), ("com/example/rolelattice/rolelattice/decision/DistinguishedName", 149), ("java/lang/String", 7)]
theorem own_wSt {Z : State} {a0 : Array Value} (hw : ∀ d ∈ tables_1, d.before a0 Z = true) : ∀ a ∈ Bundle.stringAtoms, a.before a0 Z = true := fun d hd => hw d ((by decide +kernel : ∀ d ∈ Bundle.stringAtoms, d ∈ tables_1) d hd)
theorem own_hELt {Z : State} {a0 : Array Value} (hw : ∀ d ∈ tables_1, d.before a0 Z = true) : EW Z a0 own_EL := (EW.cons (hw _ (List.mem_of_getElem? (i := 259) rfl)) (by decide) (EW.cons (hw _ (List.mem_of_getElem? (i := 139) rfl)) (by decide) (EW.cons (hw _ (List.mem_of_getElem? (i := 14) rfl)) (by decide) EW.nil)))
theorem own_and255 (x : Int32) : ¬ nar .char ((x &&& (255 : Int32)).toUInt32.toUInt16.toUInt32.toInt32) < 0 ∧ ¬ (255 : Int32) < nar .char ((x &&& (255 : Int32)).toUInt32.toUInt16.toUInt32.toInt32) := by
  have t : ∀ k : Fin 256, ¬ nar .char ((Int32.ofNat k.val).toUInt32.toUInt16.toUInt32.toInt32) < 0 ∧ ¬ (255 : Int32) < nar .char ((Int32.ofNat k.val).toUInt32.toUInt16.toUInt32.toInt32) := by decide +kernel
  have h : (x &&& 255).toBitVec.toNat < 256 := by
    simp only [Int32.toBitVec_and, BitVec.toNat_and]
    exact Nat.lt_succ_of_le Nat.and_le_right
  have e : (x &&& 255) = Int32.ofNat (x &&& 255).toBitVec.toNat := by
    apply Int32.toBitVec_inj.mp
    show _ = BitVec.ofNat 32 _
    rw [BitVec.ofNat_toNat]; simp
  rw [e]
  exact t ⟨_, h⟩
theorem own_up (cs : List Int32) (h : ∀ c ∈ cs, ¬ c < 0 ∧ ¬ (255 : Int32) < c) : ∀ c ∈ cs, ¬ c < 0 ∧ ¬ (65535 : Int32) < c := fun c hc => ⟨(h c hc).1, fun q => (h c hc).2 (by rw [Int32.lt_iff_toInt_lt] at q ⊢; have e1 : (65535 : Int32).toInt = 65535 := rfl; have e2 : (255 : Int32).toInt = 255 := rfl; omega)⟩
theorem own_safeNull {Z : State} {EL : List (String × Nat)} {vm : Vm} {h : Heap} {x : Addr} (hal : Z.vm.Alike vm) (E : Exa Z h x "java/lang/String") (F : Fld Z h x "java/lang/String" "value" "[B" .null) : Safe Z EL vm h x := fun B => by
  obtain ⟨cell, k, e1, e2, e3, -, -⟩ := E
  obtain ⟨cell', cf, kf, i, f, f1, f2, -, -, -, -, f7⟩ := F
  cases e1.symm.trans f1
  obtain ⟨p, -, u, a, -, q, -, G, rfl | rfl⟩ := B
  · cases (show h[q.sa]? = some q.sC from G.ha).symm.trans e1
    obtain ⟨cS, ⟨⟨s1, s2, s3, ⟨cv, kv, iv, s4, s4'⟩, -, s6, s7, s8, -⟩, -⟩, -⟩ := G
    obtain ⟨k', hf'⟩ := ff_back (U := Wst Z vm h) hal s4
    cases f2.symm.trans hf'
    rw [f7] at s8
    cases s8
  · cases (show h[q.sd]? = some q.SA from G.hd).symm.trans e1
    obtain ⟨cS, -, -, hB, -⟩ := G
    have hB : vm.findClass "[B" = some q.SA.cls := hB
    rw [hal.findClass] at hB
    obtain ⟨k1, q1, q2⟩ := Vm.findClass_spec hB
    obtain ⟨k2, q3, q4⟩ := Vm.findClass_spec e2
    cases q1.symm.trans q3
    exact absurd (q2.symm.trans q4) (by decide)
theorem own_catR {v : Value} (h : v.isRef = true) : v.category = 1 := by cases v <;> first | rfl | cases h
def QPure (r : Option Value) (h0 : Heap) (n0 : Nat) (v : Option Value) (h : Heap) (L : List Loc) : Prop := v = r ∧ Fr n0 L ∧ h = h0
theorem own_selP {Z s : State} {a0 args : Array Value} {y : MethodName} {n : Nat} (hZ : Z.Warmed39 s.vm) (wi : (Cond.instantiable y.cls n).before a0 Z = true) (wp : (Cond.privateMethod y).before a0 Z = true) (wm : (Cond.instanceMethod y).before a0 Z = true) (hy : y.cls ≠ "java/lang/invoke/MethodHandle" ∧ y.cls ≠ "java/lang/invoke/VarHandle") : (Cond.selects y.cls y y).before args s = true := by
  have wi' : (Cond.instantiable y.cls n).before args s = true := mvT hZ wi
  have wm' : (Cond.instanceMethod y).before args s = true := mvT hZ wm
  obtain ⟨c, k, h1, h2, h3, h4⟩ := Cond.instantiable_spec wi'
  refine Jvm.Stand.selects_self_of_private h1 h2 ?_ (Cond.privateMethod_at (mvP hZ wp (args := args))) wm' hy
  have h5 := h4.1
  cases hi : k.isInterface <;> simp_all
theorem own_ti {i : Nat} (h : i < 2147483648) : (Int32.ofNat i).toInt = (i : Int) := Int32.toInt_ofNat_of_lt (by omega)
theorem own_tn {i : Nat} (h : i < 2147483648) : (Int32.ofNat i).toNatClampNeg = i := by
  show (Int32.ofNat i).toInt.toNat = i
  rw [own_ti h]; rfl
theorem own_nn0 {i : Nat} (h : i < 2147483648) : ¬ Int32.ofNat i < (0 : Int32) := by
  rw [Int32.lt_iff_toInt_lt, own_ti h]
  show ¬ (i : Int) < 0
  omega
theorem own_lti {i j : Nat} (hi : i < 2147483648) (hj : j < 2147483648) : Int32.ofNat i < Int32.ofNat j ↔ i < j := by
  rw [Int32.lt_iff_toInt_lt, own_ti hi, own_ti hj]; omega
theorem own_inc (i : Nat) : Int32.ofNat i + (1 : Int32) = Int32.ofNat (i + 1) := (Int32.ofNat_add i 1).symm
theorem own_inb {i j : Nat} (hi : i < j) (hj : j < 2147483648) : ¬ Int32.ofNat i < (0 : Int32) ∧ Int32.ofNat i < Int32.ofNat j := ⟨own_nn0 (by omega), (own_lti (by omega) hj).mpr hi⟩
theorem own_shl1 {n : Nat} (h : n ≤ 4000) : Int32.ofNat n <<< ((1 : Int32) &&& 31) = Int32.ofNat (2 * n) := by
  apply Int32.toBitVec_inj.mp
  show (BitVec.ofNat 32 n) <<< ((((1 : Int32) &&& 31).toBitVec).smod 32#32) = BitVec.ofNat 32 (2 * n)
  have e : (((1 : Int32) &&& 31).toBitVec).smod 32#32 = 1#32 := by decide
  rw [e]
  apply BitVec.eq_of_toNat_eq
  rw [BitVec.shiftLeft_eq', BitVec.toNat_shiftLeft, BitVec.toNat_ofNat, BitVec.toNat_ofNat, Nat.shiftLeft_eq]
  show n % 4294967296 * 2 % 4294967296 = 2 * n % 4294967296
  omega
theorem own_nb (x : Int32) : nar .byte (x.toInt8.toInt32) = x.toInt8.toInt32 := by simp [nar]
theorem own_nc {c : Int32} (h0 : ¬ c < 0) (h1 : ¬ (65535 : Int32) < c) : nar .char c = c := by
  have h := StrChars.narrow_ch h0 h1
  exact Value.int.inj h
def own_lat (cs : List Int32) : List Value := cs.map fun c => Value.int (StrChars.lo8 c)
def own_part (cs : List Int32) (i : Nat) : List Value := own_lat (cs.take i) ++ List.replicate (cs.length - i) (Value.int (0 : Int32))
def own_wpart (cs : List Int32) (i : Nat) : List Value := StrChars.Road.wideBytes (cs.take i) ++ List.replicate (2 * (cs.length - i)) (Value.int (0 : Int32))
theorem own_gd {cs : List Int32} {i n : Nat} {d : Value} (hn : cs.length = n) (hi : i < n) (h : n < 2147483648) : (cs.map Value.int).getD (Int32.ofNat i).toNatClampNeg d = Value.int (cs.getD i 0) := by
  rw [own_tn (by omega)]
  simp [List.getD_eq_getElem?_getD, hn, hi]
theorem own_set1 {cs : List Int32} {i : Nat} (hi : i < cs.length) : (own_part cs i).set i (Value.int (StrChars.lo8 (cs.getD i 0))) = own_part cs (i + 1) := by
  apply List.ext_getElem?
  intro j
  simp only [own_part, own_lat, List.getElem?_set, List.getElem?_append, List.length_append, List.length_map, List.length_take, List.length_replicate, List.getElem?_map, List.getElem?_take, List.getElem?_replicate]
  have e : cs.getD i 0 = cs[i] := by simp [List.getD_eq_getElem?_getD, hi]
  by_cases q : i = j
  · subst q
    have h1 : i < min i cs.length + (cs.length - i) := by omega
    have h2 : i < min (i + 1) cs.length := by omega
    rw [if_pos rfl, if_pos h1, if_pos h2, if_pos (by omega), e]
    simp [hi]
  · rw [if_neg q]
    by_cases a : j < i
    · have h1 : j < min i cs.length := by omega
      have h2 : j < min (i + 1) cs.length := by omega
      rw [if_pos h1, if_pos h2, if_pos a, if_pos (by omega)]
    · have h1 : ¬ j < min i cs.length := by omega
      have h2 : ¬ j < min (i + 1) cs.length := by omega
      rw [if_neg h1, if_neg h2]
      by_cases b : j < cs.length
      · rw [if_pos (by omega), if_pos (by omega)]
      · rw [if_neg (by omega), if_neg (by omega)]
theorem own_part0 (cs : List Int32) : own_part cs 0 = List.replicate cs.length (Value.int (0 : Int32)) := by simp [own_part, own_lat]
theorem own_partn (cs : List Int32) : own_part cs cs.length = own_lat cs := by simp [own_part]
theorem own_partl {cs : List Int32} {i : Nat} (hi : i ≤ cs.length) : (own_part cs i).length = cs.length := by simp [own_part, own_lat]; omega
theorem own_wl : ∀ cs : List Int32, (StrChars.Road.wideBytes cs).length = 2 * cs.length
  | [] => rfl
  | _ :: cs => by simp [StrChars.Road.wideBytes, own_wl cs]; omega
theorem own_wa : ∀ (as bs : List Int32), StrChars.Road.wideBytes (as ++ bs) = StrChars.Road.wideBytes as ++ StrChars.Road.wideBytes bs
  | [], _ => rfl
  | a :: as, bs => by simp [StrChars.Road.wideBytes, own_wa as bs]
theorem own_set2 {cs : List Int32} {i : Nat} (hi : i < cs.length) : ((own_wpart cs i).set (2 * i) (Value.int (StrChars.lo8 (cs.getD i 0)))).set (2 * i + 1) (Value.int (StrChars.hi8 (cs.getD i 0))) = own_wpart cs (i + 1) := by
  have e : cs.take (i + 1) = cs.take i ++ [cs[i]] := by rw [List.take_succ_eq_append_getElem hi]
  have e2 : cs.getD i 0 = cs[i] := by simp [List.getD_eq_getElem?_getD, hi]
  have e3 : List.replicate (2 * (cs.length - i)) (Value.int (0 : Int32)) = Value.int 0 :: Value.int 0 :: List.replicate (2 * (cs.length - (i + 1))) (Value.int (0 : Int32)) := by
    rw [show 2 * (cs.length - i) = 2 * (cs.length - (i + 1)) + 1 + 1 by omega]; rfl
  have l : (StrChars.Road.wideBytes (cs.take i)).length = 2 * i := by rw [own_wl, List.length_take]; omega
  unfold own_wpart
  rw [e, e2, own_wa, e3, List.set_append_right _ _ (by omega), l, Nat.sub_self, List.set_cons_zero, List.set_append_right _ _ (by omega), l, show 2 * i + 1 - 2 * i = 0 + 1 by omega, List.set_cons_succ, List.set_cons_zero, List.append_assoc]
  rfl
theorem own_wpart0 (cs : List Int32) : own_wpart cs 0 = List.replicate (2 * cs.length) (Value.int (0 : Int32)) := by simp [own_wpart, StrChars.Road.wideBytes]
theorem own_wpartn (cs : List Int32) : own_wpart cs cs.length = StrChars.Road.wideBytes cs := by simp [own_wpart]
theorem own_wpartl {cs : List Int32} {i : Nat} (hi : i ≤ cs.length) : (own_wpart cs i).length = 2 * cs.length := by simp [own_wpart, own_wl]; omega
theorem own_rpl {n : Nat} : (List.replicate n (Value.int (0 : Int32))).length = n := List.length_replicate
def own_Ok (cs : List Int32) : Prop := (∀ c ∈ cs, ¬ c < 0 ∧ ¬ (65535 : Int32) < c) ∧ cs.length ≤ 4000
theorem own_Ok.at {cs : List Int32} (h : own_Ok cs) {i : Nat} (hi : i < cs.length) : ¬ cs.getD i 0 < 0 ∧ ¬ (65535 : Int32) < cs.getD i 0 := by
  have e : cs.getD i 0 = cs[i] := by simp [List.getD_eq_getElem?_getD, hi]
  rw [e]; exact h.1 _ (List.getElem_mem _)
theorem own_all {cs : List Int32} (h : ∀ j, j < cs.length → ¬ (255 : Int32) < cs.getD j 0) : ∀ c ∈ cs, ¬ (255 : Int32) < c := fun c hc => by
  obtain ⟨j, hj, rfl⟩ := List.getElem_of_mem hc
  have := h j hj
  rwa [show cs.getD j 0 = cs[j] by simp [List.getD_eq_getElem?_getD, hj]] at this
def own_cfa (n N2 : Int32) : Int32 := (((n - N2).toUInt32 >>> ((31 : Int32) &&& 31).toUInt32).toInt32).toInt8.toInt32
theorem own_cfa1 {k : Nat} (h1 : 0 < k) (h2 : k ≤ 4000) : own_cfa (Int32.ofNat k) (Int32.ofNat (2 * k)) = 1 := by
  have q : ((Int32.ofNat k - Int32.ofNat (2 * k)).toUInt32 >>> ((31 : Int32) &&& 31).toUInt32).toInt32 = 1 := by
    apply Int32.toBitVec_inj.mp
    show (BitVec.ofNat 32 k - BitVec.ofNat 32 (2 * k)) >>> ((((31 : Int32) &&& 31).toUInt32.mod 32).toBitVec) = 1#32
    have e : (((31 : Int32) &&& 31).toUInt32.mod 32).toBitVec = 31#32 := by decide
    rw [e]
    apply BitVec.eq_of_toNat_eq
    rw [BitVec.ushiftRight_eq', BitVec.toNat_ushiftRight, BitVec.toNat_sub, BitVec.toNat_ofNat, BitVec.toNat_ofNat, Nat.shiftRight_eq_div_pow]
    show (4294967296 - 2 * k % 4294967296 + k % 4294967296) % 4294967296 / 2147483648 = 1
    omega
  unfold own_cfa; rw [q]; decide
theorem own_cod {cs : List Int32} {cd N2 : Int32} {vs : List Value} (h : StrChars.Road.CodA cs cd N2 vs) (h1 : 0 < cs.length) (h2 : cs.length ≤ 4000) : own_cfa (Int32.ofNat cs.length) N2 = cd := by
  rcases h with ⟨rfl, rfl, -⟩ | ⟨rfl, rfl, -⟩
  · unfold own_cfa; rw [Int32.sub_self]; decide
  · exact own_cfa1 h1 h2
theorem own_cd01 {cs : List Int32} {cd N2 : Int32} {vs : List Value} (h : StrChars.Road.CodA cs cd N2 vs) : cd = 0 ∨ cd = 1 := h.imp (fun q => q.1) fun q => q.1
def QC5 (Z : State) (b : Addr) (kb : ClassId) (cs : List Int32) (h0 : Heap) (n0 : Nat) (v : Option Value) (h : Heap) (L : List Loc) : Prop := ∃ r : Nat, v = some (.int (Int32.ofNat r)) ∧ Fr n0 L ∧ Keep h0 h [b] ∧ ((r = cs.length ∧ (∀ c ∈ cs, ¬ (255 : Int32) < c) ∧ Arv Z h b kb .byte (Int32.ofNat cs.length) (own_lat cs) (.int (0 : Int32))) ∨ (r < cs.length ∧ (255 : Int32) < cs.getD r 0))
def QPut (Z : State) (b : Addr) (kb : ClassId) (N : Int32) (vs : List Value) (h0 : Heap) (n0 : Nat) (v : Option Value) (h : Heap) (L : List Loc) : Prop := v = none ∧ Fr n0 L ∧ Keep h0 h [b] ∧ Arv Z h b kb .byte N vs (.int (0 : Int32))
def QNew (Z : State) (N : Int32) (vs : List Value) (h0 : Heap) (n0 : Nat) (v : Option Value) (h : Heap) (L : List Loc) : Prop := ∃ (t : Addr) (k : ClassId), v = some (.ref t) ∧ Fr n0 L ∧ Keep h0 h [] ∧ h0.size ≤ t ∧ Arv Z h t k .byte N vs (.int (0 : Int32))
def QCmp (Z : State) (cs : List Int32) (h0 : Heap) (n0 : Nat) (v : Option Value) (h : Heap) (L : List Loc) : Prop := ∃ (t : Addr) (k : ClassId) (cd N2 : Int32) (vs : List Value), v = some (.ref t) ∧ Fr n0 L ∧ Keep h0 h [] ∧ h0.size ≤ t ∧ Arv Z h t k .byte N2 vs (.int (0 : Int32)) ∧ StrChars.Road.CodA cs cd N2 vs
def QSt (Z : State) (x : Addr) (cs : List Int32) (h0 : Heap) (n0 : Nat) (v : Option Value) (h : Heap) (L : List Loc) : Prop := ∃ (t : Addr) (k : ClassId) (cd N2 : Int32) (vs : List Value), v = none ∧ Fr n0 L ∧ Keep h0 h [x] ∧ Fld Z h x "java/lang/String" "value" "[B" (.ref t) ∧ Fld Z h x "java/lang/String" "coder" "B" (.int cd) ∧ Arv Z h t k .byte N2 vs (.int (0 : Int32)) ∧ StrChars.Road.CodA cs cd N2 vs
theorem own_i2c (x : Int32) : ¬ x.toUInt32.toUInt16.toUInt32.toInt32 < 0 ∧ ¬ (65535 : Int32) < x.toUInt32.toUInt16.toUInt32.toInt32 := by
  obtain ⟨u, hu⟩ : ∃ u, u = x.toUInt32.toUInt16 := ⟨_, rfl⟩
  rw [← hu]
  have h : u.toUInt32.toInt32.toInt = (u.toNat : Int) := by
    have h1 : u.toUInt32.toInt32 = Int32.ofNat u.toNat := by
      apply Int32.toBitVec_inj.mp
      apply BitVec.eq_of_toNat_eq
      have := u.toNat_lt
      show u.toUInt32.toNat = (BitVec.ofNat 32 u.toNat).toNat
      rw [UInt16.toNat_toUInt32, BitVec.toNat_ofNat]; omega
    rw [h1]; exact own_ti (by have := u.toNat_lt; omega)
  have hl := u.toNat_lt
  rw [Int32.lt_iff_toInt_lt, Int32.lt_iff_toInt_lt, h]
  have e0 : (0 : Int32).toInt = 0 := rfl
  have e1 : (65535 : Int32).toInt = 65535 := rfl
  rw [e0, e1]; omega
theorem own_none : ∀ c ∈ ([] : List Int32), ¬ c < 0 ∧ ¬ (255 : Int32) < c := fun c hc => nomatch hc
theorem own_i5 (x : Int32) : (x &&& (7 : Int32)) % (5 : Int32) = 0 ∨ (x &&& (7 : Int32)) % (5 : Int32) = 1 ∨ (x &&& (7 : Int32)) % (5 : Int32) = 2 ∨ (x &&& (7 : Int32)) % (5 : Int32) = 3 ∨ (x &&& (7 : Int32)) % (5 : Int32) = 4 := by
  have t : ∀ k : Fin 8, (Int32.ofNat k.val) % (5 : Int32) = 0 ∨ (Int32.ofNat k.val) % (5 : Int32) = 1 ∨ (Int32.ofNat k.val) % (5 : Int32) = 2 ∨ (Int32.ofNat k.val) % (5 : Int32) = 3 ∨ (Int32.ofNat k.val) % (5 : Int32) = 4 := by decide +kernel
  have h : (x &&& 7).toBitVec.toNat < 8 := by
    simp only [Int32.toBitVec_and, BitVec.toNat_and]
    exact Nat.lt_succ_of_le Nat.and_le_right
  have e : (x &&& 7) = Int32.ofNat (x &&& 7).toBitVec.toNat := by
    apply Int32.toBitVec_inj.mp
    show _ = BitVec.ofNat 32 _
    rw [BitVec.ofNat_toNat]; simp
  rw [e]
  exact t ⟨_, h⟩
theorem own_selQ {Z s : State} {a0 args : Array Value} {y : MethodName} {C : String} (hZ : Z.Warmed39 s.vm) (wsel : (Cond.selects C y y).before a0 Z = true) (wp : (Cond.privateMethod y).before a0 Z = true) (wm : (Cond.instanceMethod y).before a0 Z = true) (hy : y.cls ≠ "java/lang/invoke/MethodHandle" ∧ y.cls ≠ "java/lang/invoke/VarHandle") : (Cond.selects y.cls y y).before args s = true := by
  have ws' : (Cond.selects C y y).before args s = true := mvT hZ wsel
  have wm' : (Cond.instanceMethod y).before args s = true := mvT hZ wm
  obtain ⟨c, r, m2, -, -, q3, -, mk, hk, hi⟩ := Cond.selects_spec ws'
  exact Jvm.Stand.selects_self_of_private (findClass_of_methodNamed q3) hk hi (Cond.privateMethod_at (mvP hZ wp (args := args))) wm' hy
theorem own_same {Z : State} {a0 : Array Value} {y u : MethodName} {C : String} (w3 : (Cond.instanceMethod y).before a0 Z = true) (ws : (Cond.selects C u u).before a0 Z = true) (hc : u.cls = y.cls) (hmh : y.cls ≠ "java/lang/invoke/MethodHandle" ∧ y.cls ≠ "java/lang/invoke/VarHandle") : (Cond.sameMethod y.cls y.cls y.name y.desc).before a0 Z = true := by
  obtain ⟨m, meth, hn, hm, -, -⟩ := Cond.instanceMethod_spec w3
  have hf := State.methodFound?_of_named hn hmh
  obtain ⟨c, r, m2, -, -, q3, -, mk, hk, hi⟩ := Cond.selects_spec ws
  have e1 := findClass_of_methodNamed hn
  have e2 := findClass_of_methodNamed q3
  rw [hc] at e2
  have e3 : m.cls = m2.cls := Option.some.inj (e1.symm.trans e2)
  have hn' : Z.methodNamed? ⟨y.cls, y.name, y.desc⟩ = some m := hn
  simp only [Cond.before, Cond.holds, Cond.value, e1, hf, hn', e3, hk]
  simp [hi]
theorem own_nf {s : State} {args : Array Value} {y u : MethodName} {C : String} (ws : (Cond.selects C u u).before args s = true) (hc : u.cls = y.cls) : NotFace s y := fun r0 h0 => by
  obtain ⟨c, r, m2, -, -, q3, -, mk, hk, hi⟩ := Cond.selects_spec ws
  have e1 := findClass_of_methodNamed h0
  have e2 := findClass_of_methodNamed q3
  rw [hc] at e2
  have e3 : r0.cls = m2.cls := Option.some.inj (e1.symm.trans e2)
  exact ⟨mk, e3 ▸ hk, hi⟩
def own_z (n : Nat) : List Value := List.replicate n (.int (0 : Int32))
def own_sb0 (cs : List Int32) : List Value := own_lat cs ++ own_z (16 - cs.length)
def own_sb1 (cs : List Int32) : List Value := StrChars.Road.wideBytes cs ++ own_z (32 - 2 * cs.length)
def own_sbN (cd : Int32) : Int32 := if cd = 0 then 16 else 32
def own_sbv (cd : Int32) (cs : List Int32) : List Value := if cd = 0 then own_sb0 cs else own_sb1 cs
def own_cdi (cd : Int32) (cs : List Int32) : Prop := (cd = 0 ∧ ∀ c ∈ cs, ¬ (255 : Int32) < c) ∨ (cd = 1 ∧ ∃ c ∈ cs, (255 : Int32) < c)
theorem own_zl (n : Nat) : (own_z n).length = n := List.length_replicate
theorem own_zs (n : Nat) : own_z (n + 1) = .int (0 : Int32) :: own_z n := rfl
theorem own_latl (cs : List Int32) : (own_lat cs).length = cs.length := List.length_map _
theorem own_lata (as bs : List Int32) : own_lat (as ++ bs) = own_lat as ++ own_lat bs := List.map_append
theorem own_sb0l {cs : List Int32} (h : cs.length ≤ 16) : (own_sb0 cs).length = 16 := by unfold own_sb0; rw [List.length_append, own_latl, own_zl]; omega
theorem own_sb1l {cs : List Int32} (h : cs.length ≤ 16) : (own_sb1 cs).length = 32 := by unfold own_sb1; rw [List.length_append, own_wl, own_zl]; omega
theorem own_ap0 {cs : List Int32} {c : Int32} (h : cs.length < 16) : (own_sb0 cs).set cs.length (.int (StrChars.lo8 c)) = own_sb0 (cs ++ [c]) := by
  unfold own_sb0
  have e : 16 - cs.length = (16 - (cs ++ [c]).length) + 1 := by rw [List.length_append]; simp; omega
  rw [List.set_append_right _ _ (by rw [own_latl]; exact Nat.le_refl _), own_latl, Nat.sub_self, e, own_zs, List.set_cons_zero, own_lata, List.append_assoc]
  rfl
theorem own_wext {xs : List Int32} {c : Int32} {k : Nat} : ((StrChars.Road.wideBytes xs ++ own_z (k + 2)).set (2 * xs.length) (.int (StrChars.lo8 c))).set (2 * xs.length + 1) (.int (StrChars.hi8 c)) = StrChars.Road.wideBytes (xs ++ [c]) ++ own_z k := by
  have l := own_wl xs
  rw [own_zs, own_zs, List.set_append_right _ _ (by omega), l, Nat.sub_self, List.set_cons_zero, List.set_append_right _ _ (by omega), l, show 2 * xs.length + 1 - 2 * xs.length = 0 + 1 by omega, List.set_cons_succ, List.set_cons_zero, own_wa, List.append_assoc]
  rfl
theorem own_ap1 {cs : List Int32} {c : Int32} (h : cs.length < 16) : ((own_sb1 cs).set (2 * cs.length) (.int (StrChars.lo8 c))).set (2 * cs.length + 1) (.int (StrChars.hi8 c)) = own_sb1 (cs ++ [c]) := by
  unfold own_sb1
  have e : 32 - 2 * cs.length = (32 - 2 * (cs ++ [c]).length) + 2 := by rw [List.length_append]; simp; omega
  rw [e]; exact own_wext
theorem own_cdi0 {cs : List Int32} {c : Int32} (h : ∀ c ∈ cs, ¬ (255 : Int32) < c) (q : ¬ (255 : Int32) < c) : own_cdi 0 (cs ++ [c]) := Or.inl ⟨rfl, fun d hd => by
  rcases List.mem_append.mp hd with z | z
  · exact h d z
  · rw [List.mem_singleton.mp z]; exact q⟩
theorem own_cdi1 {cs : List Int32} {c : Int32} (q : (255 : Int32) < c) : own_cdi 1 (cs ++ [c]) := Or.inr ⟨rfl, c, List.mem_append.mpr (Or.inr (List.mem_singleton.mpr rfl)), q⟩
theorem own_cdi2 {cs ds : List Int32} (h : ∃ c ∈ cs, (255 : Int32) < c) : own_cdi 1 (cs ++ ds) := by
  obtain ⟨c, hc, q⟩ := h
  exact Or.inr ⟨rfl, c, List.mem_append.mpr (Or.inl hc), q⟩
theorem own_cdi3 {cs ds : List Int32} (h : ∀ c ∈ cs, ¬ (255 : Int32) < c) (q : ∀ c ∈ ds, ¬ (255 : Int32) < c) : own_cdi 0 (cs ++ ds) := Or.inl ⟨rfl, fun d hd => (List.mem_append.mp hd).elim (h d) (q d)⟩
theorem own_len1 (cs : List Int32) (c : Int32) : Int32.ofNat cs.length + (1 : Int32) = Int32.ofNat (cs ++ [c]).length := by rw [List.length_append]; exact own_inc _
theorem own_ofadd (a b : Nat) : Int32.ofNat a + Int32.ofNat b = Int32.ofNat (a + b) := (Int32.ofNat_add a b).symm
theorem own_lenA (cs ds : List Int32) : Int32.ofNat cs.length + Int32.ofNat ds.length = Int32.ofNat (cs ++ ds).length := by rw [List.length_append]; exact own_ofadd _ _
theorem own_sub16 {m : Nat} (h : m ≤ 16) : ¬ (0 : Int32) < Int32.ofNat m - (16 : Int32) := by
  have t : ∀ k : Fin 17, ¬ (0 : Int32) < Int32.ofNat k.val - (16 : Int32) := by decide
  exact t ⟨m, by omega⟩
theorem own_sb0g {cs : List Int32} {i : Nat} (h : i < cs.length) : (own_sb0 cs).getD i (.int (0 : Int32)) = .int (StrChars.lo8 (cs.getD i 0)) := by
  unfold own_sb0
  rw [List.getD_eq_getElem?_getD, List.getElem?_append_left (by rw [own_latl]; exact h)]
  simp [own_lat, List.getD_eq_getElem?_getD, h]
theorem own_take0 {cs : List Int32} (h : cs.length ≤ 16) : (List.range cs.length).map (fun i => (own_sb0 cs).getD (0 + i) (.int (0 : Int32))) = own_lat cs := by
  apply List.ext_getElem
  · rw [List.length_map, List.length_range, own_latl]
  · intro i h1 h2
    rw [List.getElem_map, List.getElem_range, Nat.zero_add]
    have hi : i < cs.length := by rw [own_latl] at h2; exact h2
    rw [own_sb0g hi]; simp [own_lat, List.getD_eq_getElem?_getD, hi]
theorem own_take1 {cs : List Int32} (h : cs.length ≤ 16) : (List.range (2 * cs.length)).map (fun i => (own_sb1 cs).getD (0 + i) (.int (0 : Int32))) = StrChars.Road.wideBytes cs := by
  apply List.ext_getElem
  · rw [List.length_map, List.length_range, own_wl]
  · intro i h1 h2
    rw [List.getElem_map, List.getElem_range, Nat.zero_add]
    unfold own_sb1
    rw [List.getD_eq_getElem?_getD, List.getElem?_append_left h2, List.getElem?_eq_getElem h2]; rfl
def QNewSB (Z : State) (b : Addr) (h0 : Heap) (n0 : Nat) (r : Option Value) (h : Heap) (L : List Loc) : Prop := ∃ (v : Addr) (kv : ClassId), r = none ∧ Fr n0 L ∧ Keep h0 h [b] ∧ h0.size ≤ v ∧ Fld Z h b "java/lang/AbstractStringBuilder" "value" "[B" (.ref v) ∧ Fld Z h b "java/lang/AbstractStringBuilder" "coder" "B" (.int (0 : Int32)) ∧ Fld Z h b "java/lang/AbstractStringBuilder" "count" "I" (.int (Int32.ofNat ([] : List Int32).length)) ∧ Fld Z h b "java/lang/AbstractStringBuilder" "maybeLatin1" "Z" (.int (0 : Int32)) ∧ Arv Z h v kv .byte (own_sbN (0 : Int32)) (own_sbv (0 : Int32) ([] : List Int32)) (.int (0 : Int32))
def QSB (Z : State) (rv : Option Value) (b v0 : Addr) (cs : List Int32) (h0 : Heap) (n0 : Nat) (r : Option Value) (h : Heap) (L : List Loc) : Prop := ∃ (v : Addr) (kv : ClassId) (cd : Int32), r = rv ∧ Fr n0 L ∧ Keep h0 h [b, v0] ∧ (v = v0 ∨ h0.size ≤ v) ∧ Fld Z h b "java/lang/AbstractStringBuilder" "value" "[B" (.ref v) ∧ Fld Z h b "java/lang/AbstractStringBuilder" "coder" "B" (.int cd) ∧ Fld Z h b "java/lang/AbstractStringBuilder" "count" "I" (.int (Int32.ofNat cs.length)) ∧ Fld Z h b "java/lang/AbstractStringBuilder" "maybeLatin1" "Z" (.int (0 : Int32)) ∧ Arv Z h v kv .byte (own_sbN cd) (own_sbv cd cs) (.int (0 : Int32)) ∧ own_cdi cd cs
def QInf (Z : State) (d : Addr) (kd : ClassId) (N : Int32) (vs : List Value) (h0 : Heap) (n0 : Nat) (r : Option Value) (h : Heap) (L : List Loc) : Prop := r = none ∧ Fr n0 L ∧ Keep h0 h [d] ∧ Arv Z h d kd .byte N vs (.int (0 : Int32))
def QStrN (Z : State) (cs : List Int32) (h0 : Heap) (n0 : Nat) (v : Option Value) (h : Heap) (L : List Loc) : Prop := ∃ (x t : Addr) (k : ClassId) (cd N2 : Int32) (vs : List Value), v = some (.ref x) ∧ Fr n0 L ∧ Keep h0 h [] ∧ h0.size ≤ x ∧ Exa Z h x "java/lang/String" ∧ Fld Z h x "java/lang/String" "value" "[B" (.ref t) ∧ Fld Z h x "java/lang/String" "coder" "B" (.int cd) ∧ Arv Z h t k .byte N2 vs (.int (0 : Int32)) ∧ StrChars.Road.CodA cs cd N2 vs
def own_ce (c : Int32) : Int32 := if (255 : Int32) < c then 0 else 1
theorem own_ce1 {c : Int32} (h : ¬ own_ce c = 0) : ¬ (255 : Int32) < c := fun q => h (by unfold own_ce; rw [if_pos q])
theorem own_ce0 {c : Int32} (h : own_ce c = 0) : (255 : Int32) < c := by
  by_cases q : (255 : Int32) < c
  · exact q
  · unfold own_ce at h; rw [if_neg q] at h; exact absurd h (by decide)
theorem own_nneg {x : Int32} (h : x.toBitVec.toNat < 2147483648) : ¬ x < 0 := by
  rw [Int32.lt_iff_toInt_lt]
  show ¬ x.toBitVec.toInt < 0
  rw [BitVec.toInt_eq_toNat_of_lt (by omega)]; omega
theorem own_ofN {i : Nat} (h : i < 2147483648) : (Int32.ofNat i).toBitVec.toNat < 2147483648 := by
  show (BitVec.ofNat 32 i).toNat < _
  rw [BitVec.toNat_ofNat]; omega
theorem own_or3 {a b d : Nat} (ha : a < 2147483648) (hb : b < 2147483648) (hd : d < 2147483648) : ¬ (Int32.ofNat a ||| Int32.ofNat b) ||| Int32.ofNat d < 0 := by
  apply own_nneg
  rw [Int32.toBitVec_or, Int32.toBitVec_or, BitVec.toNat_or, BitVec.toNat_or]
  exact Nat.or_lt_two_pow (n := 31) (Nat.or_lt_two_pow (n := 31) (own_ofN ha) (own_ofN hb)) (own_ofN hd)
theorem own_ofsub {n i : Nat} (h : i ≤ n) : Int32.ofNat n - Int32.ofNat i = Int32.ofNat (n - i) := by
  have e : Int32.ofNat n = Int32.ofNat (n - i) + Int32.ofNat i := by rw [own_ofadd, Nat.sub_add_cancel h]
  rw [e, Int32.add_sub_cancel]
theorem own_room3 {N a b : Nat} (h : a + b ≤ N) (hN : N < 2147483648) : ¬ (Int32.ofNat N - Int32.ofNat a) < Int32.ofNat b := by
  rw [own_ofsub (by omega), own_lti (by omega) (by omega)]; omega
def own_wx (M : Nat) (ds cs : List Int32) (i : Nat) : List Value := StrChars.Road.wideBytes (ds ++ cs.take i) ++ own_z (M - 2 * (ds.length + i))
theorem own_wx0 (M : Nat) (ds cs : List Int32) : own_wx M ds cs 0 = StrChars.Road.wideBytes ds ++ own_z (M - 2 * ds.length) := by simp [own_wx]
theorem own_wxn (M : Nat) (ds cs : List Int32) : own_wx M ds cs cs.length = StrChars.Road.wideBytes (ds ++ cs) ++ own_z (M - 2 * (ds ++ cs).length) := by simp [own_wx]
theorem own_wxl {M : Nat} {ds cs : List Int32} {i : Nat} (hi : i ≤ cs.length) (h : 2 * (ds.length + cs.length) ≤ M) : (own_wx M ds cs i).length = M := by
  unfold own_wx; rw [List.length_append, own_wl, own_zl, List.length_append, List.length_take]; omega
theorem own_wxs {M : Nat} {ds cs : List Int32} {i : Nat} (hi : i < cs.length) (h : 2 * (ds.length + cs.length) ≤ M) : ((own_wx M ds cs i).set (2 * (ds.length + i)) (.int (StrChars.lo8 (cs.getD i 0)))).set (2 * (ds.length + i) + 1) (.int (StrChars.hi8 (cs.getD i 0))) = own_wx M ds cs (i + 1) := by
  have e : cs.take (i + 1) = cs.take i ++ [cs.getD i 0] := by rw [List.take_succ_eq_append_getElem hi]; simp [List.getD_eq_getElem?_getD, hi]
  have l : (ds ++ cs.take i).length = ds.length + i := by rw [List.length_append, List.length_take]; omega
  unfold own_wx
  rw [e, ← List.append_assoc, show M - 2 * (ds.length + i) = (M - 2 * (ds.length + (i + 1))) + 2 by omega]
  have q := own_wext (xs := ds ++ cs.take i) (c := cs.getD i 0) (k := M - 2 * (ds.length + (i + 1)))
  rw [l] at q; exact q
theorem own_wx0' {M : Nat} {cs : List Int32} : own_wx M [] cs 0 = own_z M := by simp [own_wx, StrChars.Road.wideBytes]
def QE0 (Z : State) (a1 : Addr) (h0 : Heap) (n0 : Nat) (v : Option Value) (h : Heap) (L : List Loc) : Prop := ∃ (t : Addr) (k : ClassId), v = none ∧ Fr n0 L ∧ Keep h0 h [a1] ∧ Fld Z h a1 "java/lang/String" "value" "[B" (.ref t) ∧ Fld Z h a1 "java/lang/String" "coder" "B" (.int (0 : Int32)) ∧ Arv Z h t k .byte (0 : Int32) [] (.int (0 : Int32))
abbrev k42_149 := jdk_42_method_149_code
theorem d42_149_0 : Dk k42_149 0 (.aload_n 0) 1 := own_k
theorem d42_149_1 : Dk k42_149 1 (.invokespecial 1) 3 := own_k
theorem d42_149_4 : Dk k42_149 4 (.iload_n 3) 1 := own_k
theorem d42_149_5 : Dk k42_149 5 (.ifCond .ne 22) 3 := own_k
theorem d42_149_8 : Dk k42_149 8 (.aload_n 0) 1 := own_k
theorem d42_149_9 : Dk k42_149 9 (.ldc 7) 2 := own_k
theorem d42_149_11 : Dk k42_149 11 (.getfield 9) 3 := own_k
theorem d42_149_14 : Dk k42_149 14 (.putfield 9) 3 := own_k
theorem d42_149_17 : Dk k42_149 17 (.aload_n 0) 1 := own_k
theorem d42_149_18 : Dk k42_149 18 (.ldc 7) 2 := own_k
theorem d42_149_20 : Dk k42_149 20 (.getfield 15) 3 := own_k
theorem d42_149_23 : Dk k42_149 23 (.putfield 15) 3 := own_k
theorem d42_149_26 : Dk k42_149 26 .return_ 1 := own_k
theorem pn_0 : plainName "java/lang/String" = true := by first | (simp [plainName, overriddenIn]; done) | decide +kernel
theorem ef_rm_i4e (m : MethodId) (x0 : Addr) (x1 : Addr) (x2 : Int32) (x3 : Int32) : entryFrame m #[(.ref x0), (.ref x1), (.int x2), (.int x3), .null] 6 = mkF m 0 #[.val (.ref x0), .val (.ref x1), .val (.int x2), .val (.int x3), .val .null, .unset] [] := by
   first | (simp [entryFrame, mkF, argsToLocals, Value.category]; done) | rfl
set_option maxRecDepth 65536 in
set_option maxHeartbeats 40000000 in
theorem rm_i4e (l : Launch) (Z : State) (a0 : Array Value) (hw : ∀ d ∈ tables_1, d.before a0 Z = true) (ws : List Jvm.Cond) (a1 a2 : Addr) (h0 : Heap) (n0 : Nat) (O0 : Old Z n0 h0) (E_a : Exa Z h0 a1 "java/lang/String") (F_v : Fld Z h0 a1 "java/lang/String" "value" "[B" .null) (F_c : Fld Z h0 a1 "java/lang/String" "coder" "B" (.int (0 : Int32))) (g_a : n0 ≤ a1) :
    MetFree l (⟨"java/lang/String", "<init>", "([CIILjava/lang/Void;)V"⟩ : MethodName) (head1 (Jvm.Cond.code (⟨"java/lang/String", "<init>", "([CIILjava/lang/Void;)V"⟩ : MethodName) jdk_42_method_149_code 6 none :: ws) ⟨1, 4, 8, 12⟩) (fun aA U => aA = #[(.ref a1), (.ref a2), (.int (0 : Int32)), (.int (0 : Int32)), .null] ∧ Z.Warmed39 U.vm ∧ U.heap = h0 ∧ CHv Z own_EL U.vm h0) (fun _ _ _ _ _ => True) (fun _ U oO U' => ∃ rV rL, oO = .returned rV ∧ QE0 Z a1 h0 n0 rV U'.heap rL ∧ CHr Z own_EL U.vm U.heap U'.vm U'.heap ∧ ReturnedEndW U oO U' rL 4 8) := by
  refine MetFree.of_bodySF (plainFor_of_name pn_0) hisR ?_
  intro p e s m args below meth cC s₁ Bd hml0 hP hK
  obtain ⟨rfl, hZ, hh, hC0⟩ := hP
  have hx := Bd.exec
  have hby := Bd.bytes
  have hml : cC.maxLocals = 6 := hml0
  have hown : s.vm.findClass "java/lang/String" = some m.cls := findClass_of_methodNamed Bd.named
  have hnm := (name_of_methodNamed Bd.named Bd.method).1
  have hrt := Bd.returns
  have hlk : meth.locks = false := Bd.notSynchronized
  have X0 : Stand p l e ⟨1, 4, 8, 12⟩ (s.setVm s.vm) m #[(.ref a1), (.ref a2), (.int (0 : Int32)), (.int (0 : Int32)), .null] below meth cC s₁ [] 0 0 := Stand.of_body Bd
  have e0 : s₁.heap = h0 := by rw [← hh, Bd.state]; rfl
  have N0 := Fr.nil n0
  have Z0 : n0 ≤ h0.size := O0.1 ▸ O0.2.1
  have hS0 : s.Since s.vm 0 := (State.WarmedH.refl s).since 0
  have C0 : CHr Z own_EL s.vm h0 s.vm h0 := CHr.refl hC0
  have own_wS := own_wSt hw
  have own_hEL := own_hELt hw
  show own_Go p e below (s₁.setTop (entryFrame m #[(.ref a1), (.ref a2), (.int (0 : Int32)), (.int (0 : Int32)), .null] 6)) (fun oO U' => ∃ rV rL, oO = .returned rV ∧ QE0 Z a1 h0 n0 rV U'.heap rL ∧ CHr Z own_EL s.vm s.heap U'.vm U'.heap ∧ ReturnedEndW s oO U' rL 4 8)
  refine own_go (fun _ k => castTop (ef_rm_i4e m a1 a2 _ _) k) ?_
  refine og (fun _ k => XS.aloadN X0.here hx rfl (hb hby d42_149_0) rfl rfl k) ?_
  obtain ⟨T1, X1, e1, st1⟩ := initO X0 hx hZ hown (tw hw 11 rfl) (tw hw 12 rfl) (tw hw 13 rfl) e0 (g := (mkF m 1 #[.val (.ref a1), .val (.ref a2), .val (.int (0 : Int32)), .val (.int (0 : Int32)), .val .null, .unset] [(.ref a1)])) rfl (by rw [hml]; rfl) rfl (hb hby d42_149_1) (by decide) (W := 0) (by show 2 * 0 + _ ≤ _; exact Nat.le_of_eq rfl) (by decide)
  refine own_go st1 ?_
  refine og (fun _ k => XS.iloadN X1.here hx rfl (hb hby d42_149_4) rfl k) ?_
  refine og (fun _ k => XS.ifNo X1.here hx rfl (hb hby d42_149_5) rfl ((if0 _ _).trans (teq (by decide : (0 : Int32) = (0 : Int32))).2) k) ?_
  try dsimp only [mkF]
  refine og (fun _ k => XS.aloadN X1.here hx rfl (hb hby d42_149_8) rfl rfl k) ?_
  obtain ⟨aL2, T2, h2, k12, b2, kb2, X2, e2, E2, hS2, hk2, hZ2, hown2, Ea2, Fc2, Fv2, Va2, la2, lb2, A2, Li2, sf2, st2⟩ := ldcCH X1 hx hZ hown (tw hw 14 rfl) own_wS e1 hS0 (Nat.zero_le _) own_hEL (by decide) C0.1 (vs := []) (z := (0 : Int32)) ⟨by decide, by decide⟩ (by decide) (by decide) (g := (mkF m 9 #[.val (.ref a1), .val (.ref a2), .val (.int (0 : Int32)), .val (.int (0 : Int32)), .val .null, .unset] [(.ref a1)])) rfl (hb hby d42_149_9) (n := 0) (by decide) (by decide) (by decide) (by decide)
  refine own_go st2 ?_
  have C3 := C0.trans A2
  have sf4 : Safe Z own_EL T2.vm h2 a1 := own_safeNull hZ2.alike (E_a.ext E2) (F_v.ext E2)
  obtain ⟨T5, X5, e5, st5⟩ := getF X2 hx hZ2 hown2 (host := "") (Or.inl (tw hw 20 rfl)) Via.refl e2 Fv2 (g := (mkF m 11 #[.val (.ref a1), .val (.ref a2), .val (.int (0 : Int32)), .val (.int (0 : Int32)), .val .null, .unset] [(.ref aL2), (.ref a1)])) rfl rfl (hb hby d42_149_11)
  refine own_go st5 ?_
  obtain ⟨T6, h6, X6, e6, W6, st6⟩ := putF X5 hx hZ2 hown2 (host := "") (Or.inl (tw hw 20 rfl)) Via.refl e5 (F_v.ext E2) (E_a.ext E2) (Or.inr ⟨(tw hw 16 rfl), rfl, hnm⟩) (tw hw 1 rfl) (ty := (.array .byte)) (by decide) rfl rfl (g := (mkF m 14 #[.val (.ref a1), .val (.ref a2), .val (.int (0 : Int32)), .val (.int (0 : Int32)), .val .null, .unset] [(.ref b2), (.ref a1)])) rfl rfl (hb hby d42_149_14)
  refine own_go st6 ?_
  have N6 := Fr.snoc X6 N0 g_a
  have C7 := C3.trans (CHr.wr W6 sf4 C3.1)
  have Fw6 := (F_v.ext E2).same W6
  refine og (fun _ k => XS.aloadN X6.here hx rfl (hb hby d42_149_17) rfl rfl k) ?_
  try dsimp only [mkF]
  obtain ⟨aL8, T8, h8, k18, b8, kb8, X8, e8, E8, hS8, hk8, hZ8, hown8, Ea8, Fc8, Fv8, Va8, la8, lb8, A8, Li8, sf8, st8⟩ := ldcCH X6 hx hZ2 hown2 (tw hw 14 rfl) own_wS e6 hS2 (Nat.le_trans hk2 (Keep.of_wr W6).1) own_hEL (by decide) C7.1 (vs := []) (z := (0 : Int32)) ⟨by decide, by decide⟩ (by decide) (by decide) (g := (mkF m 18 #[.val (.ref a1), .val (.ref a2), .val (.int (0 : Int32)), .val (.int (0 : Int32)), .val .null, .unset] [(.ref a1)])) rfl (hb hby d42_149_18) (n := 0) (by decide) (by decide) (by decide) (by decide)
  refine own_go st8 ?_
  have C9 := C7.trans A8
  have f10 := (A8.safe (Nat.lt_of_lt_of_le E_a.lt (Nat.le_trans E2.1 (Keep.of_wr W6).1)) (Safe.wr W6 sf4 C3.1 sf4))
  obtain ⟨T11, X11, e11, st11⟩ := getF X8 hx hZ8 hown8 (host := "") (Or.inl (tw hw 21 rfl)) Via.refl e8 Fc8 (g := (mkF m 20 #[.val (.ref a1), .val (.ref a2), .val (.int (0 : Int32)), .val (.int (0 : Int32)), .val .null, .unset] [(.ref aL8), (.ref a1)])) rfl rfl (hb hby d42_149_20)
  refine own_go st11 ?_
  have f12 := (((F_c.ext E2).other W6 (Or.inr (slot_ne (Or.inr (tw hw 17 rfl)) (Or.inr (tw hw 16 rfl)) (by decide) (t := .byte) (t' := (.array .byte)) (by decide) (by decide)))).ext E8)
  have f13 := (((E_a.ext E2).wr W6).ext E8)
  obtain ⟨T14, h14, X14, e14, W14, st14⟩ := putFN X11 hx hZ8 hown8 (tw hw 21 rfl) Via.refl e11 f12 f13 (Or.inr ⟨(tw hw 17 rfl), rfl, hnm⟩) (tw hw 1 rfl) (ty := .byte) (v' := (.int (0 : Int32))) (by decide) rfl rfl (g := (mkF m 23 #[.val (.ref a1), .val (.ref a2), .val (.int (0 : Int32)), .val (.int (0 : Int32)), .val .null, .unset] [(.int (0 : Int32)), (.ref a1)])) rfl rfl (hb hby d42_149_23)
  refine own_go st14 ?_
  have N14 := Fr.snoc X14 N6 g_a
  have C15 := C9.trans (CHr.wr W14 f10 C9.1)
  have Fw14 := f12.same W14
  have f16 := (((((Keep.refl h0 [a1]).ext E2).wr W6 (Or.inl (List.mem_of_getElem? (i := 0) rfl))).ext E8).wr W14 (Or.inl (List.mem_of_getElem? (i := 0) rfl)))
  have f17 := ((Fw6.ext E8).other W14 (Or.inr (slot_ne (Or.inr (tw hw 16 rfl)) (Or.inr (tw hw 17 rfl)) (by decide) (t := (.array .byte)) (t' := .byte) (by decide) (by decide))))
  have f18 := (((Va2.other W6 (Ne.symm (sf2 _ sf4).2)).ext E8).other W14 (Ne.symm (sf2 _ sf4).2))
  refine own_finW (v := none) X14 hh hZ8 hS8 (by rw [e14]; exact (Nat.le_trans hk8 (Keep.of_wr W14).1)) (fun _ => rfl) hlk (fun fs hr => X14.returnOut hx hrt (hb hby d42_149_26) hr) (QQ := QE0 Z a1 h0 n0) ?_ own_hEL e14 (C15) (by decide) (by decide)
  rw [e14]
  exact ⟨b2, kb2, rfl, N14, f16, f17, Fw14, f18⟩

abbrev k42_3 := jdk_42_method_3_code
theorem d42_3_0 : Dk k42_3 0 (.aload_n 0) 1 := own_k
theorem d42_3_1 : Dk k42_3 1 (.aload_n 1) 1 := own_k
theorem d42_3_2 : Dk k42_3 2 (.iconst 0) 1 := own_k
theorem d42_3_3 : Dk k42_3 3 (.aload_n 1) 1 := own_k
theorem d42_3_4 : Dk k42_3 4 .arraylength 1 := own_k
theorem d42_3_5 : Dk k42_3 5 .aconst_null 1 := own_k
theorem d42_3_6 : Dk k42_3 6 (.invokespecial 27) 3 := own_k
theorem pd_0 : parseMethodDescriptor "([CIILjava/lang/Void;)V" = some ⟨[(.array .char), .int, .int, (.object "java/lang/Void")], none⟩ := by decide +kernel
theorem d42_3_9 : Dk k42_3 9 .return_ 1 := own_k
theorem ef_rm_i1e (m : MethodId) (x0 : Addr) (x1 : Addr) : entryFrame m #[(.ref x0), (.ref x1)] 2 = mkF m 0 #[.val (.ref x0), .val (.ref x1)] [] := by
   first | (simp [entryFrame, mkF, argsToLocals, Value.category]; done) | rfl
set_option maxRecDepth 65536 in
set_option maxHeartbeats 40000000 in
theorem rm_i1e (l : Launch) (Z : State) (a0 : Array Value) (hw : ∀ d ∈ tables_1, d.before a0 Z = true) (ws : List Jvm.Cond) (a1 a2 : Addr) (k2 : ClassId) (h0 : Heap) (n0 : Nat) (O0 : Old Z n0 h0) (E_a : Exa Z h0 a1 "java/lang/String") (F_v : Fld Z h0 a1 "java/lang/String" "value" "[B" .null) (F_c : Fld Z h0 a1 "java/lang/String" "coder" "B" (.int (0 : Int32))) (g_a : n0 ≤ a1) (V_a2 : Arv Z h0 a2 k2 .char (0 : Int32) [] (.int (0 : Int32))) :
    MetFree l (⟨"java/lang/String", "<init>", "([C)V"⟩ : MethodName) (head1 (Jvm.Cond.code (⟨"java/lang/String", "<init>", "([C)V"⟩ : MethodName) jdk_42_method_3_code 2 none :: ws) ⟨2, 4, 8, 29⟩) (fun aA U => aA = #[(.ref a1), (.ref a2)] ∧ Z.Warmed39 U.vm ∧ U.heap = h0 ∧ CHv Z own_EL U.vm h0) (fun _ _ _ _ _ => True) (fun _ U oO U' => ∃ rV rL, oO = .returned rV ∧ QE0 Z a1 h0 n0 rV U'.heap rL ∧ CHr Z own_EL U.vm U.heap U'.vm U'.heap ∧ ReturnedEndW U oO U' rL 4 8) := by
  refine MetFree.of_bodySF (plainFor_of_name pn_0) hisR ?_
  intro p e s m args below meth cC s₁ Bd hml0 hP hK
  obtain ⟨rfl, hZ, hh, hC0⟩ := hP
  have hx := Bd.exec
  have hby := Bd.bytes
  have hml : cC.maxLocals = 2 := hml0
  have hown : s.vm.findClass "java/lang/String" = some m.cls := findClass_of_methodNamed Bd.named
  have hnm := (name_of_methodNamed Bd.named Bd.method).1
  have hrt := Bd.returns
  have hlk : meth.locks = false := Bd.notSynchronized
  have X0 : Stand p l e ⟨2, 4, 8, 29⟩ (s.setVm s.vm) m #[(.ref a1), (.ref a2)] below meth cC s₁ [] 0 0 := Stand.of_body Bd
  have e0 : s₁.heap = h0 := by rw [← hh, Bd.state]; rfl
  have N0 := Fr.nil n0
  have Z0 : n0 ≤ h0.size := O0.1 ▸ O0.2.1
  have hS0 : s.Since s.vm 0 := (State.WarmedH.refl s).since 0
  have C0 : CHr Z own_EL s.vm h0 s.vm h0 := CHr.refl hC0
  have own_wS := own_wSt hw
  have own_hEL := own_hELt hw
  show own_Go p e below (s₁.setTop (entryFrame m #[(.ref a1), (.ref a2)] 2)) (fun oO U' => ∃ rV rL, oO = .returned rV ∧ QE0 Z a1 h0 n0 rV U'.heap rL ∧ CHr Z own_EL s.vm s.heap U'.vm U'.heap ∧ ReturnedEndW s oO U' rL 4 8)
  refine own_go (fun _ k => castTop (ef_rm_i1e m a1 a2) k) ?_
  refine og (fun _ k => XS.aloadN X0.here hx rfl (hb hby d42_3_0) rfl rfl k) ?_
  refine og (fun _ k => XS.aloadN X0.here hx rfl (hb hby d42_3_1) rfl rfl k) ?_
  refine og (fun _ k => XS.iconst X0.here hx rfl (hb hby d42_3_2) k) ?_
  refine og (fun _ k => XS.aloadN X0.here hx rfl (hb hby d42_3_3) rfl rfl k) ?_
  try dsimp only [mkF]
  obtain ⟨c19, A19, q19, S19, M19, Hs19, Gs19⟩ := id V_a2
  refine og (fun _ k => X0.arraylength hx (by rw [e0]; exact A19.1) (State.isArrayOf_alike hZ.alike A19.2.1) (g := (mkF m 4 #[.val (.ref a1), .val (.ref a2)] [(.ref a2), (.int (0 : Int32)), (.ref a2), (.ref a1)])) rfl rfl (hb hby d42_3_4) _ k) ?_
  rw [len_of S19 M19]
  refine og (fun _ k => XS.aconstNull X0.here hx rfl (hb hby d42_3_5) k) ?_
  obtain ⟨v20, _, ⟨T20, L20, k20, n20⟩, -, X20, hS20, hg20, ⟨Lc20, hQ20, l20, y20, z20, A20⟩, st20⟩ := X0.specialBackS hx (y := (⟨"java/lang/String", "<init>", "([CIILjava/lang/Void;)V"⟩ : MethodName)) rfl hown (mvT hZ (tw hw 7 rfl)) (mvT hZ (tw hw 8 rfl)) (mvT hZ (tw hw 10 rfl)) (by decide) (backOfSH (W := 0) (rm_i4e l Z a0 hw [] a1 a2 h0 n0 O0 E_a F_v F_c g_a) hZ (tw hw 10 rfl) (tw hw 2 rfl) (by decide) (by decide) own_hEL C0.1) (g := (mkF m 6 #[.val (.ref a1), .val (.ref a2)] [.null, (.int (0 : Int32)), (.int (0 : Int32)), (.ref a2), (.ref a1)])) rfl (by rw [hml]; rfl) (Steps.refl _) (a := a1) (argsL := [(.ref a2), (.int (0 : Int32)), (.int (0 : Int32)), .null]) (rest := []) (lenOf pd_0 rfl) rfl (by show 2 * 0 + _ ≤ _; exact Nat.le_of_eq rfl) (hb hby d42_3_6) (fun _ _ => ⟨rfl, e0, (by decide : 0 + 4 ≤ _), (by decide : 0 + 8 ≤ _)⟩)
  dsimp only [Pt.U, Pt.locs, Pt.cells, Pt.slots] at X20 l20 y20 z20 st20 hQ20 hS20 hg20 A20
  subst l20 y20 z20
  refine own_gos st20 ?_
  obtain ⟨X20, hS20, hZ20, hown20⟩ := rebS hS0 (k0 := _) (n1 := s₁.heap.size) (by rw [e0]; exact (Nat.zero_le _)) X20 hS20 hg20 hZ hown
  obtain ⟨t20, kt20, rfl, Nq20, K20, Fv20, Fc20, Vt20⟩ := hQ20
  have C21 := C0.trans A20
  have N20 := Fr.app N0 Nq20
  have f22 := ((Keep.refl h0 [a1]).trans K20 (allS (Or.inl (List.mem_of_getElem? (i := 0) rfl)) all0))
  refine own_finW (v := none) X20 hh hZ20 hS20 (by rw [(rfl : T20.heap = T20.heap)]; exact (Nat.le_refl _)) (fun _ => rfl) hlk (fun fs hr => X20.returnOut hx hrt (hb hby d42_3_9) hr) (QQ := QE0 Z a1 h0 n0) ?_ own_hEL (rfl : T20.heap = T20.heap) (C21) (by decide) (by decide)
  exact ⟨t20, kt20, rfl, N20, f22, Fv20, Fc20, Vt20⟩

abbrev k52_21 := jdk_52_method_21_code
theorem d52_21_0 : Dk k52_21 0 (.iconst 0) 1 := own_k
theorem d52_21_1 : Dk k52_21 1 (.istore 5) 2 := own_k
theorem d52_21_3 : Dk k52_21 3 (.iload 5) 2 := own_k
theorem d52_21_5 : Dk k52_21 5 (.iload 4) 2 := own_k
theorem d52_21_7 : Dk k52_21 7 (.if_icmp .ge 37) 3 := own_k
theorem d52_21_44 : Dk k52_21 44 (.iload 4) 2 := own_k
theorem d52_21_46 : Dk k52_21 46 .ireturn 1 := own_k
theorem d52_21_10 : Dk k52_21 10 (.aload_n 0) 1 := own_k
theorem d52_21_11 : Dk k52_21 11 (.iload_n 1) 1 := own_k
theorem d52_21_12 : Dk k52_21 12 .caload 1 := own_k
theorem d52_21_13 : Dk k52_21 13 (.istore 6) 2 := own_k
theorem d52_21_15 : Dk k52_21 15 (.iload 6) 2 := own_k
theorem d52_21_17 : Dk k52_21 17 (.sipush 255) 3 := own_k
theorem d52_21_20 : Dk k52_21 20 (.if_icmp .le 6) 3 := own_k
theorem d52_21_23 : Dk k52_21 23 (.iload 5) 2 := own_k
theorem d52_21_25 : Dk k52_21 25 .ireturn 1 := own_k
theorem d52_21_26 : Dk k52_21 26 (.aload_n 2) 1 := own_k
theorem d52_21_27 : Dk k52_21 27 (.iload_n 3) 1 := own_k
theorem d52_21_28 : Dk k52_21 28 (.iload 6) 2 := own_k
theorem d52_21_30 : Dk k52_21 30 .i2b 1 := own_k
theorem d52_21_31 : Dk k52_21 31 .bastore 1 := own_k
theorem d52_21_32 : Dk k52_21 32 (.iinc 1 1) 3 := own_k
theorem d52_21_35 : Dk k52_21 35 (.iinc 3 1) 3 := own_k
theorem d52_21_38 : Dk k52_21 38 (.iinc 5 1) 3 := own_k
theorem d52_21_41 : Dk k52_21 41 (.goto (-38)) 3 := own_k
theorem pn_1 : plainName "java/lang/StringUTF16" = true := by first | (simp [plainName, overriddenIn]; done) | decide +kernel
theorem ef_rm_cmp5 (m : MethodId) (x0 : Addr) (x1 : Int32) (x2 : Addr) (x3 : Int32) (x4 : Int32) : entryFrame m #[(.ref x0), (.int x1), (.ref x2), (.int x3), (.int x4)] 7 = mkF m 0 #[.val (.ref x0), .val (.int x1), .val (.ref x2), .val (.int x3), .val (.int x4), .unset, .unset] [] := by
   first | (simp [entryFrame, mkF, argsToLocals, Value.category]; done) | rfl
set_option maxRecDepth 65536 in
set_option maxHeartbeats 40000000 in
theorem rm_cmp5 (l : Launch) (Z : State) (a0 : Array Value) (hw : ∀ d ∈ tables_1, d.before a0 Z = true) (ws : List Jvm.Cond) (a : Addr) (ka : ClassId) (da : Value) (cs : List Int32) (b : Addr) (kb : ClassId) (h0 : Heap) (n0 : Nat) (O0 : Old Z n0 h0) (hok : own_Ok cs) (V_a : Arv Z h0 a ka .char (Int32.ofNat cs.length) (cs.map Value.int) da) (V_b : Arv Z h0 b kb .byte (Int32.ofNat cs.length) (List.replicate cs.length (.int (0 : Int32))) (.int (0 : Int32))) (g_b : n0 ≤ b) (hab : a ≠ b) :
    MetFree l (⟨"java/lang/StringUTF16", "compress", "([CI[BII)I"⟩ : MethodName) (head1 (Jvm.Cond.code (⟨"java/lang/StringUTF16", "compress", "([CI[BII)I"⟩ : MethodName) jdk_52_method_21_code 7 (some .int) :: ws) ⟨0, 0, 0, 0⟩) (fun aA U => aA = #[(.ref a), (.int (0 : Int32)), (.ref b), (.int (0 : Int32)), (.int (Int32.ofNat cs.length))] ∧ Z.Warmed39 U.vm ∧ U.heap = h0) (fun _ _ _ _ _ => True) (fun _ U oO U' => ∃ rV rL, oO = .returned rV ∧ QC5 Z b kb cs h0 n0 rV U'.heap rL ∧ FrameEnd U oO U' rL 0 0) := by
  refine MetFree.of_bodySF (plainFor_of_name pn_1) hisR ?_
  intro p e s m args below meth cC s₁ Bd hml0 hP hK
  obtain ⟨rfl, hZ, hh⟩ := hP
  have hx := Bd.exec
  have hby := Bd.bytes
  have hml : cC.maxLocals = 7 := hml0
  have hown : s.vm.findClass "java/lang/StringUTF16" = some m.cls := findClass_of_methodNamed Bd.named
  have hnm := (name_of_methodNamed Bd.named Bd.method).1
  have hrt := Bd.returns
  have hlk : meth.locks = false := Bd.notSynchronized
  have X0 : Stand p l e ⟨0, 0, 0, 0⟩ s m #[(.ref a), (.int (0 : Int32)), (.ref b), (.int (0 : Int32)), (.int (Int32.ofNat cs.length))] below meth cC s₁ [] 0 0 := Stand.of_body Bd
  have e0 : s₁.heap = h0 := by rw [← hh, Bd.state]; rfl
  have N0 := Fr.nil n0
  have Z0 : n0 ≤ h0.size := O0.1 ▸ O0.2.1
  show own_Go p e below (s₁.setTop (entryFrame m #[(.ref a), (.int (0 : Int32)), (.ref b), (.int (0 : Int32)), (.int (Int32.ofNat cs.length))] 7)) (fun oO U' => ∃ rV rL, oO = .returned rV ∧ QC5 Z b kb cs h0 n0 rV U'.heap rL ∧ FrameEnd s oO U' rL 0 0)
  refine own_go (fun _ k => castTop (ef_rm_cmp5 m a _ b _ _) k) ?_
  have hlen : cs.length ≤ 4000 := hok.2
  refine og (fun _ k => XS.iconst X0.here hx rfl (hb hby d52_21_0) k) ?_
  refine og (fun _ k => XS.istore X0.here hx rfl (hb hby d52_21_1) rfl (l' := #[.val (.ref a), .val (.int (0 : Int32)), .val (.ref b), .val (.int (0 : Int32)), .val (.int (Int32.ofNat cs.length)), .val (.int (0 : Int32)), .unset]) rfl k) ?_
  have loop : ∀ (kT iloop : Nat) (sl : Slot) (T : State) (locs : List Loc) (h : Heap), iloop + kT = cs.length → Stand p l e ⟨0, 0, 0, 0⟩ s m #[(.ref a), (.int (0 : Int32)), (.ref b), (.int (0 : Int32)), (.int (Int32.ofNat cs.length))] below meth cC T locs 0 0 → T.heap = h → Fr n0 locs → Old Z n0 h → Keep h0 h [b] → Arv Z h a ka .char (Int32.ofNat cs.length) (cs.map Value.int) da → Arv Z h b kb .byte (Int32.ofNat cs.length) (own_part cs iloop) (.int (0 : Int32)) → (∀ j, j < iloop → ¬ (255 : Int32) < cs.getD j 0) → ((sl = .unset ∨ ∃ w, sl = .val w ∧ w.category = 1)) → own_Go p e below (T.setTop (mkF m 3 #[.val (.ref a), .val (.int (Int32.ofNat iloop)), .val (.ref b), .val (.int (Int32.ofNat iloop)), .val (.int (Int32.ofNat cs.length)), .val (.int (Int32.ofNat iloop)), sl] [])) (fun oO U' => ∃ rV rL, oO = .returned rV ∧ QC5 Z b kb cs h0 n0 rV U'.heap rL ∧ FrameEnd s oO U' rL 0 0) := by
    intro kT
    induction kT with
    | zero =>
      intro iloop sl T23 L23 h23 hik X23 e23 N23 O23 K23 J0_23 J1_23 hall hsl
      have Z0_23 : n0 ≤ h23.size := O23.1 ▸ O23.2.1
      have hin : iloop = cs.length := by omega
      have hlt : ¬ ((Int32.ofNat iloop) < (Int32.ofNat cs.length)) := by rw [own_lti (by omega) (by omega)]; omega
      refine og (fun _ k => XS.iload X23.here hx rfl (hb hby d52_21_3) rfl k) ?_
      try dsimp only [mkF]
      refine og (fun _ k => XS.iload X23.here hx rfl (hb hby d52_21_5) rfl k) ?_
      refine og (fun _ k => XS.icmpYes X23.here hx rfl (pc0 := 7) (pc' := 44) rfl (hb hby d52_21_7) rfl (flt hlt).2.1 (by decide) (by decide) k) ?_
      refine og (fun _ k => XS.iload X23.here hx rfl (hb hby d52_21_44) rfl k) ?_
      refine own_fin (v := (some (.int (Int32.ofNat cs.length)))) X23 (fun h => by rw [hrt] at h; cases h) hlk (fun fs hr => retI X23 hx hrt (hb hby d52_21_46) hr) (QQ := QC5 Z b kb cs h0 n0) ?_ (by decide) (by decide)
      rw [e23]
      exact ⟨cs.length, rfl, N23, K23, Or.inl ⟨rfl, own_all (fun j hj => hall j (by omega)), by have q := J1_23; rw [hin, own_partn] at q; exact q⟩⟩
    | succ kT ih =>
      intro iloop sl T24 L24 h24 hik X24 e24 N24 O24 K24 J0_24 J1_24 hall hsl
      have Z0_24 : n0 ≤ h24.size := O24.1 ▸ O24.2.1
      have hi : iloop < cs.length := by omega
      have hlt : (Int32.ofNat iloop) < (Int32.ofNat cs.length) := (own_lti (by omega) (by omega)).mpr hi
      refine og (fun _ k => XS.iload X24.here hx rfl (hb hby d52_21_3) rfl k) ?_
      try dsimp only [mkF]
      refine og (fun _ k => XS.iload X24.here hx rfl (hb hby d52_21_5) rfl k) ?_
      refine og (fun _ k => XS.icmpNo X24.here hx rfl (hb hby d52_21_7) rfl (tlt hlt).2.1 k) ?_
      refine og (fun _ k => XS.aloadN X24.here hx rfl (hb hby d52_21_10) rfl rfl k) ?_
      refine og (fun _ k => XS.iloadN X24.here hx rfl (hb hby d52_21_11) rfl k) ?_
      obtain ⟨c25, A25, q25, S25, M25, Hs25, Gs25⟩ := id J0_24
      have hi25 := inb_of (j := (Int32.ofNat iloop)) S25 (own_inb hi (by omega))
      refine og (fun _ k => X24.caload hx (j := (Int32.ofNat iloop)) (v := (.int (cs.getD iloop 0))) (by rw [e24]; exact A25.1) (State.isArrayOf_alike hZ.alike A25.2.1) A25.2.2 hi25 (Has.at Hs25 hi25 (own_gd rfl hi (by omega))) (g := (mkF m 12 #[.val (.ref a), .val (.int (Int32.ofNat iloop)), .val (.ref b), .val (.int (Int32.ofNat iloop)), .val (.int (Int32.ofNat cs.length)), .val (.int (Int32.ofNat iloop)), sl] [(.int (Int32.ofNat iloop)), (.ref a)])) rfl rfl (hb hby d52_21_12) _ k) ?_
      try dsimp only [mkF]
      refine og (fun _ k => XS.istoreS X24.here hx rfl (hb hby d52_21_13) rfl rfl hsl k) ?_
      refine og (fun _ k => XS.iload X24.here hx rfl (hb hby d52_21_15) rfl k) ?_
      refine og (fun _ k => XS.sipush X24.here hx rfl (hb hby d52_21_17) k) ?_
      by_cases hc26 : (255 : Int32) < (cs.getD iloop 0)
      · skip
        refine og (fun _ k => XS.icmpNo X24.here hx rfl (hb hby d52_21_20) rfl (tlt hc26).2.2.2 k) ?_
        refine og (fun _ k => XS.iload X24.here hx rfl (hb hby d52_21_23) rfl k) ?_
        try dsimp only [mkF]
        refine own_fin (v := (some (.int (Int32.ofNat iloop)))) X24 (fun h => by rw [hrt] at h; cases h) hlk (fun fs hr => retI X24 hx hrt (hb hby d52_21_25) hr) (QQ := QC5 Z b kb cs h0 n0) ?_ (by decide) (by decide)
        rw [e24]
        exact ⟨iloop, rfl, N24, K24, Or.inr ⟨hi, hc26⟩⟩
      · skip
        refine og (fun _ k => XS.icmpYes X24.here hx rfl (pc0 := 20) (pc' := 26) rfl (hb hby d52_21_20) rfl (flt hc26).2.2.2 (by decide) (by decide) k) ?_
        refine og (fun _ k => XS.aloadN X24.here hx rfl (hb hby d52_21_26) rfl rfl k) ?_
        try dsimp only [mkF]
        refine og (fun _ k => XS.iloadN X24.here hx rfl (hb hby d52_21_27) rfl k) ?_
        refine og (fun _ k => XS.iload X24.here hx rfl (hb hby d52_21_28) rfl k) ?_
        refine og (fun _ k => XS.i2b X24.here hx rfl (hb hby d52_21_30) rfl k) ?_
        obtain ⟨c27, A27, q27, S27, M27, Hs27, Gs27⟩ := id J1_24
        obtain ⟨T28, h28, X28, e28, W28, st28⟩ := stB X24 hx hZ e24 A27 (j := (Int32.ofNat iloop)) (inb_of S27 (own_inb hi (by omega))) (g := (mkF m 31 #[.val (.ref a), .val (.int (Int32.ofNat iloop)), .val (.ref b), .val (.int (Int32.ofNat iloop)), .val (.int (Int32.ofNat cs.length)), .val (.int (Int32.ofNat iloop)), .val (.int (cs.getD iloop 0))] [(.int ((cs.getD iloop 0).toInt8.toInt32)), (.int (Int32.ofNat iloop)), (.ref b)])) rfl rfl (hb hby d52_21_31)
        refine own_go st28 ?_
        have N28 := Fr.snoc X28 N24 g_b
        have V28 : Arv Z h28 b kb .byte (Int32.ofNat cs.length) (own_part cs (iloop + 1)) (.int (0 : Int32)) := Eq.mp (congrArg (fun LL => Arv Z h28 b kb .byte (Int32.ofNat cs.length) LL (.int (0 : Int32))) (show ((own_part cs iloop) : List Value).set iloop (.int (nar .byte ((cs.getD iloop 0).toInt8.toInt32))) = (own_part cs (iloop + 1)) from (by rw [own_nb]; exact own_set1 hi))) (Arv.set A27 q27 S27 M27 Hs27 Gs27 (fits_nar_byte _) W28 iloop (own_tn (by omega)) (by rw [own_partl (by omega)]; exact hi))
        refine og (fun _ k => XS.iinc X28.here hx rfl (hb hby d52_21_32) rfl (l' := #[.val (.ref a), .val (.int ((Int32.ofNat iloop) + (1 : Int32))), .val (.ref b), .val (.int (Int32.ofNat iloop)), .val (.int (Int32.ofNat cs.length)), .val (.int (Int32.ofNat iloop)), .val (.int (cs.getD iloop 0))]) rfl k) ?_
        try dsimp only [mkF]
        refine og (fun _ k => XS.iinc X28.here hx rfl (hb hby d52_21_35) rfl (l' := #[.val (.ref a), .val (.int ((Int32.ofNat iloop) + (1 : Int32))), .val (.ref b), .val (.int ((Int32.ofNat iloop) + (1 : Int32))), .val (.int (Int32.ofNat cs.length)), .val (.int (Int32.ofNat iloop)), .val (.int (cs.getD iloop 0))]) rfl k) ?_
        refine og (fun _ k => XS.iinc X28.here hx rfl (hb hby d52_21_38) rfl (l' := #[.val (.ref a), .val (.int ((Int32.ofNat iloop) + (1 : Int32))), .val (.ref b), .val (.int ((Int32.ofNat iloop) + (1 : Int32))), .val (.int (Int32.ofNat cs.length)), .val (.int ((Int32.ofNat iloop) + (1 : Int32))), .val (.int (cs.getD iloop 0))]) rfl k) ?_
        refine og (fun _ k => XS.goto X28.here hx rfl (pc0 := 41) (pc' := 3) rfl (hb hby d52_21_41) (by decide) (by decide) k) ?_
        show own_Go p e below (T28.setTop (mkF m 3 #[.val (.ref a), .val (.int ((Int32.ofNat iloop) + (1 : Int32))), .val (.ref b), .val (.int ((Int32.ofNat iloop) + (1 : Int32))), .val (.int (Int32.ofNat cs.length)), .val (.int ((Int32.ofNat iloop) + (1 : Int32))), .val (.int (cs.getD iloop 0))] [])) _
        rw [own_inc]
        have f29 := (K24.wr W28 (Or.inl (List.mem_of_getElem? (i := 0) rfl)))
        exact ih (iloop + 1) (.val (.int (cs.getD iloop 0))) T28 _ h28 (by omega) X28 e28 N28 (O24.wr W28 g_b) f29 (J0_24.other W28 hab) V28 (fun j hj => (Nat.lt_succ_iff_lt_or_eq.mp hj).elim (fun q => hall j q) (fun q => q ▸ hc26)) (Or.inr ⟨_, rfl, rfl⟩)
  exact loop (cs.length) 0 .unset s₁ _ h0 (by omega) X0 e0 N0 O0 (Keep.refl h0 [b]) V_a (own_part0 cs ▸ V_b) (fun j hj => absurd hj (Nat.not_lt_zero _)) (Or.inl rfl)

abbrev k52_4 := jdk_52_method_4_code
theorem d52_4_0 : Dk k52_4 0 (.getstatic 44) 3 := own_k
theorem d52_4_3 : Dk k52_4 3 (.ifCond .ne 25) 3 := own_k
theorem d52_4_28 : Dk k52_4 28 (.iload_n 1) 1 := own_k
theorem d52_4_29 : Dk k52_4 29 (.iconst 1) 1 := own_k
theorem d52_4_30 : Dk k52_4 30 .ishl 1 := own_k
theorem d52_4_31 : Dk k52_4 31 (.istore_n 1) 1 := own_k
theorem d52_4_32 : Dk k52_4 32 (.aload_n 0) 1 := own_k
theorem d52_4_33 : Dk k52_4 33 (.iload_n 1) 1 := own_k
theorem d52_4_34 : Dk k52_4 34 (.iinc 1 1) 3 := own_k
theorem d52_4_37 : Dk k52_4 37 (.iload_n 2) 1 := own_k
theorem d52_4_38 : Dk k52_4 38 (.getstatic 59) 3 := own_k
theorem d52_4_41 : Dk k52_4 41 .ishr 1 := own_k
theorem d52_4_42 : Dk k52_4 42 .i2b 1 := own_k
theorem d52_4_43 : Dk k52_4 43 .bastore 1 := own_k
theorem d52_4_44 : Dk k52_4 44 (.aload_n 0) 1 := own_k
theorem d52_4_45 : Dk k52_4 45 (.iload_n 1) 1 := own_k
theorem d52_4_46 : Dk k52_4 46 (.iload_n 2) 1 := own_k
theorem d52_4_47 : Dk k52_4 47 (.getstatic 63) 3 := own_k
theorem d52_4_50 : Dk k52_4 50 .ishr 1 := own_k
theorem d52_4_51 : Dk k52_4 51 .i2b 1 := own_k
theorem d52_4_52 : Dk k52_4 52 .bastore 1 := own_k
theorem d52_4_53 : Dk k52_4 53 .return_ 1 := own_k
theorem ef_rm_put (m : MethodId) (x0 : Addr) (x1 : Int32) (x2 : Int32) : entryFrame m #[(.ref x0), (.int x1), (.int x2)] 3 = mkF m 0 #[.val (.ref x0), .val (.int x1), .val (.int x2)] [] := by
   first | (simp [entryFrame, mkF, argsToLocals, Value.category]; done) | rfl
set_option maxRecDepth 65536 in
set_option maxHeartbeats 40000000 in
theorem rm_put (l : Launch) (Z : State) (a0 : Array Value) (hw : ∀ d ∈ tables_1, d.before a0 Z = true) (ws : List Jvm.Cond) (b : Addr) (kb : ClassId) (N : Nat) (vs : List Value) (i : Nat) (c : Int32) (h0 : Heap) (n0 : Nat) (O0 : Old Z n0 h0) (OA : Sta Z Z.heap "java/lang/StringUTF16" "$assertionsDisabled" "Z" (.int (1 : Int32))) (OH : Sta Z Z.heap "java/lang/StringUTF16" "HI_BYTE_SHIFT" "I" (.int (0 : Int32))) (OL : Sta Z Z.heap "java/lang/StringUTF16" "LO_BYTE_SHIFT" "I" (.int (8 : Int32))) (V_b : Arv Z h0 b kb .byte (Int32.ofNat N) vs (.int (0 : Int32))) (g_b : n0 ≤ b) (hv : vs.length = N) (hi : 2 * i + 1 < N) (hN : N ≤ 8000) :
    MetFree l (⟨"java/lang/StringUTF16", "putChar", "([BII)V"⟩ : MethodName) (head1 (Jvm.Cond.code (⟨"java/lang/StringUTF16", "putChar", "([BII)V"⟩ : MethodName) jdk_52_method_4_code 3 none :: ws) ⟨0, 0, 0, 0⟩) (fun aA U => aA = #[(.ref b), (.int (Int32.ofNat i)), (.int c)] ∧ Z.Warmed39 U.vm ∧ U.heap = h0) (fun _ _ _ _ _ => True) (fun _ U oO U' => ∃ rV rL, oO = .returned rV ∧ QPut Z b kb (Int32.ofNat N) ((vs.set (2 * i) (.int (StrChars.lo8 c))).set (2 * i + 1) (.int (StrChars.hi8 c))) h0 n0 rV U'.heap rL ∧ FrameEnd U oO U' rL 0 0) := by
  refine MetFree.of_bodySF (plainFor_of_name pn_1) hisR ?_
  intro p e s m args below meth cC s₁ Bd hml0 hP hK
  obtain ⟨rfl, hZ, hh⟩ := hP
  have hx := Bd.exec
  have hby := Bd.bytes
  have hml : cC.maxLocals = 3 := hml0
  have hown : s.vm.findClass "java/lang/StringUTF16" = some m.cls := findClass_of_methodNamed Bd.named
  have hnm := (name_of_methodNamed Bd.named Bd.method).1
  have hrt := Bd.returns
  have hlk : meth.locks = false := Bd.notSynchronized
  have X0 : Stand p l e ⟨0, 0, 0, 0⟩ s m #[(.ref b), (.int (Int32.ofNat i)), (.int c)] below meth cC s₁ [] 0 0 := Stand.of_body Bd
  have e0 : s₁.heap = h0 := by rw [← hh, Bd.state]; rfl
  have N0 := Fr.nil n0
  have Z0 : n0 ≤ h0.size := O0.1 ▸ O0.2.1
  show own_Go p e below (s₁.setTop (entryFrame m #[(.ref b), (.int (Int32.ofNat i)), (.int c)] 3)) (fun oO U' => ∃ rV rL, oO = .returned rV ∧ QPut Z b kb (Int32.ofNat N) ((vs.set (2 * i) (.int (StrChars.lo8 c))).set (2 * i + 1) (.int (StrChars.hi8 c))) h0 n0 rV U'.heap rL ∧ FrameEnd s oO U' rL 0 0)
  refine own_go (fun _ k => castTop (ef_rm_put m b _ c) k) ?_
  obtain ⟨T30, X30, e30, st30⟩ := getS2 X0 hx hZ hown (host := "") (Or.inl (tw hw 217 rfl)) Via.refl e0 (OA.ext O0.2) (g := (mkF m 0 #[.val (.ref b), .val (.int (Int32.ofNat i)), .val (.int c)] [])) rfl (hb hby d52_4_0)
  refine own_go st30 ?_
  refine og (fun _ k => XS.ifYes X30.here hx rfl (pc0 := 3) (pc' := 28) rfl (hb hby d52_4_3) rfl ((if0 _ _).trans (feq (by decide : ¬ ((1 : Int32) = (0 : Int32)))).2) (by decide) (by decide) k) ?_
  refine og (fun _ k => XS.iloadN X30.here hx rfl (hb hby d52_4_28) rfl k) ?_
  refine og (fun _ k => XS.iconst X30.here hx rfl (hb hby d52_4_29) k) ?_
  try dsimp only [mkF]
  refine og (fun _ k => XS.ishl X30.here hx rfl (hb hby d52_4_30) rfl k) ?_
  show own_Go p e below (T30.setTop (mkF m 31 #[.val (.ref b), .val (.int (Int32.ofNat i)), .val (.int c)] [(.int ((Int32.ofNat i) <<< ((1 : Int32) &&& 31)))])) _
  rw [own_shl1 (by omega : i ≤ 4000)]
  refine og (fun _ k => XS.istoreN X30.here hx rfl (hb hby d52_4_31) rfl (l' := #[.val (.ref b), .val (.int (Int32.ofNat (2 * i))), .val (.int c)]) rfl k) ?_
  refine og (fun _ k => XS.aloadN X30.here hx rfl (hb hby d52_4_32) rfl rfl k) ?_
  refine og (fun _ k => XS.iloadN X30.here hx rfl (hb hby d52_4_33) rfl k) ?_
  try dsimp only [mkF]
  refine og (fun _ k => XS.iinc X30.here hx rfl (hb hby d52_4_34) rfl (l' := #[.val (.ref b), .val (.int ((Int32.ofNat (2 * i)) + (1 : Int32))), .val (.int c)]) rfl k) ?_
  show own_Go p e below (T30.setTop (mkF m 37 #[.val (.ref b), .val (.int ((Int32.ofNat (2 * i)) + (1 : Int32))), .val (.int c)] [(.int (Int32.ofNat (2 * i))), (.ref b)])) _
  rw [own_inc]
  refine og (fun _ k => XS.iloadN X30.here hx rfl (hb hby d52_4_37) rfl k) ?_
  obtain ⟨T31, X31, e31, st31⟩ := getS2 X30 hx hZ hown (host := "") (Or.inl (tw hw 218 rfl)) Via.refl e30 (OH.ext O0.2) (g := (mkF m 38 #[.val (.ref b), .val (.int (Int32.ofNat (2 * i + 1))), .val (.int c)] [(.int c), (.int (Int32.ofNat (2 * i))), (.ref b)])) rfl (hb hby d52_4_38)
  refine own_go st31 ?_
  refine og (fun _ k => XS.ishr X31.here hx rfl (hb hby d52_4_41) rfl k) ?_
  try dsimp only [mkF]
  refine og (fun _ k => XS.i2b X31.here hx rfl (hb hby d52_4_42) rfl k) ?_
  obtain ⟨c32, A32, q32, S32, M32, Hs32, Gs32⟩ := id V_b
  obtain ⟨T33, h33, X33, e33, W33, st33⟩ := stB X31 hx hZ e31 A32 (j := (Int32.ofNat (2 * i))) (inb_of S32 (own_inb (by omega) (by omega))) (g := (mkF m 43 #[.val (.ref b), .val (.int (Int32.ofNat (2 * i + 1))), .val (.int c)] [(.int ((c >>> ((0 : Int32) &&& 31)).toInt8.toInt32)), (.int (Int32.ofNat (2 * i))), (.ref b)])) rfl rfl (hb hby d52_4_43)
  refine own_go st33 ?_
  have N33 := Fr.snoc X33 N0 g_b
  have V33 : Arv Z h33 b kb .byte (Int32.ofNat N) (vs.set (2 * i) (.int (StrChars.lo8 c))) (.int (0 : Int32)) := Eq.mp (congrArg (fun LL => Arv Z h33 b kb .byte (Int32.ofNat N) LL (.int (0 : Int32))) (show (vs : List Value).set (2 * i) (.int (nar .byte ((c >>> ((0 : Int32) &&& 31)).toInt8.toInt32))) = (vs.set (2 * i) (.int (StrChars.lo8 c))) from (by rw [own_nb, StrChars.shr0]; rfl))) (Arv.set A32 q32 S32 M32 Hs32 Gs32 (fits_nar_byte _) W33 (2 * i) (own_tn (by omega)) (by omega))
  refine og (fun _ k => XS.aloadN X33.here hx rfl (hb hby d52_4_44) rfl rfl k) ?_
  refine og (fun _ k => XS.iloadN X33.here hx rfl (hb hby d52_4_45) rfl k) ?_
  refine og (fun _ k => XS.iloadN X33.here hx rfl (hb hby d52_4_46) rfl k) ?_
  try dsimp only [mkF]
  obtain ⟨T34, X34, e34, st34⟩ := getS2 X33 hx hZ hown (host := "") (Or.inl (tw hw 219 rfl)) Via.refl e33 (OL.ext (O0.wr W33 g_b).2) (g := (mkF m 47 #[.val (.ref b), .val (.int (Int32.ofNat (2 * i + 1))), .val (.int c)] [(.int c), (.int (Int32.ofNat (2 * i + 1))), (.ref b)])) rfl (hb hby d52_4_47)
  refine own_go st34 ?_
  refine og (fun _ k => XS.ishr X34.here hx rfl (hb hby d52_4_50) rfl k) ?_
  refine og (fun _ k => XS.i2b X34.here hx rfl (hb hby d52_4_51) rfl k) ?_
  obtain ⟨c35, A35, q35, S35, M35, Hs35, Gs35⟩ := id V33
  obtain ⟨T36, h36, X36, e36, W36, st36⟩ := stB X34 hx hZ e34 A35 (j := (Int32.ofNat (2 * i + 1))) (inb_of S35 (own_inb (by omega) (by omega))) (g := (mkF m 52 #[.val (.ref b), .val (.int (Int32.ofNat (2 * i + 1))), .val (.int c)] [(.int ((c >>> ((8 : Int32) &&& 31)).toInt8.toInt32)), (.int (Int32.ofNat (2 * i + 1))), (.ref b)])) rfl rfl (hb hby d52_4_52)
  refine own_go st36 ?_
  have N36 := Fr.snoc X36 N33 g_b
  have V36 : Arv Z h36 b kb .byte (Int32.ofNat N) ((vs.set (2 * i) (.int (StrChars.lo8 c))).set (2 * i + 1) (.int (StrChars.hi8 c))) (.int (0 : Int32)) := Eq.mp (congrArg (fun LL => Arv Z h36 b kb .byte (Int32.ofNat N) LL (.int (0 : Int32))) (show ((vs.set (2 * i) (.int (StrChars.lo8 c))) : List Value).set (2 * i + 1) (.int (nar .byte ((c >>> ((8 : Int32) &&& 31)).toInt8.toInt32))) = ((vs.set (2 * i) (.int (StrChars.lo8 c))).set (2 * i + 1) (.int (StrChars.hi8 c))) from (by rw [own_nb]; rfl))) (Arv.set A35 q35 S35 M35 Hs35 Gs35 (fits_nar_byte _) W36 (2 * i + 1) (own_tn (by omega)) (by rw [List.length_set]; omega))
  have f37 := (((Keep.refl h0 [b]).wr W33 (Or.inl (List.mem_of_getElem? (i := 0) rfl))).wr W36 (Or.inl (List.mem_of_getElem? (i := 0) rfl)))
  refine own_fin (v := none) X36 (fun _ => rfl) hlk (fun fs hr => X36.returnOut hx hrt (hb hby d52_4_53) hr) (QQ := QPut Z b kb (Int32.ofNat N) ((vs.set (2 * i) (.int (StrChars.lo8 c))).set (2 * i + 1) (.int (StrChars.hi8 c))) h0 n0) ?_ (by decide) (by decide)
  rw [e36]
  exact ⟨rfl, N36, f37, V36⟩

abbrev k52_5 := jdk_52_method_5_code
theorem d52_5_0 : Dk k52_5 0 (.getstatic 44) 3 := own_k
theorem d52_5_3 : Dk k52_5 3 (.ifCond .ne 25) 3 := own_k
theorem d52_5_28 : Dk k52_5 28 (.iload_n 1) 1 := own_k
theorem d52_5_29 : Dk k52_5 29 (.iconst 1) 1 := own_k
theorem d52_5_30 : Dk k52_5 30 .ishl 1 := own_k
theorem d52_5_31 : Dk k52_5 31 (.istore_n 1) 1 := own_k
theorem d52_5_32 : Dk k52_5 32 (.aload_n 0) 1 := own_k
theorem d52_5_33 : Dk k52_5 33 (.iload_n 1) 1 := own_k
theorem d52_5_34 : Dk k52_5 34 (.iinc 1 1) 3 := own_k
theorem d52_5_37 : Dk k52_5 37 .baload 1 := own_k
theorem d52_5_38 : Dk k52_5 38 (.sipush 255) 3 := own_k
theorem d52_5_41 : Dk k52_5 41 .iand 1 := own_k
theorem d52_5_42 : Dk k52_5 42 (.getstatic 59) 3 := own_k
theorem d52_5_45 : Dk k52_5 45 .ishl 1 := own_k
theorem d52_5_46 : Dk k52_5 46 (.aload_n 0) 1 := own_k
theorem d52_5_47 : Dk k52_5 47 (.iload_n 1) 1 := own_k
theorem d52_5_48 : Dk k52_5 48 .baload 1 := own_k
theorem d52_5_49 : Dk k52_5 49 (.sipush 255) 3 := own_k
theorem d52_5_52 : Dk k52_5 52 .iand 1 := own_k
theorem d52_5_53 : Dk k52_5 53 (.getstatic 63) 3 := own_k
theorem d52_5_56 : Dk k52_5 56 .ishl 1 := own_k
theorem d52_5_57 : Dk k52_5 57 .ior 1 := own_k
theorem d52_5_58 : Dk k52_5 58 .i2c 1 := own_k
theorem d52_5_59 : Dk k52_5 59 .ireturn 1 := own_k
theorem ef_rm_get (m : MethodId) (x0 : Addr) (x1 : Int32) : entryFrame m #[(.ref x0), (.int x1)] 2 = mkF m 0 #[.val (.ref x0), .val (.int x1)] [] := by
   first | (simp [entryFrame, mkF, argsToLocals, Value.category]; done) | rfl
set_option maxRecDepth 65536 in
set_option maxHeartbeats 40000000 in
theorem rm_get (l : Launch) (Z : State) (a0 : Array Value) (hw : ∀ d ∈ tables_1, d.before a0 Z = true) (ws : List Jvm.Cond) (b : Addr) (kb : ClassId) (N : Nat) (vs : List Value) (i : Nat) (c : Int32) (h0 : Heap) (n0 : Nat) (O0 : Old Z n0 h0) (OA : Sta Z Z.heap "java/lang/StringUTF16" "$assertionsDisabled" "Z" (.int (1 : Int32))) (OH : Sta Z Z.heap "java/lang/StringUTF16" "HI_BYTE_SHIFT" "I" (.int (0 : Int32))) (OL : Sta Z Z.heap "java/lang/StringUTF16" "LO_BYTE_SHIFT" "I" (.int (8 : Int32))) (V_b : Arv Z h0 b kb .byte (Int32.ofNat N) vs (.int (0 : Int32))) (h1 : vs.getD (2 * i) (.int (0 : Int32)) = .int (StrChars.lo8 c)) (h2 : vs.getD (2 * i + 1) (.int (0 : Int32)) = .int (StrChars.hi8 c)) (hi : 2 * i + 1 < N) (hN : N ≤ 8000) (hc : ¬ c < 0 ∧ ¬ (65535 : Int32) < c) :
    MetFree l (⟨"java/lang/StringUTF16", "getChar", "([BI)C"⟩ : MethodName) (head1 (Jvm.Cond.code (⟨"java/lang/StringUTF16", "getChar", "([BI)C"⟩ : MethodName) jdk_52_method_5_code 2 (some .char) :: ws) ⟨0, 0, 0, 0⟩) (fun aA U => aA = #[(.ref b), (.int (Int32.ofNat i))] ∧ Z.Warmed39 U.vm ∧ U.heap = h0) (fun _ _ _ _ _ => True) (fun _ U oO U' => ∃ rV rL, oO = .returned rV ∧ QPure (some (.int c)) h0 n0 rV U'.heap rL ∧ FrameEnd U oO U' rL 0 0) := by
  refine MetFree.of_bodySF (plainFor_of_name pn_1) hisR ?_
  intro p e s m args below meth cC s₁ Bd hml0 hP hK
  obtain ⟨rfl, hZ, hh⟩ := hP
  have hx := Bd.exec
  have hby := Bd.bytes
  have hml : cC.maxLocals = 2 := hml0
  have hown : s.vm.findClass "java/lang/StringUTF16" = some m.cls := findClass_of_methodNamed Bd.named
  have hnm := (name_of_methodNamed Bd.named Bd.method).1
  have hrt := Bd.returns
  have hlk : meth.locks = false := Bd.notSynchronized
  have X0 : Stand p l e ⟨0, 0, 0, 0⟩ s m #[(.ref b), (.int (Int32.ofNat i))] below meth cC s₁ [] 0 0 := Stand.of_body Bd
  have e0 : s₁.heap = h0 := by rw [← hh, Bd.state]; rfl
  have N0 := Fr.nil n0
  have Z0 : n0 ≤ h0.size := O0.1 ▸ O0.2.1
  show own_Go p e below (s₁.setTop (entryFrame m #[(.ref b), (.int (Int32.ofNat i))] 2)) (fun oO U' => ∃ rV rL, oO = .returned rV ∧ QPure (some (.int c)) h0 n0 rV U'.heap rL ∧ FrameEnd s oO U' rL 0 0)
  refine own_go (fun _ k => castTop (ef_rm_get m b _) k) ?_
  obtain ⟨T38, X38, e38, st38⟩ := getS2 X0 hx hZ hown (host := "") (Or.inl (tw hw 217 rfl)) Via.refl e0 (OA.ext O0.2) (g := (mkF m 0 #[.val (.ref b), .val (.int (Int32.ofNat i))] [])) rfl (hb hby d52_5_0)
  refine own_go st38 ?_
  refine og (fun _ k => XS.ifYes X38.here hx rfl (pc0 := 3) (pc' := 28) rfl (hb hby d52_5_3) rfl ((if0 _ _).trans (feq (by decide : ¬ ((1 : Int32) = (0 : Int32)))).2) (by decide) (by decide) k) ?_
  refine og (fun _ k => XS.iloadN X38.here hx rfl (hb hby d52_5_28) rfl k) ?_
  refine og (fun _ k => XS.iconst X38.here hx rfl (hb hby d52_5_29) k) ?_
  try dsimp only [mkF]
  refine og (fun _ k => XS.ishl X38.here hx rfl (hb hby d52_5_30) rfl k) ?_
  show own_Go p e below (T38.setTop (mkF m 31 #[.val (.ref b), .val (.int (Int32.ofNat i))] [(.int ((Int32.ofNat i) <<< ((1 : Int32) &&& 31)))])) _
  rw [own_shl1 (by omega : i ≤ 4000)]
  refine og (fun _ k => XS.istoreN X38.here hx rfl (hb hby d52_5_31) rfl (l' := #[.val (.ref b), .val (.int (Int32.ofNat (2 * i)))]) rfl k) ?_
  refine og (fun _ k => XS.aloadN X38.here hx rfl (hb hby d52_5_32) rfl rfl k) ?_
  refine og (fun _ k => XS.iloadN X38.here hx rfl (hb hby d52_5_33) rfl k) ?_
  try dsimp only [mkF]
  refine og (fun _ k => XS.iinc X38.here hx rfl (hb hby d52_5_34) rfl (l' := #[.val (.ref b), .val (.int ((Int32.ofNat (2 * i)) + (1 : Int32)))]) rfl k) ?_
  show own_Go p e below (T38.setTop (mkF m 37 #[.val (.ref b), .val (.int ((Int32.ofNat (2 * i)) + (1 : Int32)))] [(.int (Int32.ofNat (2 * i))), (.ref b)])) _
  rw [own_inc]
  obtain ⟨c39, A39, q39, S39, M39, Hs39, Gs39⟩ := id V_b
  have hi39 := inb_of (j := (Int32.ofNat (2 * i))) S39 (own_inb (by omega) (by omega))
  refine og (fun _ k => X38.baloadBytes hx (j := (Int32.ofNat (2 * i))) (v := (.int (StrChars.lo8 c))) (by rw [e38]; exact A39.1) (State.isArrayOf_alike hZ.alike A39.2.1) A39.2.2 hi39 (Has.at Hs39 hi39 (by rw [own_tn (by omega)]; exact h1)) (g := (mkF m 37 #[.val (.ref b), .val (.int (Int32.ofNat (2 * i + 1)))] [(.int (Int32.ofNat (2 * i))), (.ref b)])) rfl rfl (hb hby d52_5_37) _ k) ?_
  refine og (fun _ k => XS.sipush X38.here hx rfl (hb hby d52_5_38) k) ?_
  refine og (fun _ k => XS.iand X38.here hx rfl (hb hby d52_5_41) rfl k) ?_
  try dsimp only [mkF]
  obtain ⟨T40, X40, e40, st40⟩ := getS2 X38 hx hZ hown (host := "") (Or.inl (tw hw 218 rfl)) Via.refl e38 (OH.ext O0.2) (g := (mkF m 42 #[.val (.ref b), .val (.int (Int32.ofNat (2 * i + 1)))] [(.int ((StrChars.lo8 c) &&& (255 : Int32)))])) rfl (hb hby d52_5_42)
  refine own_go st40 ?_
  refine og (fun _ k => XS.ishl X40.here hx rfl (hb hby d52_5_45) rfl k) ?_
  refine og (fun _ k => XS.aloadN X40.here hx rfl (hb hby d52_5_46) rfl rfl k) ?_
  refine og (fun _ k => XS.iloadN X40.here hx rfl (hb hby d52_5_47) rfl k) ?_
  obtain ⟨c41, A41, q41, S41, M41, Hs41, Gs41⟩ := id V_b
  have hi41 := inb_of (j := (Int32.ofNat (2 * i + 1))) S41 (own_inb (by omega) (by omega))
  refine og (fun _ k => X40.baloadBytes hx (j := (Int32.ofNat (2 * i + 1))) (v := (.int (StrChars.hi8 c))) (by rw [e40]; exact A41.1) (State.isArrayOf_alike hZ.alike A41.2.1) A41.2.2 hi41 (Has.at Hs41 hi41 (by rw [own_tn (by omega)]; exact h2)) (g := (mkF m 48 #[.val (.ref b), .val (.int (Int32.ofNat (2 * i + 1)))] [(.int (Int32.ofNat (2 * i + 1))), (.ref b), (.int (((StrChars.lo8 c) &&& (255 : Int32)) <<< ((0 : Int32) &&& 31)))])) rfl rfl (hb hby d52_5_48) _ k) ?_
  try dsimp only [mkF]
  refine og (fun _ k => XS.sipush X40.here hx rfl (hb hby d52_5_49) k) ?_
  refine og (fun _ k => XS.iand X40.here hx rfl (hb hby d52_5_52) rfl k) ?_
  obtain ⟨T42, X42, e42, st42⟩ := getS2 X40 hx hZ hown (host := "") (Or.inl (tw hw 219 rfl)) Via.refl e40 (OL.ext O0.2) (g := (mkF m 53 #[.val (.ref b), .val (.int (Int32.ofNat (2 * i + 1)))] [(.int ((StrChars.hi8 c) &&& (255 : Int32))), (.int (((StrChars.lo8 c) &&& (255 : Int32)) <<< ((0 : Int32) &&& 31)))])) rfl (hb hby d52_5_53)
  refine own_go st42 ?_
  refine og (fun _ k => XS.ishl X42.here hx rfl (hb hby d52_5_56) rfl k) ?_
  refine og (fun _ k => XS.ior X42.here hx rfl (hb hby d52_5_57) rfl k) ?_
  try dsimp only [mkF]
  refine og (fun _ k => XS.i2c X42.here hx rfl (hb hby d52_5_58) rfl k) ?_
  refine own_fin (v := (some (.int (nar .char (((((StrChars.lo8 c) &&& (255 : Int32)) <<< ((0 : Int32) &&& 31)) ||| (((StrChars.hi8 c) &&& (255 : Int32)) <<< ((8 : Int32) &&& 31))).toUInt32.toUInt16.toUInt32.toInt32))))) X42 (fun h => by rw [hrt] at h; cases h) hlk (fun fs hr => retN X42 hx (t := .char) hrt (by simp) (hb hby d52_5_59) hr) (QQ := QPure (some (.int c)) h0 n0) ?_ (by decide) (by decide)
  rw [e42]
  exact ⟨congrArg (fun z => some (Value.int z)) ((congrArg (nar .char) (StrChars.pair_says hc.1 hc.2)).trans (own_nc hc.1 hc.2)), N0, rfl⟩

abbrev k52_3 := jdk_52_method_3_code
theorem d52_3_0 : Dk k52_3 0 (.iload_n 0) 1 := own_k
theorem d52_3_1 : Dk k52_3 1 (.ifCond .ge 11) 3 := own_k
theorem d52_3_12 : Dk k52_3 12 (.iload_n 0) 1 := own_k
theorem d52_3_13 : Dk k52_3 13 (.ldc 20) 2 := own_k
theorem d52_3_15 : Dk k52_3 15 (.if_icmp .lt 40) 3 := own_k
theorem d52_3_55 : Dk k52_3 55 (.iload_n 0) 1 := own_k
theorem d52_3_56 : Dk k52_3 56 (.iconst 1) 1 := own_k
theorem d52_3_57 : Dk k52_3 57 .ishl 1 := own_k
theorem d52_3_58 : Dk k52_3 58 .ireturn 1 := own_k
theorem ef_rm_nbl (m : MethodId) (x0 : Int32) : entryFrame m #[(.int x0)] 1 = mkF m 0 #[.val (.int x0)] [] := by
   first | (simp [entryFrame, mkF, argsToLocals, Value.category]; done) | rfl
set_option maxRecDepth 65536 in
set_option maxHeartbeats 40000000 in
theorem rm_nbl (l : Launch) (Z : State) (a0 : Array Value) (hw : ∀ d ∈ tables_1, d.before a0 Z = true) (ws : List Jvm.Cond) (n : Nat) (h0 : Heap) (n0 : Nat) (O0 : Old Z n0 h0) (hn : n ≤ 4000) :
    MetFree l (⟨"java/lang/StringUTF16", "newBytesLength", "(I)I"⟩ : MethodName) (head1 (Jvm.Cond.code (⟨"java/lang/StringUTF16", "newBytesLength", "(I)I"⟩ : MethodName) jdk_52_method_3_code 1 (some .int) :: ws) ⟨0, 0, 0, 0⟩) (fun aA U => aA = #[(.int (Int32.ofNat n))] ∧ Z.Warmed39 U.vm ∧ U.heap = h0) (fun _ _ _ _ _ => True) (fun _ U oO U' => ∃ rV rL, oO = .returned rV ∧ QPure (some (.int (Int32.ofNat (2 * n)))) h0 n0 rV U'.heap rL ∧ FrameEnd U oO U' rL 0 0) := by
  refine MetFree.of_bodySF (plainFor_of_name pn_1) hisR ?_
  intro p e s m args below meth cC s₁ Bd hml0 hP hK
  obtain ⟨rfl, hZ, hh⟩ := hP
  have hx := Bd.exec
  have hby := Bd.bytes
  have hml : cC.maxLocals = 1 := hml0
  have hown : s.vm.findClass "java/lang/StringUTF16" = some m.cls := findClass_of_methodNamed Bd.named
  have hnm := (name_of_methodNamed Bd.named Bd.method).1
  have hrt := Bd.returns
  have hlk : meth.locks = false := Bd.notSynchronized
  have X0 : Stand p l e ⟨0, 0, 0, 0⟩ s m #[(.int (Int32.ofNat n))] below meth cC s₁ [] 0 0 := Stand.of_body Bd
  have e0 : s₁.heap = h0 := by rw [← hh, Bd.state]; rfl
  have N0 := Fr.nil n0
  have Z0 : n0 ≤ h0.size := O0.1 ▸ O0.2.1
  show own_Go p e below (s₁.setTop (entryFrame m #[(.int (Int32.ofNat n))] 1)) (fun oO U' => ∃ rV rL, oO = .returned rV ∧ QPure (some (.int (Int32.ofNat (2 * n)))) h0 n0 rV U'.heap rL ∧ FrameEnd s oO U' rL 0 0)
  refine own_go (fun _ k => castTop (ef_rm_nbl m _) k) ?_
  refine og (fun _ k => XS.iloadN X0.here hx rfl (hb hby d52_3_0) rfl k) ?_
  refine og (fun _ k => XS.ifYes X0.here hx rfl (pc0 := 1) (pc' := 12) rfl (hb hby d52_3_1) rfl ((if0 _ _).trans (flt (own_nn0 (by omega))).2.1) (by decide) (by decide) k) ?_
  refine og (fun _ k => XS.iloadN X0.here hx rfl (hb hby d52_3_12) rfl k) ?_
  refine og (fun _ k => X0.ldcInt hx hown (mvT hZ (tw hw 213 rfl)) (g := (mkF m 13 #[.val (.int (Int32.ofNat n))] [(.int (Int32.ofNat n))])) rfl (hb hby d52_3_13) _ k) ?_
  try dsimp only [mkF]
  refine og (fun _ k => XS.icmpYes X0.here hx rfl (pc0 := 15) (pc' := 55) rfl (hb hby d52_3_15) rfl (tlt ((own_lti (j := 1073741823) (by omega) (by decide)).mpr (by omega))).1 (by decide) (by decide) k) ?_
  refine og (fun _ k => XS.iloadN X0.here hx rfl (hb hby d52_3_55) rfl k) ?_
  refine og (fun _ k => XS.iconst X0.here hx rfl (hb hby d52_3_56) k) ?_
  refine og (fun _ k => XS.ishl X0.here hx rfl (hb hby d52_3_57) rfl k) ?_
  refine own_fin (v := (some (.int ((Int32.ofNat n) <<< ((1 : Int32) &&& 31))))) X0 (fun h => by rw [hrt] at h; cases h) hlk (fun fs hr => retI X0 hx hrt (hb hby d52_3_58) hr) (QQ := QPure (some (.int (Int32.ofNat (2 * n)))) h0 n0) ?_ (by decide) (by decide)
  rw [e0]
  exact ⟨congrArg (fun z => some (Value.int z)) (own_shl1 hn), N0, rfl⟩

abbrev k52_2 := jdk_52_method_2_code
theorem d52_2_0 : Dk k52_2 0 (.iload_n 0) 1 := own_k
theorem d52_2_1 : Dk k52_2 1 (.invokestatic 11) 3 := own_k
theorem pd_1 : parseMethodDescriptor "(I)I" = some ⟨[.int], some .int⟩ := by decide +kernel
theorem d52_2_4 : Dk k52_2 4 (.newarray .byte) 2 := own_k
theorem d52_2_6 : Dk k52_2 6 .areturn 1 := own_k
theorem ef_rm_nbf (m : MethodId) (x0 : Int32) : entryFrame m #[(.int x0)] 1 = mkF m 0 #[.val (.int x0)] [] := by
   first | (simp [entryFrame, mkF, argsToLocals, Value.category]; done) | rfl
set_option maxRecDepth 65536 in
set_option maxHeartbeats 40000000 in
theorem rm_nbf (l : Launch) (Z : State) (a0 : Array Value) (hw : ∀ d ∈ tables_1, d.before a0 Z = true) (ws : List Jvm.Cond) (n : Nat) (h0 : Heap) (n0 : Nat) (O0 : Old Z n0 h0) (hn : n ≤ 16) :
    MetFree l (⟨"java/lang/StringUTF16", "newBytesFor", "(I)[B"⟩ : MethodName) (head1 (Jvm.Cond.code (⟨"java/lang/StringUTF16", "newBytesFor", "(I)[B"⟩ : MethodName) jdk_52_method_2_code 1 (some (.array .byte)) :: ws) ⟨1, 1, 32, 12⟩) (fun aA U => aA = #[(.int (Int32.ofNat n))] ∧ Z.Warmed39 U.vm ∧ U.heap = h0) (fun _ _ _ _ _ => True) (fun _ U oO U' => ∃ rV rL, oO = .returned rV ∧ QNew Z (Int32.ofNat (2 * n)) (List.replicate (2 * n) (.int (0 : Int32))) h0 n0 rV U'.heap rL ∧ FrameEnd U oO U' rL 1 32) := by
  refine MetFree.of_bodySF (plainFor_of_name pn_1) hisR ?_
  intro p e s m args below meth cC s₁ Bd hml0 hP hK
  obtain ⟨rfl, hZ, hh⟩ := hP
  have hx := Bd.exec
  have hby := Bd.bytes
  have hml : cC.maxLocals = 1 := hml0
  have hown : s.vm.findClass "java/lang/StringUTF16" = some m.cls := findClass_of_methodNamed Bd.named
  have hnm := (name_of_methodNamed Bd.named Bd.method).1
  have hrt := Bd.returns
  have hlk : meth.locks = false := Bd.notSynchronized
  have X0 : Stand p l e ⟨1, 1, 32, 12⟩ s m #[(.int (Int32.ofNat n))] below meth cC s₁ [] 0 0 := Stand.of_body Bd
  have e0 : s₁.heap = h0 := by rw [← hh, Bd.state]; rfl
  have N0 := Fr.nil n0
  have Z0 : n0 ≤ h0.size := O0.1 ▸ O0.2.1
  show own_Go p e below (s₁.setTop (entryFrame m #[(.int (Int32.ofNat n))] 1)) (fun oO U' => ∃ rV rL, oO = .returned rV ∧ QNew Z (Int32.ofNat (2 * n)) (List.replicate (2 * n) (.int (0 : Int32))) h0 n0 rV U'.heap rL ∧ FrameEnd s oO U' rL 1 32)
  refine own_go (fun _ k => castTop (ef_rm_nbf m _) k) ?_
  refine og (fun _ k => XS.iloadN X0.here hx rfl (hb hby d52_2_0) rfl k) ?_
  obtain ⟨v43, _, ⟨T43, L43, k43, n43⟩, -, X43, ⟨Lc43, hQ43, l43, y43, z43⟩, st43⟩ := Jvm.LawKit.callS X0 hx (y := (⟨"java/lang/StringUTF16", "newBytesLength", "(I)I"⟩ : MethodName)) hown (mvT hZ (tw hw 210 rfl)) (mvT hZ (tw hw 211 rfl)) (mvT hZ (tw hw 109 rfl)) (mvT hZ (tw hw 212 rfl)) (by decide) (backOf (W := 0) (rm_nbl l Z a0 hw [] n h0 n0 O0 (by omega)) hZ (tw hw 212 rfl) (tw hw 109 rfl) (by decide) (by decide)) (g := (mkF m 1 #[.val (.int (Int32.ofNat n))] [(.int (Int32.ofNat n))])) rfl (by rw [hml]; rfl) (argsL := [(.int (Int32.ofNat n))]) (rest := []) (lenOf pd_1 rfl) rfl (by show 2 * 0 + _ ≤ _; exact Nat.le_of_eq rfl) (hb hby d52_2_1) (fun _ _ => ⟨rfl, e0, (by decide : 0 + 0 ≤ _), (by decide : 0 + 0 ≤ _)⟩)
  dsimp only [Pt.U, Pt.locs, Pt.cells, Pt.slots] at X43 l43 y43 z43 st43 hQ43
  subst l43 y43 z43
  refine own_go st43 ?_
  obtain ⟨rfl, Nq43, e43⟩ := hQ43
  have N43 := Fr.app N0 Nq43
  obtain ⟨T44, h44, k44, X44, e44, E44, A44, st44⟩ := newP X43 hx hZ (tw hw 15 rfl) e43 (g := (mkF m 4 #[.val (.int (Int32.ofNat n))] [(.int (Int32.ofNat (2 * n)))])) rfl (hb hby d52_2_4) rfl (own_nn0 (by omega)) (cap := 32) (by rw [own_tn (by omega)]; omega) (by decide) (by decide) (by decide)
  obtain ⟨b44, g44⟩ : ∃ z, z = h0.size := ⟨_, rfl⟩
  rw [← g44] at A44 st44
  refine own_go st44 ?_
  have V44 : Arv Z h44 b44 k44 .byte (Int32.ofNat (2 * n)) (List.replicate ((Int32.ofNat (2 * n))).toNatClampNeg (.int (0 : Int32))) (.int (0 : Int32)) := (Arv.new A44 (own_nn0 (by omega))).pad (pad_rep [] (.int (0 : Int32)) _)
  have f45 := ((Keep.refl h0 []).ext E44)
  refine own_fin (v := (some (.ref b44))) X44 (fun h => by rw [hrt] at h; cases h) hlk (fun fs hr => retR X44 hx hrt (by rfl) rfl rfl (hb hby d52_2_6) hr) (QQ := QNew Z (Int32.ofNat (2 * n)) (List.replicate (2 * n) (.int (0 : Int32))) h0 n0) ?_ (by decide) (by decide)
  rw [e44]
  exact ⟨b44, _, rfl, N43, f45, (Nat.le_of_eq g44.symm), by have q := V44; rw [own_tn (by omega)] at q; exact q⟩

abbrev k52_14 := jdk_52_method_14_code
theorem d52_14_0 : Dk k52_14 0 (.iload_n 2) 1 := own_k
theorem d52_14_1 : Dk k52_14 1 (.invokestatic 107) 3 := own_k
theorem pd_2 : parseMethodDescriptor "(I)[B" = some ⟨[.int], some (.array .byte)⟩ := by decide +kernel
theorem d52_14_4 : Dk k52_14 4 (.astore_n 3) 1 := own_k
theorem d52_14_5 : Dk k52_14 5 (.iconst 0) 1 := own_k
theorem d52_14_6 : Dk k52_14 6 (.istore 4) 2 := own_k
theorem d52_14_8 : Dk k52_14 8 (.iload 4) 2 := own_k
theorem d52_14_10 : Dk k52_14 10 (.iload_n 2) 1 := own_k
theorem d52_14_11 : Dk k52_14 11 (.if_icmp .ge 21) 3 := own_k
theorem d52_14_32 : Dk k52_14 32 (.aload_n 3) 1 := own_k
theorem d52_14_33 : Dk k52_14 33 .areturn 1 := own_k
theorem d52_14_14 : Dk k52_14 14 (.aload_n 3) 1 := own_k
theorem d52_14_15 : Dk k52_14 15 (.iload 4) 2 := own_k
theorem d52_14_17 : Dk k52_14 17 (.aload_n 0) 1 := own_k
theorem d52_14_18 : Dk k52_14 18 (.iload_n 1) 1 := own_k
theorem d52_14_19 : Dk k52_14 19 .caload 1 := own_k
theorem d52_14_20 : Dk k52_14 20 (.invokestatic 111) 3 := own_k
theorem pd_3 : parseMethodDescriptor "([BII)V" = some ⟨[(.array .byte), .int, .int], none⟩ := by decide +kernel
theorem d52_14_23 : Dk k52_14 23 (.iinc 1 1) 3 := own_k
theorem d52_14_26 : Dk k52_14 26 (.iinc 4 1) 3 := own_k
theorem d52_14_29 : Dk k52_14 29 (.goto (-21)) 3 := own_k
theorem ef_rm_tob (m : MethodId) (x0 : Addr) (x1 : Int32) (x2 : Int32) : entryFrame m #[(.ref x0), (.int x1), (.int x2)] 5 = mkF m 0 #[.val (.ref x0), .val (.int x1), .val (.int x2), .unset, .unset] [] := by
   first | (simp [entryFrame, mkF, argsToLocals, Value.category]; done) | rfl
set_option maxRecDepth 65536 in
set_option maxHeartbeats 40000000 in
theorem rm_tob (l : Launch) (Z : State) (a0 : Array Value) (hw : ∀ d ∈ tables_1, d.before a0 Z = true) (ws : List Jvm.Cond) (a : Addr) (ka : ClassId) (da : Value) (cs : List Int32) (h0 : Heap) (n0 : Nat) (O0 : Old Z n0 h0) (OA : Sta Z Z.heap "java/lang/StringUTF16" "$assertionsDisabled" "Z" (.int (1 : Int32))) (OH : Sta Z Z.heap "java/lang/StringUTF16" "HI_BYTE_SHIFT" "I" (.int (0 : Int32))) (OL : Sta Z Z.heap "java/lang/StringUTF16" "LO_BYTE_SHIFT" "I" (.int (8 : Int32))) (hok : own_Ok cs) (V_a : Arv Z h0 a ka .char (Int32.ofNat cs.length) (cs.map Value.int) da) (hcap : cs.length ≤ 4) :
    MetFree l (⟨"java/lang/StringUTF16", "toBytes", "([CII)[B"⟩ : MethodName) (head1 (Jvm.Cond.code (⟨"java/lang/StringUTF16", "toBytes", "([CII)[B"⟩ : MethodName) jdk_52_method_14_code 5 (some (.array .byte)) :: ws) ⟨2, 1, 32, 24⟩) (fun aA U => aA = #[(.ref a), (.int (0 : Int32)), (.int (Int32.ofNat cs.length))] ∧ Z.Warmed39 U.vm ∧ U.heap = h0) (fun _ _ _ _ _ => True) (fun _ U oO U' => ∃ rV rL, oO = .returned rV ∧ QNew Z (Int32.ofNat (2 * cs.length)) (StrChars.Road.wideBytes cs) h0 n0 rV U'.heap rL ∧ FrameEnd U oO U' rL 1 32) := by
  refine MetFree.of_bodySF (plainFor_of_name pn_1) hisR ?_
  intro p e s m args below meth cC s₁ Bd hml0 hP hK
  obtain ⟨rfl, hZ, hh⟩ := hP
  have hx := Bd.exec
  have hby := Bd.bytes
  have hml : cC.maxLocals = 5 := hml0
  have hown : s.vm.findClass "java/lang/StringUTF16" = some m.cls := findClass_of_methodNamed Bd.named
  have hnm := (name_of_methodNamed Bd.named Bd.method).1
  have hrt := Bd.returns
  have hlk : meth.locks = false := Bd.notSynchronized
  have X0 : Stand p l e ⟨2, 1, 32, 24⟩ s m #[(.ref a), (.int (0 : Int32)), (.int (Int32.ofNat cs.length))] below meth cC s₁ [] 0 0 := Stand.of_body Bd
  have e0 : s₁.heap = h0 := by rw [← hh, Bd.state]; rfl
  have N0 := Fr.nil n0
  have Z0 : n0 ≤ h0.size := O0.1 ▸ O0.2.1
  show own_Go p e below (s₁.setTop (entryFrame m #[(.ref a), (.int (0 : Int32)), (.int (Int32.ofNat cs.length))] 5)) (fun oO U' => ∃ rV rL, oO = .returned rV ∧ QNew Z (Int32.ofNat (2 * cs.length)) (StrChars.Road.wideBytes cs) h0 n0 rV U'.heap rL ∧ FrameEnd s oO U' rL 1 32)
  refine own_go (fun _ k => castTop (ef_rm_tob m a _ _) k) ?_
  have hlen : cs.length ≤ 4000 := hok.2
  refine og (fun _ k => XS.iloadN X0.here hx rfl (hb hby d52_14_0) rfl k) ?_
  obtain ⟨v46, _, ⟨T46, L46, k46, n46⟩, -, X46, ⟨Lc46, hQ46, l46, y46, z46⟩, st46⟩ := Jvm.LawKit.callS X0 hx (y := (⟨"java/lang/StringUTF16", "newBytesFor", "(I)[B"⟩ : MethodName)) hown (mvT hZ (tw hw 207 rfl)) (mvT hZ (tw hw 208 rfl)) (mvT hZ (tw hw 109 rfl)) (mvT hZ (tw hw 209 rfl)) (by decide) (backOf (W := 0) (rm_nbf l Z a0 hw [] cs.length h0 n0 O0 (by omega)) hZ (tw hw 209 rfl) (tw hw 109 rfl) (by decide) (by decide)) (g := (mkF m 1 #[.val (.ref a), .val (.int (0 : Int32)), .val (.int (Int32.ofNat cs.length)), .unset, .unset] [(.int (Int32.ofNat cs.length))])) rfl (by rw [hml]; rfl) (argsL := [(.int (Int32.ofNat cs.length))]) (rest := []) (lenOf pd_2 rfl) rfl (by show 2 * 0 + _ ≤ _; exact Nat.le_of_eq rfl) (hb hby d52_14_1) (fun _ _ => ⟨rfl, e0, (by decide : 0 + 1 ≤ _), (by decide : 0 + 32 ≤ _)⟩)
  dsimp only [Pt.U, Pt.locs, Pt.cells, Pt.slots] at X46 l46 y46 z46 st46 hQ46
  subst l46 y46 z46
  refine own_go st46 ?_
  obtain ⟨t46, kt46, rfl, Nq46, K46, tg46, Vt46⟩ := hQ46
  have N46 := Fr.app N0 Nq46
  refine og (fun _ k => XS.astoreN X46.here hx rfl (hb hby d52_14_4) rfl rfl (l' := #[.val (.ref a), .val (.int (0 : Int32)), .val (.int (Int32.ofNat cs.length)), .val (.ref t46), .unset]) rfl k) ?_
  refine og (fun _ k => XS.iconst X46.here hx rfl (hb hby d52_14_5) k) ?_
  try dsimp only [mkF]
  refine og (fun _ k => XS.istore X46.here hx rfl (hb hby d52_14_6) rfl (l' := #[.val (.ref a), .val (.int (0 : Int32)), .val (.int (Int32.ofNat cs.length)), .val (.ref t46), .val (.int (0 : Int32))]) rfl k) ?_
  have ne47 : a ≠ t46 := Nat.ne_of_lt (Nat.lt_of_lt_of_le V_a.lt tg46)
  have loop : ∀ (kT iloop : Nat) (T : State) (locs : List Loc) (h : Heap), iloop + kT = cs.length → Stand p l e ⟨2, 1, 32, 24⟩ s m #[(.ref a), (.int (0 : Int32)), (.int (Int32.ofNat cs.length))] below meth cC T locs 1 32 → T.heap = h → Fr n0 locs → Old Z n0 h → Keep h0 h [] → Arv Z h a ka .char (Int32.ofNat cs.length) (cs.map Value.int) da → Arv Z h t46 kt46 .byte (Int32.ofNat (2 * cs.length)) (own_wpart cs iloop) (.int (0 : Int32)) → own_Go p e below (T.setTop (mkF m 8 #[.val (.ref a), .val (.int (Int32.ofNat iloop)), .val (.int (Int32.ofNat cs.length)), .val (.ref t46), .val (.int (Int32.ofNat iloop))] [])) (fun oO U' => ∃ rV rL, oO = .returned rV ∧ QNew Z (Int32.ofNat (2 * cs.length)) (StrChars.Road.wideBytes cs) h0 n0 rV U'.heap rL ∧ FrameEnd s oO U' rL 1 32) := by
    intro kT
    induction kT with
    | zero =>
      intro iloop T48 L48 h48 hik X48 e48 N48 O48 K48 J0_48 J1_48
      have Z0_48 : n0 ≤ h48.size := O48.1 ▸ O48.2.1
      have hin : iloop = cs.length := by omega
      have hlt : ¬ ((Int32.ofNat iloop) < (Int32.ofNat cs.length)) := by rw [own_lti (by omega) (by omega)]; omega
      refine og (fun _ k => XS.iload X48.here hx rfl (hb hby d52_14_8) rfl k) ?_
      refine og (fun _ k => XS.iloadN X48.here hx rfl (hb hby d52_14_10) rfl k) ?_
      refine og (fun _ k => XS.icmpYes X48.here hx rfl (pc0 := 11) (pc' := 32) rfl (hb hby d52_14_11) rfl (flt hlt).2.1 (by decide) (by decide) k) ?_
      try dsimp only [mkF]
      refine og (fun _ k => XS.aloadN X48.here hx rfl (hb hby d52_14_32) rfl rfl k) ?_
      refine own_fin (v := (some (.ref t46))) X48 (fun h => by rw [hrt] at h; cases h) hlk (fun fs hr => retR X48 hx hrt (by rfl) rfl rfl (hb hby d52_14_33) hr) (QQ := QNew Z (Int32.ofNat (2 * cs.length)) (StrChars.Road.wideBytes cs) h0 n0) ?_ (by decide) (by decide)
      rw [e48]
      exact ⟨t46, _, rfl, N48, K48, tg46, by have q := J1_48; rw [hin, own_wpartn] at q; exact q⟩
    | succ kT ih =>
      intro iloop T49 L49 h49 hik X49 e49 N49 O49 K49 J0_49 J1_49
      have Z0_49 : n0 ≤ h49.size := O49.1 ▸ O49.2.1
      have hi : iloop < cs.length := by omega
      have hlt : (Int32.ofNat iloop) < (Int32.ofNat cs.length) := (own_lti (by omega) (by omega)).mpr hi
      refine og (fun _ k => XS.iload X49.here hx rfl (hb hby d52_14_8) rfl k) ?_
      refine og (fun _ k => XS.iloadN X49.here hx rfl (hb hby d52_14_10) rfl k) ?_
      refine og (fun _ k => XS.icmpNo X49.here hx rfl (hb hby d52_14_11) rfl (tlt hlt).2.1 k) ?_
      try dsimp only [mkF]
      refine og (fun _ k => XS.aloadN X49.here hx rfl (hb hby d52_14_14) rfl rfl k) ?_
      refine og (fun _ k => XS.iload X49.here hx rfl (hb hby d52_14_15) rfl k) ?_
      refine og (fun _ k => XS.aloadN X49.here hx rfl (hb hby d52_14_17) rfl rfl k) ?_
      refine og (fun _ k => XS.iloadN X49.here hx rfl (hb hby d52_14_18) rfl k) ?_
      obtain ⟨c50, A50, q50, S50, M50, Hs50, Gs50⟩ := id J0_49
      have hi50 := inb_of (j := (Int32.ofNat iloop)) S50 (own_inb hi (by omega))
      refine og (fun _ k => X49.caload hx (j := (Int32.ofNat iloop)) (v := (.int (cs.getD iloop 0))) (by rw [e49]; exact A50.1) (State.isArrayOf_alike hZ.alike A50.2.1) A50.2.2 hi50 (Has.at Hs50 hi50 (own_gd rfl hi (by omega))) (g := (mkF m 19 #[.val (.ref a), .val (.int (Int32.ofNat iloop)), .val (.int (Int32.ofNat cs.length)), .val (.ref t46), .val (.int (Int32.ofNat iloop))] [(.int (Int32.ofNat iloop)), (.ref a), (.int (Int32.ofNat iloop)), (.ref t46)])) rfl rfl (hb hby d52_14_19) _ k) ?_
      try dsimp only [mkF]
      obtain ⟨v51, _, ⟨T51, L51, k51, n51⟩, -, X51, ⟨Lc51, hQ51, l51, y51, z51⟩, st51⟩ := Jvm.LawKit.callS X49 hx (y := (⟨"java/lang/StringUTF16", "putChar", "([BII)V"⟩ : MethodName)) hown (mvT hZ (tw hw 214 rfl)) (mvT hZ (tw hw 215 rfl)) (mvT hZ (tw hw 109 rfl)) (mvT hZ (tw hw 216 rfl)) (by decide) (backOf (W := 0) (rm_put l Z a0 hw [] t46 kt46 (2 * cs.length) (own_wpart cs iloop) iloop (cs.getD iloop 0) h49 n0 O49 OA OH OL J1_49 (Nat.le_trans Z0 tg46) (own_wpartl (by omega)) (by omega) (by omega)) hZ (tw hw 216 rfl) (tw hw 109 rfl) (by decide) (by decide)) (g := (mkF m 20 #[.val (.ref a), .val (.int (Int32.ofNat iloop)), .val (.int (Int32.ofNat cs.length)), .val (.ref t46), .val (.int (Int32.ofNat iloop))] [(.int (cs.getD iloop 0)), (.int (Int32.ofNat iloop)), (.ref t46)])) rfl (by rw [hml]; rfl) (argsL := [(.ref t46), (.int (Int32.ofNat iloop)), (.int (cs.getD iloop 0))]) (rest := []) (lenOf pd_3 rfl) rfl (by show 2 * 0 + _ ≤ _; exact Nat.le_of_eq rfl) (hb hby d52_14_20) (fun _ _ => ⟨rfl, e49, (by decide : 1 + 0 ≤ _), (by decide : 32 + 0 ≤ _)⟩)
      dsimp only [Pt.U, Pt.locs, Pt.cells, Pt.slots] at X51 l51 y51 z51 st51 hQ51
      subst l51 y51 z51
      refine own_go st51 ?_
      obtain ⟨rfl, Nq51, K51, Vb51⟩ := hQ51
      have N51 := Fr.app N49 Nq51
      refine og (fun _ k => XS.iinc X51.here hx rfl (hb hby d52_14_23) rfl (l' := #[.val (.ref a), .val (.int ((Int32.ofNat iloop) + (1 : Int32))), .val (.int (Int32.ofNat cs.length)), .val (.ref t46), .val (.int (Int32.ofNat iloop))]) rfl k) ?_
      refine og (fun _ k => XS.iinc X51.here hx rfl (hb hby d52_14_26) rfl (l' := #[.val (.ref a), .val (.int ((Int32.ofNat iloop) + (1 : Int32))), .val (.int (Int32.ofNat cs.length)), .val (.ref t46), .val (.int ((Int32.ofNat iloop) + (1 : Int32)))]) rfl k) ?_
      refine og (fun _ k => XS.goto X51.here hx rfl (pc0 := 29) (pc' := 8) rfl (hb hby d52_14_29) (by decide) (by decide) k) ?_
      show own_Go p e below (T51.setTop (mkF m 8 #[.val (.ref a), .val (.int ((Int32.ofNat iloop) + (1 : Int32))), .val (.int (Int32.ofNat cs.length)), .val (.ref t46), .val (.int ((Int32.ofNat iloop) + (1 : Int32)))] [])) _
      rw [own_inc]
      have f52 := (J0_49.keep K51 (ninS ne47 nin0))
      have f53 := (O49.keep K51 (allS (Nat.le_trans Z0 tg46) all0))
      have f54 := (K49.trans K51 (allS (Or.inr tg46) all0))
      exact ih (iloop + 1) T51 _ T51.heap (by omega) X51 (rfl : T51.heap = T51.heap) N51 f53 f54 f52 (own_set2 hi ▸ Vb51) 
  have f55 := ((Keep.refl h0 []).trans K46 all0)
  exact loop (cs.length) 0 T46 _ T46.heap (by omega) X46 (rfl : T46.heap = T46.heap) N46 (O0.keep K46 all0) f55 (V_a.keep K46 nin0) (own_wpart0 cs ▸ Vt46) 

theorem own_ne_n {r n : Nat} (h : r < n) (hn : n ≤ 4000) : ¬ Int32.ofNat r = Int32.ofNat n := fun q => by
  have e := congrArg Int32.toInt q
  rw [own_ti (by omega), own_ti (by omega)] at e
  omega
theorem own_ne_0 {n : Nat} (h : 0 < n) (hn : n ≤ 4000) : ¬ Int32.ofNat n = (0 : Int32) := fun q => own_ne_n h hn q.symm
theorem own_getm {cs : List Int32} {r : Nat} (h : r < cs.length) : cs.getD r 0 ∈ cs := by
  rw [show cs.getD r 0 = cs[r] by simp [List.getD_eq_getElem?_getD, h]]; exact List.getElem_mem _
theorem own_ncd {cs : List Int32} {cd N2 : Int32} {vs : List Value} (h : StrChars.Road.CodA cs cd N2 vs) : nar .byte cd = cd := by
  rcases own_cd01 h with rfl | rfl <;> decide
abbrev k52_16 := jdk_52_method_16_code
theorem d52_16_0 : Dk k52_16 0 (.iload_n 2) 1 := own_k
theorem d52_16_1 : Dk k52_16 1 (.newarray .byte) 2 := own_k
theorem d52_16_3 : Dk k52_16 3 (.astore_n 3) 1 := own_k
theorem d52_16_4 : Dk k52_16 4 (.aload_n 0) 1 := own_k
theorem d52_16_5 : Dk k52_16 5 (.iload_n 1) 1 := own_k
theorem d52_16_6 : Dk k52_16 6 (.aload_n 3) 1 := own_k
theorem d52_16_7 : Dk k52_16 7 (.iconst 0) 1 := own_k
theorem d52_16_8 : Dk k52_16 8 (.iload_n 2) 1 := own_k
theorem d52_16_9 : Dk k52_16 9 (.invokestatic 115) 3 := own_k
theorem pd_4 : parseMethodDescriptor "([CI[BII)I" = some ⟨[(.array .char), .int, (.array .byte), .int, .int], some .int⟩ := by decide +kernel
theorem d52_16_12 : Dk k52_16 12 (.istore 4) 2 := own_k
theorem d52_16_14 : Dk k52_16 14 (.iload 4) 2 := own_k
theorem d52_16_16 : Dk k52_16 16 (.iload_n 2) 1 := own_k
theorem d52_16_17 : Dk k52_16 17 (.if_icmp .eq 40) 3 := own_k
theorem d52_16_57 : Dk k52_16 57 (.aload_n 3) 1 := own_k
theorem d52_16_58 : Dk k52_16 58 .areturn 1 := own_k
theorem d52_16_20 : Dk k52_16 20 (.aload_n 0) 1 := own_k
theorem d52_16_21 : Dk k52_16 21 (.iload_n 1) 1 := own_k
theorem d52_16_22 : Dk k52_16 22 (.iload_n 2) 1 := own_k
theorem d52_16_23 : Dk k52_16 23 (.invokestatic 119) 3 := own_k
theorem pd_5 : parseMethodDescriptor "([CII)[B" = some ⟨[(.array .char), .int, .int], some (.array .byte)⟩ := by decide +kernel
theorem d52_16_26 : Dk k52_16 26 (.astore 5) 2 := own_k
theorem d52_16_28 : Dk k52_16 28 (.aload 5) 2 := own_k
theorem d52_16_30 : Dk k52_16 30 (.iload 4) 2 := own_k
theorem d52_16_32 : Dk k52_16 32 (.invokestatic 71) 3 := own_k
theorem pd_6 : parseMethodDescriptor "([BI)C" = some ⟨[(.array .byte), .int], some .char⟩ := by decide +kernel
theorem d52_16_35 : Dk k52_16 35 (.sipush 255) 3 := own_k
theorem d52_16_38 : Dk k52_16 38 (.if_icmp .gt 16) 3 := own_k
theorem d52_16_54 : Dk k52_16 54 (.aload 5) 2 := own_k
theorem d52_16_56 : Dk k52_16 56 .areturn 1 := own_k
theorem ef_rm_cmp3 (m : MethodId) (x0 : Addr) (x1 : Int32) (x2 : Int32) : entryFrame m #[(.ref x0), (.int x1), (.int x2)] 6 = mkF m 0 #[.val (.ref x0), .val (.int x1), .val (.int x2), .unset, .unset, .unset] [] := by
   first | (simp [entryFrame, mkF, argsToLocals, Value.category]; done) | rfl
set_option maxRecDepth 65536 in
set_option maxHeartbeats 40000000 in
theorem rm_cmp3 (l : Launch) (Z : State) (a0 : Array Value) (hw : ∀ d ∈ tables_1, d.before a0 Z = true) (ws : List Jvm.Cond) (a : Addr) (ka : ClassId) (da : Value) (cs : List Int32) (h0 : Heap) (n0 : Nat) (O0 : Old Z n0 h0) (OA : Sta Z Z.heap "java/lang/StringUTF16" "$assertionsDisabled" "Z" (.int (1 : Int32))) (OH : Sta Z Z.heap "java/lang/StringUTF16" "HI_BYTE_SHIFT" "I" (.int (0 : Int32))) (OL : Sta Z Z.heap "java/lang/StringUTF16" "LO_BYTE_SHIFT" "I" (.int (8 : Int32))) (hok : own_Ok cs) (V_a : Arv Z h0 a ka .char (Int32.ofNat cs.length) (cs.map Value.int) da) (hcap : cs.length ≤ 4) :
    MetFree l (⟨"java/lang/StringUTF16", "compress", "([CII)[B"⟩ : MethodName) (head1 (Jvm.Cond.code (⟨"java/lang/StringUTF16", "compress", "([CII)[B"⟩ : MethodName) jdk_52_method_16_code 6 (some (.array .byte)) :: ws) ⟨3, 2, 36, 40⟩) (fun aA U => aA = #[(.ref a), (.int (0 : Int32)), (.int (Int32.ofNat cs.length))] ∧ Z.Warmed39 U.vm ∧ U.heap = h0) (fun _ _ _ _ _ => True) (fun _ U oO U' => ∃ rV rL, oO = .returned rV ∧ QCmp Z cs h0 n0 rV U'.heap rL ∧ FrameEnd U oO U' rL 2 36) := by
  refine MetFree.of_bodySF (plainFor_of_name pn_1) hisR ?_
  intro p e s m args below meth cC s₁ Bd hml0 hP hK
  obtain ⟨rfl, hZ, hh⟩ := hP
  have hx := Bd.exec
  have hby := Bd.bytes
  have hml : cC.maxLocals = 6 := hml0
  have hown : s.vm.findClass "java/lang/StringUTF16" = some m.cls := findClass_of_methodNamed Bd.named
  have hnm := (name_of_methodNamed Bd.named Bd.method).1
  have hrt := Bd.returns
  have hlk : meth.locks = false := Bd.notSynchronized
  have X0 : Stand p l e ⟨3, 2, 36, 40⟩ s m #[(.ref a), (.int (0 : Int32)), (.int (Int32.ofNat cs.length))] below meth cC s₁ [] 0 0 := Stand.of_body Bd
  have e0 : s₁.heap = h0 := by rw [← hh, Bd.state]; rfl
  have N0 := Fr.nil n0
  have Z0 : n0 ≤ h0.size := O0.1 ▸ O0.2.1
  show own_Go p e below (s₁.setTop (entryFrame m #[(.ref a), (.int (0 : Int32)), (.int (Int32.ofNat cs.length))] 6)) (fun oO U' => ∃ rV rL, oO = .returned rV ∧ QCmp Z cs h0 n0 rV U'.heap rL ∧ FrameEnd s oO U' rL 2 36)
  refine own_go (fun _ k => castTop (ef_rm_cmp3 m a _ _) k) ?_
  have hlen : cs.length ≤ 4000 := hok.2
  refine og (fun _ k => XS.iloadN X0.here hx rfl (hb hby d52_16_0) rfl k) ?_
  obtain ⟨T56, h56, k56, X56, e56, E56, A56, st56⟩ := newP X0 hx hZ (tw hw 15 rfl) e0 (g := (mkF m 1 #[.val (.ref a), .val (.int (0 : Int32)), .val (.int (Int32.ofNat cs.length)), .unset, .unset, .unset] [(.int (Int32.ofNat cs.length))])) rfl (hb hby d52_16_1) rfl (own_nn0 (by omega)) (cap := 4) (by rw [own_tn (by omega)]; exact hcap) (by decide) (by decide) (by decide)
  obtain ⟨b56, g56⟩ : ∃ z, z = h0.size := ⟨_, rfl⟩
  rw [← g56] at A56 st56
  refine own_go st56 ?_
  have V56 : Arv Z h56 b56 k56 .byte (Int32.ofNat cs.length) (List.replicate ((Int32.ofNat cs.length)).toNatClampNeg (.int (0 : Int32))) (.int (0 : Int32)) := (Arv.new A56 (own_nn0 (by omega))).pad (pad_rep [] (.int (0 : Int32)) _)
  have Vb0 : Arv Z h56 b56 k56 .byte (Int32.ofNat cs.length) (List.replicate cs.length (.int (0 : Int32))) (.int (0 : Int32)) := by have q := V56; rw [own_tn (by omega)] at q; exact q
  refine og (fun _ k => XS.astoreN X56.here hx rfl (hb hby d52_16_3) rfl rfl (l' := #[.val (.ref a), .val (.int (0 : Int32)), .val (.int (Int32.ofNat cs.length)), .val (.ref b56), .unset, .unset]) rfl k) ?_
  refine og (fun _ k => XS.aloadN X56.here hx rfl (hb hby d52_16_4) rfl rfl k) ?_
  try dsimp only [mkF]
  refine og (fun _ k => XS.iloadN X56.here hx rfl (hb hby d52_16_5) rfl k) ?_
  refine og (fun _ k => XS.aloadN X56.here hx rfl (hb hby d52_16_6) rfl rfl k) ?_
  refine og (fun _ k => XS.iconst X56.here hx rfl (hb hby d52_16_7) k) ?_
  refine og (fun _ k => XS.iloadN X56.here hx rfl (hb hby d52_16_8) rfl k) ?_
  have ne57 : a ≠ b56 := Nat.ne_of_lt (Nat.lt_of_lt_of_le V_a.lt (Nat.le_of_eq g56.symm))
  obtain ⟨v58, _, ⟨T58, L58, k58, n58⟩, -, X58, ⟨Lc58, hQ58, l58, y58, z58⟩, st58⟩ := Jvm.LawKit.callS X56 hx (y := (⟨"java/lang/StringUTF16", "compress", "([CI[BII)I"⟩ : MethodName)) hown (mvT hZ (tw hw 111 rfl)) (mvT hZ (tw hw 112 rfl)) (mvT hZ (tw hw 109 rfl)) (mvT hZ (tw hw 113 rfl)) (by decide) (backOf (W := 0) (rm_cmp5 l Z a0 hw [] a ka da cs b56 k56 h56 n0 (O0.ext E56) hok (V_a.ext E56) Vb0 (Nat.le_trans Z0 (Nat.le_of_eq g56.symm)) ne57) hZ (tw hw 113 rfl) (tw hw 109 rfl) (by decide) (by decide)) (g := (mkF m 9 #[.val (.ref a), .val (.int (0 : Int32)), .val (.int (Int32.ofNat cs.length)), .val (.ref b56), .unset, .unset] [(.int (Int32.ofNat cs.length)), (.int (0 : Int32)), (.ref b56), (.int (0 : Int32)), (.ref a)])) rfl (by rw [hml]; rfl) (argsL := [(.ref a), (.int (0 : Int32)), (.ref b56), (.int (0 : Int32)), (.int (Int32.ofNat cs.length))]) (rest := []) (lenOf pd_4 rfl) rfl (by show 2 * 0 + _ ≤ _; exact Nat.le_of_eq rfl) (hb hby d52_16_9) (fun _ _ => ⟨rfl, e56, (by decide : 1 + 0 ≤ _), (by decide : 4 + 0 ≤ _)⟩)
  dsimp only [Pt.U, Pt.locs, Pt.cells, Pt.slots] at X58 l58 y58 z58 st58 hQ58
  subst l58 y58 z58
  refine own_go st58 ?_
  obtain ⟨r58, rfl, Nq58, K58, hr58⟩ := hQ58
  have N58 := Fr.app N0 Nq58
  try dsimp only [mkF]
  refine og (fun _ k => XS.istore X58.here hx rfl (hb hby d52_16_12) rfl (l' := #[.val (.ref a), .val (.int (0 : Int32)), .val (.int (Int32.ofNat cs.length)), .val (.ref b56), .val (.int (Int32.ofNat r58)), .unset]) rfl k) ?_
  rcases hr58 with ⟨hr1, hall, Vl⟩ | ⟨hr1, hbig⟩
  · subst hr1
    refine og (fun _ k => XS.iload X58.here hx rfl (hb hby d52_16_14) rfl k) ?_
    refine og (fun _ k => XS.iloadN X58.here hx rfl (hb hby d52_16_16) rfl k) ?_
    refine og (fun _ k => XS.icmpYes X58.here hx rfl (pc0 := 17) (pc' := 57) rfl (hb hby d52_16_17) rfl (teq (rfl : (Int32.ofNat cs.length) = (Int32.ofNat cs.length))).1 (by decide) (by decide) k) ?_
    try dsimp only [mkF]
    refine og (fun _ k => XS.aloadN X58.here hx rfl (hb hby d52_16_57) rfl rfl k) ?_
    have f59 := (((Keep.refl h0 []).ext E56).trans K58 (allS (Or.inr (Nat.le_of_eq g56.symm)) all0))
    refine own_fin (v := (some (.ref b56))) X58 (fun h => by rw [hrt] at h; cases h) hlk (fun fs hr => retR X58 hx hrt (by rfl) rfl rfl (hb hby d52_16_58) hr) (QQ := QCmp Z cs h0 n0) ?_ (by decide) (by decide)
    exact ⟨b56, _, 0, _, _, rfl, N58, f59, (Nat.le_of_eq g56.symm), Vl, Or.inl ⟨rfl, rfl, rfl, hall⟩⟩
  · skip
    refine og (fun _ k => XS.iload X58.here hx rfl (hb hby d52_16_14) rfl k) ?_
    refine og (fun _ k => XS.iloadN X58.here hx rfl (hb hby d52_16_16) rfl k) ?_
    refine og (fun _ k => XS.icmpNo X58.here hx rfl (hb hby d52_16_17) rfl (feq (own_ne_n hr1 hlen)).1 k) ?_
    try dsimp only [mkF]
    refine og (fun _ k => XS.aloadN X58.here hx rfl (hb hby d52_16_20) rfl rfl k) ?_
    refine og (fun _ k => XS.iloadN X58.here hx rfl (hb hby d52_16_21) rfl k) ?_
    refine og (fun _ k => XS.iloadN X58.here hx rfl (hb hby d52_16_22) rfl k) ?_
    have f60 := ((V_a.ext E56).keep K58 (ninS ne57 nin0))
    have f61 := ((O0.ext E56).keep K58 (allS (Nat.le_trans Z0 (Nat.le_of_eq g56.symm)) all0))
    obtain ⟨v62, _, ⟨T62, L62, k62, n62⟩, -, X62, ⟨Lc62, hQ62, l62, y62, z62⟩, st62⟩ := Jvm.LawKit.callS X58 hx (y := (⟨"java/lang/StringUTF16", "toBytes", "([CII)[B"⟩ : MethodName)) hown (mvT hZ (tw hw 204 rfl)) (mvT hZ (tw hw 205 rfl)) (mvT hZ (tw hw 109 rfl)) (mvT hZ (tw hw 206 rfl)) (by decide) (backOf (W := 0) (rm_tob l Z a0 hw [] a ka da cs T58.heap n0 f61 OA OH OL hok f60 hcap) hZ (tw hw 206 rfl) (tw hw 109 rfl) (by decide) (by decide)) (g := (mkF m 23 #[.val (.ref a), .val (.int (0 : Int32)), .val (.int (Int32.ofNat cs.length)), .val (.ref b56), .val (.int (Int32.ofNat r58)), .unset] [(.int (Int32.ofNat cs.length)), (.int (0 : Int32)), (.ref a)])) rfl (by rw [hml]; rfl) (argsL := [(.ref a), (.int (0 : Int32)), (.int (Int32.ofNat cs.length))]) (rest := []) (lenOf pd_5 rfl) rfl (by show 2 * 0 + _ ≤ _; exact Nat.le_of_eq rfl) (hb hby d52_16_23) (fun _ _ => ⟨rfl, (rfl : T58.heap = T58.heap), (by decide : 1 + 1 ≤ _), (by decide : 4 + 32 ≤ _)⟩)
    dsimp only [Pt.U, Pt.locs, Pt.cells, Pt.slots] at X62 l62 y62 z62 st62 hQ62
    subst l62 y62 z62
    refine own_go st62 ?_
    obtain ⟨t62, kt62, rfl, Nq62, K62, tg62, Vt62⟩ := hQ62
    have N62 := Fr.app N58 Nq62
    refine og (fun _ k => XS.astore X62.here hx rfl (hb hby d52_16_26) rfl rfl (l' := #[.val (.ref a), .val (.int (0 : Int32)), .val (.int (Int32.ofNat cs.length)), .val (.ref b56), .val (.int (Int32.ofNat r58)), .val (.ref t62)]) rfl k) ?_
    try dsimp only [mkF]
    refine og (fun _ k => XS.aload X62.here hx rfl (hb hby d52_16_28) rfl rfl k) ?_
    refine og (fun _ k => XS.iload X62.here hx rfl (hb hby d52_16_30) rfl k) ?_
    obtain ⟨v63, _, ⟨T63, L63, k63, n63⟩, -, X63, ⟨Lc63, hQ63, l63, y63, z63⟩, st63⟩ := Jvm.LawKit.callS X62 hx (y := (⟨"java/lang/StringUTF16", "getChar", "([BI)C"⟩ : MethodName)) hown (mvT hZ (tw hw 220 rfl)) (mvT hZ (tw hw 221 rfl)) (mvT hZ (tw hw 109 rfl)) (mvT hZ (tw hw 222 rfl)) (by decide) (backOf (W := 0) (rm_get l Z a0 hw [] t62 kt62 (2 * cs.length) (StrChars.Road.wideBytes cs) r58 (cs.getD r58 0) T62.heap n0 (f61.keep K62 all0) OA OH OL Vt62 (StrChars.Road.wide_lo _ cs _ hr1) (StrChars.Road.wide_hi _ cs _ hr1) (by omega) (by omega) (hok.at hr1)) hZ (tw hw 222 rfl) (tw hw 109 rfl) (by decide) (by decide)) (g := (mkF m 32 #[.val (.ref a), .val (.int (0 : Int32)), .val (.int (Int32.ofNat cs.length)), .val (.ref b56), .val (.int (Int32.ofNat r58)), .val (.ref t62)] [(.int (Int32.ofNat r58)), (.ref t62)])) rfl (by rw [hml]; rfl) (argsL := [(.ref t62), (.int (Int32.ofNat r58))]) (rest := []) (lenOf pd_6 rfl) rfl (by show 2 * 0 + _ ≤ _; exact Nat.le_of_eq rfl) (hb hby d52_16_32) (fun _ _ => ⟨rfl, (rfl : T62.heap = T62.heap), (by decide : 2 + 0 ≤ _), (by decide : 36 + 0 ≤ _)⟩)
    dsimp only [Pt.U, Pt.locs, Pt.cells, Pt.slots] at X63 l63 y63 z63 st63 hQ63
    subst l63 y63 z63
    refine own_go st63 ?_
    obtain ⟨rfl, Nq63, e63⟩ := hQ63
    have N63 := Fr.app N62 Nq63
    refine og (fun _ k => XS.sipush X63.here hx rfl (hb hby d52_16_35) k) ?_
    refine og (fun _ k => XS.icmpYes X63.here hx rfl (pc0 := 38) (pc' := 54) rfl (hb hby d52_16_38) rfl (tlt hbig).2.2.1 (by decide) (by decide) k) ?_
    try dsimp only [mkF]
    refine og (fun _ k => XS.aload X63.here hx rfl (hb hby d52_16_54) rfl rfl k) ?_
    have f64 := ((((Keep.refl h0 []).ext E56).trans K58 (allS (Or.inr (Nat.le_of_eq g56.symm)) all0)).trans K62 all0)
    refine own_fin (v := (some (.ref t62))) X63 (fun h => by rw [hrt] at h; cases h) hlk (fun fs hr => retR X63 hx hrt (by rfl) rfl rfl (hb hby d52_16_56) hr) (QQ := QCmp Z cs h0 n0) ?_ (by decide) (by decide)
    rw [e63]
    exact ⟨t62, _, 1, _, _, rfl, N63, f64, (Nat.le_trans (Nat.le_trans E56.1 K58.1) tg62), Vt62, Or.inr ⟨rfl, rfl, rfl, _, own_getm hr1, hbig⟩⟩

abbrev k52_15 := jdk_52_method_15_code
theorem d52_15_0 : Dk k52_15 0 (.iload_n 1) 1 := own_k
theorem d52_15_1 : Dk k52_15 1 (.aload_n 0) 1 := own_k
theorem d52_15_2 : Dk k52_15 2 .arraylength 1 := own_k
theorem d52_15_3 : Dk k52_15 3 .isub 1 := own_k
theorem d52_15_4 : Dk k52_15 4 (.bipush 31) 2 := own_k
theorem d52_15_6 : Dk k52_15 6 .iushr 1 := own_k
theorem d52_15_7 : Dk k52_15 7 .i2b 1 := own_k
theorem d52_15_8 : Dk k52_15 8 .ireturn 1 := own_k
theorem ef_rm_cfa (m : MethodId) (x0 : Addr) (x1 : Int32) : entryFrame m #[(.ref x0), (.int x1)] 2 = mkF m 0 #[.val (.ref x0), .val (.int x1)] [] := by
   first | (simp [entryFrame, mkF, argsToLocals, Value.category]; done) | rfl
set_option maxRecDepth 65536 in
set_option maxHeartbeats 40000000 in
theorem rm_cfa (l : Launch) (Z : State) (a0 : Array Value) (hw : ∀ d ∈ tables_1, d.before a0 Z = true) (ws : List Jvm.Cond) (t : Addr) (k : ClassId) (N2 : Int32) (vs : List Value) (cs : List Int32) (cd : Int32) (h0 : Heap) (n0 : Nat) (O0 : Old Z n0 h0) (V_t : Arv Z h0 t k .byte N2 vs (.int (0 : Int32))) (hC : StrChars.Road.CodA cs cd N2 vs) (h1 : 0 < cs.length) (h2 : cs.length ≤ 4000) :
    MetFree l (⟨"java/lang/StringUTF16", "coderFromArrayLen", "([BI)B"⟩ : MethodName) (head1 (Jvm.Cond.code (⟨"java/lang/StringUTF16", "coderFromArrayLen", "([BI)B"⟩ : MethodName) jdk_52_method_15_code 2 (some .byte) :: ws) ⟨0, 0, 0, 0⟩) (fun aA U => aA = #[(.ref t), (.int (Int32.ofNat cs.length))] ∧ Z.Warmed39 U.vm ∧ U.heap = h0) (fun _ _ _ _ _ => True) (fun _ U oO U' => ∃ rV rL, oO = .returned rV ∧ QPure (some (.int cd)) h0 n0 rV U'.heap rL ∧ FrameEnd U oO U' rL 0 0) := by
  refine MetFree.of_bodySF (plainFor_of_name pn_1) hisR ?_
  intro p e s m args below meth cC s₁ Bd hml0 hP hK
  obtain ⟨rfl, hZ, hh⟩ := hP
  have hx := Bd.exec
  have hby := Bd.bytes
  have hml : cC.maxLocals = 2 := hml0
  have hown : s.vm.findClass "java/lang/StringUTF16" = some m.cls := findClass_of_methodNamed Bd.named
  have hnm := (name_of_methodNamed Bd.named Bd.method).1
  have hrt := Bd.returns
  have hlk : meth.locks = false := Bd.notSynchronized
  have X0 : Stand p l e ⟨0, 0, 0, 0⟩ s m #[(.ref t), (.int (Int32.ofNat cs.length))] below meth cC s₁ [] 0 0 := Stand.of_body Bd
  have e0 : s₁.heap = h0 := by rw [← hh, Bd.state]; rfl
  have N0 := Fr.nil n0
  have Z0 : n0 ≤ h0.size := O0.1 ▸ O0.2.1
  show own_Go p e below (s₁.setTop (entryFrame m #[(.ref t), (.int (Int32.ofNat cs.length))] 2)) (fun oO U' => ∃ rV rL, oO = .returned rV ∧ QPure (some (.int cd)) h0 n0 rV U'.heap rL ∧ FrameEnd s oO U' rL 0 0)
  refine own_go (fun _ k => castTop (ef_rm_cfa m t _) k) ?_
  refine og (fun _ k => XS.iloadN X0.here hx rfl (hb hby d52_15_0) rfl k) ?_
  refine og (fun _ k => XS.aloadN X0.here hx rfl (hb hby d52_15_1) rfl rfl k) ?_
  obtain ⟨c65, A65, q65, S65, M65, Hs65, Gs65⟩ := id V_t
  refine og (fun _ k => X0.arraylength hx (by rw [e0]; exact A65.1) (State.isArrayOf_alike hZ.alike A65.2.1) (g := (mkF m 2 #[.val (.ref t), .val (.int (Int32.ofNat cs.length))] [(.ref t), (.int (Int32.ofNat cs.length))])) rfl rfl (hb hby d52_15_2) _ k) ?_
  rw [len_of S65 M65]
  refine og (fun _ k => XS.isub X0.here hx rfl (hb hby d52_15_3) rfl k) ?_
  try dsimp only [mkF]
  refine og (fun _ k => XS.bipush X0.here hx rfl (hb hby d52_15_4) k) ?_
  refine og (fun _ k => XS.iushr X0.here hx rfl (hb hby d52_15_6) rfl k) ?_
  refine og (fun _ k => XS.i2b X0.here hx rfl (hb hby d52_15_7) rfl k) ?_
  refine own_fin (v := (some (.int (nar .byte (((((Int32.ofNat cs.length) - N2).toUInt32 >>> ((31 : Int32) &&& 31).toUInt32).toInt32).toInt8.toInt32))))) X0 (fun h => by rw [hrt] at h; cases h) hlk (fun fs hr => retN X0 hx (t := .byte) hrt (by simp) (hb hby d52_15_8) hr) (QQ := QPure (some (.int cd)) h0 n0) ?_ (by decide) (by decide)
  rw [e0]
  exact ⟨congrArg (fun z => some (Value.int z)) ((own_nb _).trans (own_cod hC h1 h2)), N0, rfl⟩

theorem d42_149_27 : Dk k42_149 27 (.getstatic 38) 3 := own_k
theorem d42_149_30 : Dk k42_149 30 (.ifCond .eq 28) 3 := own_k
theorem d42_149_33 : Dk k42_149 33 (.aload_n 1) 1 := own_k
theorem d42_149_34 : Dk k42_149 34 (.iload_n 2) 1 := own_k
theorem d42_149_35 : Dk k42_149 35 (.iload_n 3) 1 := own_k
theorem d42_149_36 : Dk k42_149 36 (.invokestatic 177) 3 := own_k
theorem d42_149_39 : Dk k42_149 39 (.astore 5) 2 := own_k
theorem d42_149_41 : Dk k42_149 41 (.aload_n 0) 1 := own_k
theorem d42_149_42 : Dk k42_149 42 (.aload 5) 2 := own_k
theorem d42_149_44 : Dk k42_149 44 (.iload_n 3) 1 := own_k
theorem d42_149_45 : Dk k42_149 45 (.invokestatic 47) 3 := own_k
theorem pd_7 : parseMethodDescriptor "([BI)B" = some ⟨[(.array .byte), .int], some .byte⟩ := by decide +kernel
theorem d42_149_48 : Dk k42_149 48 (.putfield 15) 3 := own_k
theorem d42_149_51 : Dk k42_149 51 (.aload_n 0) 1 := own_k
theorem d42_149_52 : Dk k42_149 52 (.aload 5) 2 := own_k
theorem d42_149_54 : Dk k42_149 54 (.putfield 9) 3 := own_k
theorem d42_149_57 : Dk k42_149 57 .return_ 1 := own_k
theorem ef_rm_i4 (m : MethodId) (x0 : Addr) (x1 : Addr) (x2 : Int32) (x3 : Int32) : entryFrame m #[(.ref x0), (.ref x1), (.int x2), (.int x3), .null] 6 = mkF m 0 #[.val (.ref x0), .val (.ref x1), .val (.int x2), .val (.int x3), .val .null, .unset] [] := by
   first | (simp [entryFrame, mkF, argsToLocals, Value.category]; done) | rfl
set_option maxRecDepth 65536 in
set_option maxHeartbeats 40000000 in
theorem rm_i4 (l : Launch) (Z : State) (a0 : Array Value) (hw : ∀ d ∈ tables_1, d.before a0 Z = true) (ws : List Jvm.Cond) (x a : Addr) (ka : ClassId) (da : Value) (cs : List Int32) (G1 : Int32) (h0 : Heap) (n0 : Nat) (O0 : Old Z n0 h0) (E_x : Exa Z h0 x "java/lang/String") (F_v : Fld Z h0 x "java/lang/String" "value" "[B" .null) (F_c : Fld Z h0 x "java/lang/String" "coder" "B" (.int (0 : Int32))) (g_x : n0 ≤ x) (OA : Sta Z Z.heap "java/lang/StringUTF16" "$assertionsDisabled" "Z" (.int (1 : Int32))) (OH : Sta Z Z.heap "java/lang/StringUTF16" "HI_BYTE_SHIFT" "I" (.int (0 : Int32))) (OL : Sta Z Z.heap "java/lang/StringUTF16" "LO_BYTE_SHIFT" "I" (.int (8 : Int32))) (O2 : Sta Z Z.heap "java/lang/String" "COMPACT_STRINGS" "Z" (.int G1)) (P5 : ¬ (G1 = (0 : Int32))) (hok : own_Ok cs) (V_a : Arv Z h0 a ka .char (Int32.ofNat cs.length) (cs.map Value.int) da) (hcap : cs.length ≤ 4) (h1 : 0 < cs.length) :
    MetFree l (⟨"java/lang/String", "<init>", "([CIILjava/lang/Void;)V"⟩ : MethodName) (head1 (Jvm.Cond.code (⟨"java/lang/String", "<init>", "([CIILjava/lang/Void;)V"⟩ : MethodName) jdk_42_method_149_code 6 none :: ws) ⟨4, 2, 36, 57⟩) (fun aA U => aA = #[(.ref x), (.ref a), (.int (0 : Int32)), (.int (Int32.ofNat cs.length)), .null] ∧ Z.Warmed39 U.vm ∧ U.heap = h0) (fun _ _ _ _ _ => True) (fun _ U oO U' => ∃ rV rL, oO = .returned rV ∧ QSt Z x cs h0 n0 rV U'.heap rL ∧ FrameEnd U oO U' rL 2 36) := by
  refine MetFree.of_bodySF (plainFor_of_name pn_0) hisR ?_
  intro p e s m args below meth cC s₁ Bd hml0 hP hK
  obtain ⟨rfl, hZ, hh⟩ := hP
  have hx := Bd.exec
  have hby := Bd.bytes
  have hml : cC.maxLocals = 6 := hml0
  have hown : s.vm.findClass "java/lang/String" = some m.cls := findClass_of_methodNamed Bd.named
  have hnm := (name_of_methodNamed Bd.named Bd.method).1
  have hrt := Bd.returns
  have hlk : meth.locks = false := Bd.notSynchronized
  have X0 : Stand p l e ⟨4, 2, 36, 57⟩ s m #[(.ref x), (.ref a), (.int (0 : Int32)), (.int (Int32.ofNat cs.length)), .null] below meth cC s₁ [] 0 0 := Stand.of_body Bd
  have e0 : s₁.heap = h0 := by rw [← hh, Bd.state]; rfl
  have N0 := Fr.nil n0
  have Z0 : n0 ≤ h0.size := O0.1 ▸ O0.2.1
  show own_Go p e below (s₁.setTop (entryFrame m #[(.ref x), (.ref a), (.int (0 : Int32)), (.int (Int32.ofNat cs.length)), .null] 6)) (fun oO U' => ∃ rV rL, oO = .returned rV ∧ QSt Z x cs h0 n0 rV U'.heap rL ∧ FrameEnd s oO U' rL 2 36)
  refine own_go (fun _ k => castTop (ef_rm_i4 m x a _ _) k) ?_
  have hlen : cs.length ≤ 4000 := hok.2
  have hxa := Exa.neArv E_x V_a (tw hw 1 rfl)
  refine og (fun _ k => XS.aloadN X0.here hx rfl (hb hby d42_149_0) rfl rfl k) ?_
  obtain ⟨T66, X66, e66, st66⟩ := initO X0 hx hZ hown (tw hw 11 rfl) (tw hw 12 rfl) (tw hw 13 rfl) e0 (g := (mkF m 1 #[.val (.ref x), .val (.ref a), .val (.int (0 : Int32)), .val (.int (Int32.ofNat cs.length)), .val .null, .unset] [(.ref x)])) rfl (by rw [hml]; rfl) rfl (hb hby d42_149_1) (by decide) (W := 0) (by show 2 * 0 + _ ≤ _; exact Nat.le_of_eq rfl) (by decide)
  refine own_go st66 ?_
  refine og (fun _ k => XS.iloadN X66.here hx rfl (hb hby d42_149_4) rfl k) ?_
  refine og (fun _ k => XS.ifYes X66.here hx rfl (pc0 := 5) (pc' := 27) rfl (hb hby d42_149_5) rfl ((if0 _ _).trans (feq (own_ne_0 h1 hlen)).2) (by decide) (by decide) k) ?_
  try dsimp only [mkF]
  obtain ⟨T67, X67, e67, st67⟩ := getS2 X66 hx hZ hown (host := "") (Or.inl (tw hw 54 rfl)) Via.refl e66 (O2.ext O0.2) (g := (mkF m 27 #[.val (.ref x), .val (.ref a), .val (.int (0 : Int32)), .val (.int (Int32.ofNat cs.length)), .val .null, .unset] [])) rfl (hb hby d42_149_27)
  refine own_go st67 ?_
  refine og (fun _ k => XS.ifNo X67.here hx rfl (hb hby d42_149_30) rfl ((if0 _ _).trans (feq P5).1) k) ?_
  refine og (fun _ k => XS.aloadN X67.here hx rfl (hb hby d42_149_33) rfl rfl k) ?_
  refine og (fun _ k => XS.iloadN X67.here hx rfl (hb hby d42_149_34) rfl k) ?_
  refine og (fun _ k => XS.iloadN X67.here hx rfl (hb hby d42_149_35) rfl k) ?_
  try dsimp only [mkF]
  obtain ⟨v68, _, ⟨T68, L68, k68, n68⟩, -, X68, ⟨Lc68, hQ68, l68, y68, z68⟩, st68⟩ := Jvm.LawKit.callS X67 hx (y := (⟨"java/lang/StringUTF16", "compress", "([CII)[B"⟩ : MethodName)) hown (mvT hZ (tw hw 107 rfl)) (mvT hZ (tw hw 108 rfl)) (mvT hZ (tw hw 109 rfl)) (mvT hZ (tw hw 110 rfl)) (by decide) (backOf (W := 0) (rm_cmp3 l Z a0 hw [] a ka da cs h0 n0 O0 OA OH OL hok V_a hcap) hZ (tw hw 110 rfl) (tw hw 109 rfl) (by decide) (by decide)) (g := (mkF m 36 #[.val (.ref x), .val (.ref a), .val (.int (0 : Int32)), .val (.int (Int32.ofNat cs.length)), .val .null, .unset] [(.int (Int32.ofNat cs.length)), (.int (0 : Int32)), (.ref a)])) rfl (by rw [hml]; rfl) (argsL := [(.ref a), (.int (0 : Int32)), (.int (Int32.ofNat cs.length))]) (rest := []) (lenOf pd_5 rfl) rfl (by show 2 * 0 + _ ≤ _; exact Nat.le_of_eq rfl) (hb hby d42_149_36) (fun _ _ => ⟨rfl, e67, (by decide : 0 + 2 ≤ _), (by decide : 0 + 36 ≤ _)⟩)
  dsimp only [Pt.U, Pt.locs, Pt.cells, Pt.slots] at X68 l68 y68 z68 st68 hQ68
  subst l68 y68 z68
  refine own_go st68 ?_
  obtain ⟨t68, kt68, cd68, N268, vs68, rfl, Nq68, K68, tg68, Vt68, hC68⟩ := hQ68
  have N68 := Fr.app N0 Nq68
  refine og (fun _ k => XS.astore X68.here hx rfl (hb hby d42_149_39) rfl rfl (l' := #[.val (.ref x), .val (.ref a), .val (.int (0 : Int32)), .val (.int (Int32.ofNat cs.length)), .val .null, .val (.ref t68)]) rfl k) ?_
  refine og (fun _ k => XS.aloadN X68.here hx rfl (hb hby d42_149_41) rfl rfl k) ?_
  refine og (fun _ k => XS.aload X68.here hx rfl (hb hby d42_149_42) rfl rfl k) ?_
  refine og (fun _ k => XS.iloadN X68.here hx rfl (hb hby d42_149_44) rfl k) ?_
  try dsimp only [mkF]
  obtain ⟨v69, _, ⟨T69, L69, k69, n69⟩, -, X69, ⟨Lc69, hQ69, l69, y69, z69⟩, st69⟩ := Jvm.LawKit.callS X68 hx (y := (⟨"java/lang/StringUTF16", "coderFromArrayLen", "([BI)B"⟩ : MethodName)) hown (mvT hZ (tw hw 114 rfl)) (mvT hZ (tw hw 115 rfl)) (mvT hZ (tw hw 109 rfl)) (mvT hZ (tw hw 116 rfl)) (by decide) (backOf (W := 1) (rm_cfa l Z a0 hw [] t68 kt68 N268 vs68 cs cd68 T68.heap n0 (O0.keep K68 all0) Vt68 hC68 h1 hlen) hZ (tw hw 116 rfl) (tw hw 109 rfl) (by decide) (by decide)) (g := (mkF m 45 #[.val (.ref x), .val (.ref a), .val (.int (0 : Int32)), .val (.int (Int32.ofNat cs.length)), .val .null, .val (.ref t68)] [(.int (Int32.ofNat cs.length)), (.ref t68), (.ref x)])) rfl (by rw [hml]; rfl) (argsL := [(.ref t68), (.int (Int32.ofNat cs.length))]) (rest := [(.ref x)]) (lenOf pd_7 rfl) rfl (by show 2 * 0 + _ ≤ _; exact Nat.le_of_eq rfl) (hb hby d42_149_45) (fun _ _ => ⟨rfl, (rfl : T68.heap = T68.heap), (by decide : 2 + 0 ≤ _), (by decide : 36 + 0 ≤ _)⟩)
  dsimp only [Pt.U, Pt.locs, Pt.cells, Pt.slots] at X69 l69 y69 z69 st69 hQ69
  subst l69 y69 z69
  refine own_go st69 ?_
  obtain ⟨rfl, Nq69, e69⟩ := hQ69
  have N69 := Fr.app N68 Nq69
  obtain ⟨T70, h70, X70, e70, W70, st70⟩ := putFN X69 hx hZ hown (tw hw 21 rfl) Via.refl e69 (F_c.keep K68 nin0) (E_x.keep K68) (Or.inr ⟨(tw hw 17 rfl), rfl, hnm⟩) (tw hw 1 rfl) (ty := .byte) (v' := (.int (nar .byte cd68))) (by decide) rfl (fits_nar_byte _) (g := (mkF m 48 #[.val (.ref x), .val (.ref a), .val (.int (0 : Int32)), .val (.int (Int32.ofNat cs.length)), .val .null, .val (.ref t68)] [(.int cd68), (.ref x)])) rfl rfl (hb hby d42_149_48)
  refine own_go st70 ?_
  have N70 := Fr.snoc X70 N69 g_x
  have Fw70 := (F_c.keep K68 nin0).same W70
  refine og (fun _ k => XS.aloadN X70.here hx rfl (hb hby d42_149_51) rfl rfl k) ?_
  refine og (fun _ k => XS.aload X70.here hx rfl (hb hby d42_149_52) rfl rfl k) ?_
  have f71 := ((F_v.keep K68 nin0).other W70 (Or.inr (slot_ne (Or.inr (tw hw 16 rfl)) (Or.inr (tw hw 17 rfl)) (by decide) (t := (.array .byte)) (t' := .byte) (by decide) (by decide))))
  obtain ⟨T72, h72, X72, e72, W72, st72⟩ := putF X70 hx hZ hown (host := "") (Or.inl (tw hw 20 rfl)) Via.refl e70 f71 ((E_x.keep K68).wr W70) (Or.inr ⟨(tw hw 16 rfl), rfl, hnm⟩) (tw hw 1 rfl) (ty := (.array .byte)) (by decide) rfl rfl (g := (mkF m 54 #[.val (.ref x), .val (.ref a), .val (.int (0 : Int32)), .val (.int (Int32.ofNat cs.length)), .val .null, .val (.ref t68)] [(.ref t68), (.ref x)])) rfl rfl (hb hby d42_149_54)
  refine own_go st72 ?_
  have N72 := Fr.snoc X72 N70 g_x
  have Fw72 := f71.same W72
  try dsimp only [mkF]
  have f73 := (Fw70.other W72 (Or.inr (slot_ne (Or.inr (tw hw 17 rfl)) (Or.inr (tw hw 16 rfl)) (by decide) (t := .byte) (t' := (.array .byte)) (by decide) (by decide))))
  have f74 := ((((Keep.refl h0 [x]).trans K68 all0).wr W70 (Or.inl (List.mem_of_getElem? (i := 0) rfl))).wr W72 (Or.inl (List.mem_of_getElem? (i := 0) rfl)))
  have ne75 : x ≠ t68 := Nat.ne_of_lt (Nat.lt_of_lt_of_le E_x.lt tg68)
  have f76 := ((Vt68.other W70 (Ne.symm ne75)).other W72 (Ne.symm ne75))
  refine own_fin (v := none) X72 (fun _ => rfl) hlk (fun fs hr => X72.returnOut hx hrt (hb hby d42_149_57) hr) (QQ := QSt Z x cs h0 n0) ?_ (by decide) (by decide)
  rw [e72]
  exact ⟨t68, _, _, _, _, rfl, N72, f74, Fw72, (own_ncd hC68 ▸ f73), f76, hC68⟩

theorem ef_rm_i1 (m : MethodId) (x0 : Addr) (x1 : Addr) : entryFrame m #[(.ref x0), (.ref x1)] 2 = mkF m 0 #[.val (.ref x0), .val (.ref x1)] [] := by
   first | (simp [entryFrame, mkF, argsToLocals, Value.category]; done) | rfl
set_option maxRecDepth 65536 in
set_option maxHeartbeats 40000000 in
theorem rm_i1 (l : Launch) (Z : State) (a0 : Array Value) (hw : ∀ d ∈ tables_1, d.before a0 Z = true) (ws : List Jvm.Cond) (x a : Addr) (ka : ClassId) (da : Value) (cs : List Int32) (G1 : Int32) (h0 : Heap) (n0 : Nat) (O0 : Old Z n0 h0) (E_x : Exa Z h0 x "java/lang/String") (F_v : Fld Z h0 x "java/lang/String" "value" "[B" .null) (F_c : Fld Z h0 x "java/lang/String" "coder" "B" (.int (0 : Int32))) (g_x : n0 ≤ x) (OA : Sta Z Z.heap "java/lang/StringUTF16" "$assertionsDisabled" "Z" (.int (1 : Int32))) (OH : Sta Z Z.heap "java/lang/StringUTF16" "HI_BYTE_SHIFT" "I" (.int (0 : Int32))) (OL : Sta Z Z.heap "java/lang/StringUTF16" "LO_BYTE_SHIFT" "I" (.int (8 : Int32))) (O2 : Sta Z Z.heap "java/lang/String" "COMPACT_STRINGS" "Z" (.int G1)) (P5 : ¬ (G1 = (0 : Int32))) (hok : own_Ok cs) (V_a : Arv Z h0 a ka .char (Int32.ofNat cs.length) (cs.map Value.int) da) (hcap : cs.length ≤ 4) (h1 : 0 < cs.length) :
    MetFree l (⟨"java/lang/String", "<init>", "([C)V"⟩ : MethodName) (head1 (Jvm.Cond.code (⟨"java/lang/String", "<init>", "([C)V"⟩ : MethodName) jdk_42_method_3_code 2 none :: ws) ⟨5, 2, 36, 74⟩) (fun aA U => aA = #[(.ref x), (.ref a)] ∧ Z.Warmed39 U.vm ∧ U.heap = h0) (fun _ _ _ _ _ => True) (fun _ U oO U' => ∃ rV rL, oO = .returned rV ∧ QSt Z x cs h0 n0 rV U'.heap rL ∧ FrameEnd U oO U' rL 2 36) := by
  refine MetFree.of_bodySF (plainFor_of_name pn_0) hisR ?_
  intro p e s m args below meth cC s₁ Bd hml0 hP hK
  obtain ⟨rfl, hZ, hh⟩ := hP
  have hx := Bd.exec
  have hby := Bd.bytes
  have hml : cC.maxLocals = 2 := hml0
  have hown : s.vm.findClass "java/lang/String" = some m.cls := findClass_of_methodNamed Bd.named
  have hnm := (name_of_methodNamed Bd.named Bd.method).1
  have hrt := Bd.returns
  have hlk : meth.locks = false := Bd.notSynchronized
  have X0 : Stand p l e ⟨5, 2, 36, 74⟩ s m #[(.ref x), (.ref a)] below meth cC s₁ [] 0 0 := Stand.of_body Bd
  have e0 : s₁.heap = h0 := by rw [← hh, Bd.state]; rfl
  have N0 := Fr.nil n0
  have Z0 : n0 ≤ h0.size := O0.1 ▸ O0.2.1
  show own_Go p e below (s₁.setTop (entryFrame m #[(.ref x), (.ref a)] 2)) (fun oO U' => ∃ rV rL, oO = .returned rV ∧ QSt Z x cs h0 n0 rV U'.heap rL ∧ FrameEnd s oO U' rL 2 36)
  refine own_go (fun _ k => castTop (ef_rm_i1 m x a) k) ?_
  have hlen : cs.length ≤ 4000 := hok.2
  have hxa := Exa.neArv E_x V_a (tw hw 1 rfl)
  refine og (fun _ k => XS.aloadN X0.here hx rfl (hb hby d42_3_0) rfl rfl k) ?_
  refine og (fun _ k => XS.aloadN X0.here hx rfl (hb hby d42_3_1) rfl rfl k) ?_
  refine og (fun _ k => XS.iconst X0.here hx rfl (hb hby d42_3_2) k) ?_
  refine og (fun _ k => XS.aloadN X0.here hx rfl (hb hby d42_3_3) rfl rfl k) ?_
  try dsimp only [mkF]
  obtain ⟨c77, A77, q77, S77, M77, Hs77, Gs77⟩ := id V_a
  refine og (fun _ k => X0.arraylength hx (by rw [e0]; exact A77.1) (State.isArrayOf_alike hZ.alike A77.2.1) (g := (mkF m 4 #[.val (.ref x), .val (.ref a)] [(.ref a), (.int (0 : Int32)), (.ref a), (.ref x)])) rfl rfl (hb hby d42_3_4) _ k) ?_
  rw [len_of S77 M77]
  refine og (fun _ k => XS.aconstNull X0.here hx rfl (hb hby d42_3_5) k) ?_
  obtain ⟨v78, _, ⟨T78, L78, k78, n78⟩, -, X78, ⟨Lc78, hQ78, l78, y78, z78⟩, st78⟩ := X0.specialBack hx (y := (⟨"java/lang/String", "<init>", "([CIILjava/lang/Void;)V"⟩ : MethodName)) rfl hown (mvT hZ (tw hw 7 rfl)) (mvT hZ (tw hw 8 rfl)) (mvT hZ (tw hw 10 rfl)) (by decide) (backOf (W := 0) (rm_i4 l Z a0 hw [] x a ka da cs G1 h0 n0 O0 E_x F_v F_c g_x OA OH OL O2 P5 hok V_a hcap h1) hZ (tw hw 10 rfl) (tw hw 2 rfl) (by decide) (by decide)) (g := (mkF m 6 #[.val (.ref x), .val (.ref a)] [.null, (.int (Int32.ofNat cs.length)), (.int (0 : Int32)), (.ref a), (.ref x)])) rfl (by rw [hml]; rfl) (Steps.refl _) (a := x) (argsL := [(.ref a), (.int (0 : Int32)), (.int (Int32.ofNat cs.length)), .null]) (rest := []) (lenOf pd_0 rfl) rfl (by show 2 * 0 + _ ≤ _; exact Nat.le_of_eq rfl) (hb hby d42_3_6) (fun _ _ => ⟨rfl, e0, (by decide : 0 + 2 ≤ _), (by decide : 0 + 36 ≤ _)⟩)
  dsimp only [Pt.U, Pt.locs, Pt.cells, Pt.slots] at X78 l78 y78 z78 st78 hQ78
  subst l78 y78 z78
  refine own_gos st78 ?_
  obtain ⟨t78, kt78, cd78, N278, vs78, rfl, Nq78, K78, Fv78, Fc78, Vt78, hC78⟩ := hQ78
  have N78 := Fr.app N0 Nq78
  have f79 := ((Keep.refl h0 [x]).trans K78 (allS (Or.inl (List.mem_of_getElem? (i := 0) rfl)) all0))
  refine own_fin (v := none) X78 (fun _ => rfl) hlk (fun fs hr => X78.returnOut hx hrt (hb hby d42_3_9) hr) (QQ := QSt Z x cs h0 n0) ?_ (by decide) (by decide)
  exact ⟨t78, _, _, _, _, rfl, N78, f79, Fv78, Fc78, Vt78, hC78⟩

abbrev k68_2 := jdk_68_method_2_code
theorem d68_2_0 : Dk k68_2 0 (.aload_n 0) 1 := own_k
theorem d68_2_1 : Dk k68_2 1 (.invokespecial 3) 3 := own_k
theorem d68_2_4 : Dk k68_2 4 (.getstatic 18) 3 := own_k
theorem d68_2_7 : Dk k68_2 7 (.ifCond .eq 18) 3 := own_k
theorem d68_2_10 : Dk k68_2 10 (.aload_n 0) 1 := own_k
theorem d68_2_11 : Dk k68_2 11 (.iload_n 1) 1 := own_k
theorem d68_2_12 : Dk k68_2 12 (.newarray .byte) 2 := own_k
theorem d68_2_14 : Dk k68_2 14 (.putfield 15) 3 := own_k
theorem d68_2_17 : Dk k68_2 17 (.aload_n 0) 1 := own_k
theorem d68_2_18 : Dk k68_2 18 (.iconst 0) 1 := own_k
theorem d68_2_19 : Dk k68_2 19 (.putfield 22) 3 := own_k
theorem d68_2_22 : Dk k68_2 22 (.goto 16) 3 := own_k
theorem d68_2_38 : Dk k68_2 38 .return_ 1 := own_k
theorem pn_2 : plainName "java/lang/AbstractStringBuilder" = true := by first | (simp [plainName, overriddenIn]; done) | decide +kernel
theorem ef_rm_asb (m : MethodId) (x0 : Addr) (x1 : Int32) : entryFrame m #[(.ref x0), (.int x1)] 2 = mkF m 0 #[.val (.ref x0), .val (.int x1)] [] := by
   first | (simp [entryFrame, mkF, argsToLocals, Value.category]; done) | rfl
set_option maxRecDepth 65536 in
set_option maxHeartbeats 40000000 in
theorem rm_asb (l : Launch) (Z : State) (a0 : Array Value) (hw : ∀ d ∈ tables_1, d.before a0 Z = true) (ws : List Jvm.Cond) (b : Addr) (G1 : Int32) (h0 : Heap) (n0 : Nat) (O0 : Old Z n0 h0) (E_b : Exa Z h0 b "java/lang/StringBuilder") (Fv_b : Fld Z h0 b "java/lang/AbstractStringBuilder" "value" "[B" .null) (Fc_b : Fld Z h0 b "java/lang/AbstractStringBuilder" "coder" "B" (.int (0 : Int32))) (Fn_b : Fld Z h0 b "java/lang/AbstractStringBuilder" "count" "I" (.int (0 : Int32))) (Fm_b : Fld Z h0 b "java/lang/AbstractStringBuilder" "maybeLatin1" "Z" (.int (0 : Int32))) (g_b : n0 ≤ b) (O2 : Sta Z Z.heap "java/lang/String" "COMPACT_STRINGS" "Z" (.int G1)) (P5 : ¬ (G1 = (0 : Int32))) :
    MetFree l (⟨"java/lang/AbstractStringBuilder", "<init>", "(I)V"⟩ : MethodName) (head1 (Jvm.Cond.code (⟨"java/lang/AbstractStringBuilder", "<init>", "(I)V"⟩ : MethodName) jdk_68_method_2_code 2 none :: ws) ⟨1, 1, 16, 12⟩) (fun aA U => aA = #[(.ref b), (.int (16 : Int32))] ∧ Z.Warmed39 U.vm ∧ U.heap = h0) (fun _ _ _ _ _ => True) (fun _ U oO U' => ∃ rV rL, oO = .returned rV ∧ QNewSB Z b h0 n0 rV U'.heap rL ∧ FrameEnd U oO U' rL 1 16) := by
  refine MetFree.of_bodySF (plainFor_of_name pn_2) hisR ?_
  intro p e s m args below meth cC s₁ Bd hml0 hP hK
  obtain ⟨rfl, hZ, hh⟩ := hP
  have hx := Bd.exec
  have hby := Bd.bytes
  have hml : cC.maxLocals = 2 := hml0
  have hown : s.vm.findClass "java/lang/AbstractStringBuilder" = some m.cls := findClass_of_methodNamed Bd.named
  have hnm := (name_of_methodNamed Bd.named Bd.method).1
  have hrt := Bd.returns
  have hlk : meth.locks = false := Bd.notSynchronized
  have X0 : Stand p l e ⟨1, 1, 16, 12⟩ s m #[(.ref b), (.int (16 : Int32))] below meth cC s₁ [] 0 0 := Stand.of_body Bd
  have e0 : s₁.heap = h0 := by rw [← hh, Bd.state]; rfl
  have N0 := Fr.nil n0
  have Z0 : n0 ≤ h0.size := O0.1 ▸ O0.2.1
  show own_Go p e below (s₁.setTop (entryFrame m #[(.ref b), (.int (16 : Int32))] 2)) (fun oO U' => ∃ rV rL, oO = .returned rV ∧ QNewSB Z b h0 n0 rV U'.heap rL ∧ FrameEnd s oO U' rL 1 16)
  refine own_go (fun _ k => castTop (ef_rm_asb m b _) k) ?_
  refine og (fun _ k => XS.aloadN X0.here hx rfl (hb hby d68_2_0) rfl rfl k) ?_
  obtain ⟨T80, X80, e80, st80⟩ := initO X0 hx hZ hown (tw hw 38 rfl) (tw hw 12 rfl) (tw hw 13 rfl) e0 (g := (mkF m 1 #[.val (.ref b), .val (.int (16 : Int32))] [(.ref b)])) rfl (by rw [hml]; rfl) rfl (hb hby d68_2_1) (by decide) (W := 0) (by show 2 * 0 + _ ≤ _; exact Nat.le_of_eq rfl) (by decide)
  refine own_go st80 ?_
  obtain ⟨T81, X81, e81, st81⟩ := getS2 X80 hx hZ hown (host := "") (Or.inl (tw hw 39 rfl)) Via.refl e80 (O2.ext O0.2) (g := (mkF m 4 #[.val (.ref b), .val (.int (16 : Int32))] [])) rfl (hb hby d68_2_4)
  refine own_go st81 ?_
  refine og (fun _ k => XS.ifNo X81.here hx rfl (hb hby d68_2_7) rfl ((if0 _ _).trans (feq P5).1) k) ?_
  try dsimp only [mkF]
  refine og (fun _ k => XS.aloadN X81.here hx rfl (hb hby d68_2_10) rfl rfl k) ?_
  refine og (fun _ k => XS.iloadN X81.here hx rfl (hb hby d68_2_11) rfl k) ?_
  obtain ⟨T82, h82, k82, X82, e82, E82, A82, st82⟩ := newP X81 hx hZ (tw hw 15 rfl) e81 (g := (mkF m 12 #[.val (.ref b), .val (.int (16 : Int32))] [(.int (16 : Int32)), (.ref b)])) rfl (hb hby d68_2_12) rfl (by decide) (cap := 16) (by decide) (by decide) (by decide) (by decide)
  obtain ⟨b82, g82⟩ : ∃ z, z = h0.size := ⟨_, rfl⟩
  rw [← g82] at A82 st82
  refine own_go st82 ?_
  have V82 : Arv Z h82 b82 k82 .byte (16 : Int32) [(.int (0 : Int32)), (.int (0 : Int32)), (.int (0 : Int32)), (.int (0 : Int32)), (.int (0 : Int32)), (.int (0 : Int32)), (.int (0 : Int32)), (.int (0 : Int32)), (.int (0 : Int32)), (.int (0 : Int32)), (.int (0 : Int32)), (.int (0 : Int32)), (.int (0 : Int32)), (.int (0 : Int32)), (.int (0 : Int32)), (.int (0 : Int32))] (.int (0 : Int32)) := (Arv.new A82 (by decide)).pad (pad_rep [] (.int (0 : Int32)) 16)
  obtain ⟨T83, h83, X83, e83, W83, st83⟩ := putF X82 hx hZ hown (host := "") (Or.inl (tw hw 40 rfl)) Via.refl e82 (Fv_b.ext E82) (E_b.ext E82) (Or.inl (tw hw 41 rfl)) (tw hw 27 rfl) (ty := (.array .byte)) (by decide) rfl rfl (g := (mkF m 14 #[.val (.ref b), .val (.int (16 : Int32))] [(.ref b82), (.ref b)])) rfl rfl (hb hby d68_2_14)
  refine own_go st83 ?_
  have N83 := Fr.snoc X83 N0 g_b
  have Fw83 := (Fv_b.ext E82).same W83
  refine og (fun _ k => XS.aloadN X83.here hx rfl (hb hby d68_2_17) rfl rfl k) ?_
  try dsimp only [mkF]
  refine og (fun _ k => XS.iconst X83.here hx rfl (hb hby d68_2_18) k) ?_
  have f84 := ((Fc_b.ext E82).other W83 (Or.inr (slot_ne (Or.inl (tw hw 43 rfl)) (Or.inl (tw hw 41 rfl)) (by decide) (t := .byte) (t' := (.array .byte)) (by decide) (by decide))))
  obtain ⟨T85, h85, X85, e85, W85, st85⟩ := putFN X83 hx hZ hown (tw hw 42 rfl) Via.refl e83 f84 ((E_b.ext E82).wr W83) (Or.inl (tw hw 43 rfl)) (tw hw 27 rfl) (ty := .byte) (v' := (.int (0 : Int32))) (by decide) rfl rfl (g := (mkF m 19 #[.val (.ref b), .val (.int (16 : Int32))] [(.int (0 : Int32)), (.ref b)])) rfl rfl (hb hby d68_2_19)
  refine own_go st85 ?_
  have N85 := Fr.snoc X85 N83 g_b
  have Fw85 := f84.same W85
  refine og (fun _ k => XS.goto X85.here hx rfl (pc0 := 22) (pc' := 38) rfl (hb hby d68_2_22) (by decide) (by decide) k) ?_
  have f86 := ((((Keep.refl h0 [b]).ext E82).wr W83 (Or.inl (List.mem_of_getElem? (i := 0) rfl))).wr W85 (Or.inl (List.mem_of_getElem? (i := 0) rfl)))
  have f87 := (Fw83.other W85 (Or.inr (slot_ne (Or.inl (tw hw 41 rfl)) (Or.inl (tw hw 43 rfl)) (by decide) (t := (.array .byte)) (t' := .byte) (by decide) (by decide))))
  have f88 := (((Fn_b.ext E82).other W83 (Or.inr (slot_ne (Or.inl (tw hw 82 rfl)) (Or.inl (tw hw 41 rfl)) (by decide) (t := .int) (t' := (.array .byte)) (by decide) (by decide)))).other W85 (Or.inr (slot_ne (Or.inl (tw hw 82 rfl)) (Or.inl (tw hw 43 rfl)) (by decide) (t := .int) (t' := .byte) (by decide) (by decide))))
  have f89 := (((Fm_b.ext E82).other W83 (Or.inr (slot_ne (Or.inl (tw hw 258 rfl)) (Or.inl (tw hw 41 rfl)) (by decide) (t := .boolean) (t' := (.array .byte)) (by decide) (by decide)))).other W85 (Or.inr (slot_ne (Or.inl (tw hw 258 rfl)) (Or.inl (tw hw 43 rfl)) (by decide) (t := .boolean) (t' := .byte) (by decide) (by decide))))
  have ne90 : b ≠ b82 := Nat.ne_of_lt (Nat.lt_of_lt_of_le E_b.lt (Nat.le_of_eq g82.symm))
  have f91 := ((V82.other W83 (Ne.symm ne90)).other W85 (Ne.symm ne90))
  refine own_fin (v := none) X85 (fun _ => rfl) hlk (fun fs hr => X85.returnOut hx hrt (hb hby d68_2_38) hr) (QQ := QNewSB Z b h0 n0) ?_ (by decide) (by decide)
  rw [e85]
  exact ⟨b82, _, rfl, N85, f86, (Nat.le_of_eq g82.symm), f87, Fw85, f88, f89, f91⟩

abbrev k67_1 := jdk_67_method_1_code
theorem d67_1_0 : Dk k67_1 0 (.aload_n 0) 1 := own_k
theorem d67_1_1 : Dk k67_1 1 (.bipush 16) 2 := own_k
theorem d67_1_3 : Dk k67_1 3 (.invokespecial 1) 3 := own_k
theorem pd_8 : parseMethodDescriptor "(I)V" = some ⟨[.int], none⟩ := by decide +kernel
theorem d67_1_6 : Dk k67_1 6 .return_ 1 := own_k
theorem pn_3 : plainName "java/lang/StringBuilder" = true := by first | (simp [plainName, overriddenIn]; done) | decide +kernel
theorem ef_rm_sb (m : MethodId) (x0 : Addr) : entryFrame m #[(.ref x0)] 1 = mkF m 0 #[.val (.ref x0)] [] := by
   first | (simp [entryFrame, mkF, argsToLocals, Value.category]; done) | rfl
set_option maxRecDepth 65536 in
set_option maxHeartbeats 40000000 in
theorem rm_sb (l : Launch) (Z : State) (a0 : Array Value) (hw : ∀ d ∈ tables_1, d.before a0 Z = true) (ws : List Jvm.Cond) (b : Addr) (G1 : Int32) (h0 : Heap) (n0 : Nat) (O0 : Old Z n0 h0) (E_b : Exa Z h0 b "java/lang/StringBuilder") (Fv_b : Fld Z h0 b "java/lang/AbstractStringBuilder" "value" "[B" .null) (Fc_b : Fld Z h0 b "java/lang/AbstractStringBuilder" "coder" "B" (.int (0 : Int32))) (Fn_b : Fld Z h0 b "java/lang/AbstractStringBuilder" "count" "I" (.int (0 : Int32))) (Fm_b : Fld Z h0 b "java/lang/AbstractStringBuilder" "maybeLatin1" "Z" (.int (0 : Int32))) (g_b : n0 ≤ b) (O2 : Sta Z Z.heap "java/lang/String" "COMPACT_STRINGS" "Z" (.int G1)) (P5 : ¬ (G1 = (0 : Int32))) :
    MetFree l (⟨"java/lang/StringBuilder", "<init>", "()V"⟩ : MethodName) (head1 (Jvm.Cond.code (⟨"java/lang/StringBuilder", "<init>", "()V"⟩ : MethodName) jdk_67_method_1_code 1 none :: ws) ⟨2, 1, 16, 25⟩) (fun aA U => aA = #[(.ref b)] ∧ Z.Warmed39 U.vm ∧ U.heap = h0) (fun _ _ _ _ _ => True) (fun _ U oO U' => ∃ rV rL, oO = .returned rV ∧ QNewSB Z b h0 n0 rV U'.heap rL ∧ FrameEnd U oO U' rL 1 16) := by
  refine MetFree.of_bodySF (plainFor_of_name pn_3) hisR ?_
  intro p e s m args below meth cC s₁ Bd hml0 hP hK
  obtain ⟨rfl, hZ, hh⟩ := hP
  have hx := Bd.exec
  have hby := Bd.bytes
  have hml : cC.maxLocals = 1 := hml0
  have hown : s.vm.findClass "java/lang/StringBuilder" = some m.cls := findClass_of_methodNamed Bd.named
  have hnm := (name_of_methodNamed Bd.named Bd.method).1
  have hrt := Bd.returns
  have hlk : meth.locks = false := Bd.notSynchronized
  have X0 : Stand p l e ⟨2, 1, 16, 25⟩ s m #[(.ref b)] below meth cC s₁ [] 0 0 := Stand.of_body Bd
  have e0 : s₁.heap = h0 := by rw [← hh, Bd.state]; rfl
  have N0 := Fr.nil n0
  have Z0 : n0 ≤ h0.size := O0.1 ▸ O0.2.1
  show own_Go p e below (s₁.setTop (entryFrame m #[(.ref b)] 1)) (fun oO U' => ∃ rV rL, oO = .returned rV ∧ QNewSB Z b h0 n0 rV U'.heap rL ∧ FrameEnd s oO U' rL 1 16)
  refine own_go (fun _ k => castTop (ef_rm_sb m b) k) ?_
  refine og (fun _ k => XS.aloadN X0.here hx rfl (hb hby d67_1_0) rfl rfl k) ?_
  refine og (fun _ k => XS.bipush X0.here hx rfl (hb hby d67_1_1) k) ?_
  obtain ⟨v92, _, ⟨T92, L92, k92, n92⟩, -, X92, ⟨Lc92, hQ92, l92, y92, z92⟩, st92⟩ := X0.specialBack hx (y := (⟨"java/lang/AbstractStringBuilder", "<init>", "(I)V"⟩ : MethodName)) rfl hown (mvT hZ (tw hw 32 rfl)) (mvT hZ (tw hw 33 rfl)) (mvT hZ (tw hw 37 rfl)) (by decide) (backOf (W := 0) (rm_asb l Z a0 hw [] b G1 h0 n0 O0 E_b Fv_b Fc_b Fn_b Fm_b g_b O2 P5) hZ (tw hw 37 rfl) (tw hw 36 rfl) (by decide) (by decide)) (g := (mkF m 3 #[.val (.ref b)] [(.int (16 : Int32)), (.ref b)])) rfl (by rw [hml]; rfl) (Steps.refl _) (a := b) (argsL := [(.int (16 : Int32))]) (rest := []) (lenOf pd_8 rfl) rfl (by show 2 * 0 + _ ≤ _; exact Nat.le_of_eq rfl) (hb hby d67_1_3) (fun _ _ => ⟨rfl, e0, (by decide : 0 + 1 ≤ _), (by decide : 0 + 16 ≤ _)⟩)
  dsimp only [Pt.U, Pt.locs, Pt.cells, Pt.slots] at X92 l92 y92 z92 st92 hQ92
  subst l92 y92 z92
  refine own_gos st92 ?_
  obtain ⟨v92, kv92, rfl, Nq92, K92, vg92, Fv92, Fc92, Fn92, Fm92, Vv92⟩ := hQ92
  have N92 := Fr.app N0 Nq92
  have f93 := ((Keep.refl h0 [b]).trans K92 (allS (Or.inl (List.mem_of_getElem? (i := 0) rfl)) all0))
  refine own_fin (v := none) X92 (fun _ => rfl) hlk (fun fs hr => X92.returnOut hx hrt (hb hby d67_1_6) hr) (QQ := QNewSB Z b h0 n0) ?_ (by decide) (by decide)
  exact ⟨v92, _, rfl, N92, f93, vg92, Fv92, Fc92, Fn92, Fm92, Vv92⟩

abbrev k68_68 := jdk_68_method_68_code
theorem d68_68_0 : Dk k68_68 0 (.getstatic 18) 3 := own_k
theorem d68_68_3 : Dk k68_68 3 (.ifCond .eq 14) 3 := own_k
theorem d68_68_6 : Dk k68_68 6 (.aload_n 0) 1 := own_k
theorem d68_68_7 : Dk k68_68 7 (.getfield 22) 3 := own_k
theorem d68_68_10 : Dk k68_68 10 (.ifCond .ne 7) 3 := own_k
theorem d68_68_13 : Dk k68_68 13 (.iconst 1) 1 := own_k
theorem d68_68_14 : Dk k68_68 14 (.goto 4) 3 := own_k
theorem d68_68_18 : Dk k68_68 18 .ireturn 1 := own_k
theorem ef_rm_bl0 (m : MethodId) (x0 : Addr) : entryFrame m #[(.ref x0)] 1 = mkF m 0 #[.val (.ref x0)] [] := by
   first | (simp [entryFrame, mkF, argsToLocals, Value.category]; done) | rfl
set_option maxRecDepth 65536 in
set_option maxHeartbeats 40000000 in
theorem rm_bl0 (l : Launch) (Z : State) (a0 : Array Value) (hw : ∀ d ∈ tables_1, d.before a0 Z = true) (ws : List Jvm.Cond) (b : Addr) (G1 : Int32) (h0 : Heap) (n0 : Nat) (O0 : Old Z n0 h0) (E_b : Exa Z h0 b "java/lang/StringBuilder") (F_c : Fld Z h0 b "java/lang/AbstractStringBuilder" "coder" "B" (.int (0 : Int32))) (O2 : Sta Z Z.heap "java/lang/String" "COMPACT_STRINGS" "Z" (.int G1)) (P5 : ¬ (G1 = (0 : Int32))) :
    MetFree l (⟨"java/lang/AbstractStringBuilder", "isLatin1", "()Z"⟩ : MethodName) (head1 (Jvm.Cond.code (⟨"java/lang/AbstractStringBuilder", "isLatin1", "()Z"⟩ : MethodName) jdk_68_method_68_code 1 (some .boolean) :: ws) ⟨0, 0, 0, 0⟩) (fun aA U => aA = #[(.ref b)] ∧ Z.Warmed39 U.vm ∧ U.heap = h0) (fun _ _ _ _ _ => True) (fun _ U oO U' => ∃ rV rL, oO = .returned rV ∧ QPure (some (.int (1 : Int32))) h0 n0 rV U'.heap rL ∧ FrameEnd U oO U' rL 0 0) := by
  refine MetFree.of_bodySF (plainFor_of_name pn_2) hisR ?_
  intro p e s m args below meth cC s₁ Bd hml0 hP hK
  obtain ⟨rfl, hZ, hh⟩ := hP
  have hx := Bd.exec
  have hby := Bd.bytes
  have hml : cC.maxLocals = 1 := hml0
  have hown : s.vm.findClass "java/lang/AbstractStringBuilder" = some m.cls := findClass_of_methodNamed Bd.named
  have hnm := (name_of_methodNamed Bd.named Bd.method).1
  have hrt := Bd.returns
  have hlk : meth.locks = false := Bd.notSynchronized
  have X0 : Stand p l e ⟨0, 0, 0, 0⟩ s m #[(.ref b)] below meth cC s₁ [] 0 0 := Stand.of_body Bd
  have e0 : s₁.heap = h0 := by rw [← hh, Bd.state]; rfl
  have N0 := Fr.nil n0
  have Z0 : n0 ≤ h0.size := O0.1 ▸ O0.2.1
  show own_Go p e below (s₁.setTop (entryFrame m #[(.ref b)] 1)) (fun oO U' => ∃ rV rL, oO = .returned rV ∧ QPure (some (.int (1 : Int32))) h0 n0 rV U'.heap rL ∧ FrameEnd s oO U' rL 0 0)
  refine own_go (fun _ k => castTop (ef_rm_bl0 m b) k) ?_
  obtain ⟨T94, X94, e94, st94⟩ := getS2 X0 hx hZ hown (host := "") (Or.inl (tw hw 39 rfl)) Via.refl e0 (O2.ext O0.2) (g := (mkF m 0 #[.val (.ref b)] [])) rfl (hb hby d68_68_0)
  refine own_go st94 ?_
  refine og (fun _ k => XS.ifNo X94.here hx rfl (hb hby d68_68_3) rfl ((if0 _ _).trans (feq P5).1) k) ?_
  refine og (fun _ k => XS.aloadN X94.here hx rfl (hb hby d68_68_6) rfl rfl k) ?_
  obtain ⟨T95, X95, e95, st95⟩ := getF X94 hx hZ hown (host := "") (Or.inl (tw hw 42 rfl)) Via.refl e94 F_c (g := (mkF m 7 #[.val (.ref b)] [(.ref b)])) rfl rfl (hb hby d68_68_7)
  refine own_go st95 ?_
  try dsimp only [mkF]
  refine og (fun _ k => XS.ifNo X95.here hx rfl (hb hby d68_68_10) rfl ((if0 _ _).trans (teq (by decide : (0 : Int32) = (0 : Int32))).2) k) ?_
  refine og (fun _ k => XS.iconst X95.here hx rfl (hb hby d68_68_13) k) ?_
  refine og (fun _ k => XS.goto X95.here hx rfl (pc0 := 14) (pc' := 18) rfl (hb hby d68_68_14) (by decide) (by decide) k) ?_
  refine own_fin (v := (some (.int (nar .boolean (1 : Int32))))) X95 (fun h => by rw [hrt] at h; cases h) hlk (fun fs hr => retN X95 hx (t := .boolean) hrt (by simp) (hb hby d68_68_18) hr) (QQ := QPure (some (.int (1 : Int32))) h0 n0) ?_ (by decide) (by decide)
  rw [e95]
  exact ⟨rfl, N0, rfl⟩

theorem d68_68_17 : Dk k68_68 17 (.iconst 0) 1 := own_k
theorem ef_rm_bl1 (m : MethodId) (x0 : Addr) : entryFrame m #[(.ref x0)] 1 = mkF m 0 #[.val (.ref x0)] [] := by
   first | (simp [entryFrame, mkF, argsToLocals, Value.category]; done) | rfl
set_option maxRecDepth 65536 in
set_option maxHeartbeats 40000000 in
theorem rm_bl1 (l : Launch) (Z : State) (a0 : Array Value) (hw : ∀ d ∈ tables_1, d.before a0 Z = true) (ws : List Jvm.Cond) (b : Addr) (G1 : Int32) (h0 : Heap) (n0 : Nat) (O0 : Old Z n0 h0) (E_b : Exa Z h0 b "java/lang/StringBuilder") (F_c : Fld Z h0 b "java/lang/AbstractStringBuilder" "coder" "B" (.int (1 : Int32))) (O2 : Sta Z Z.heap "java/lang/String" "COMPACT_STRINGS" "Z" (.int G1)) (P5 : ¬ (G1 = (0 : Int32))) :
    MetFree l (⟨"java/lang/AbstractStringBuilder", "isLatin1", "()Z"⟩ : MethodName) (head1 (Jvm.Cond.code (⟨"java/lang/AbstractStringBuilder", "isLatin1", "()Z"⟩ : MethodName) jdk_68_method_68_code 1 (some .boolean) :: ws) ⟨0, 0, 0, 0⟩) (fun aA U => aA = #[(.ref b)] ∧ Z.Warmed39 U.vm ∧ U.heap = h0) (fun _ _ _ _ _ => True) (fun _ U oO U' => ∃ rV rL, oO = .returned rV ∧ QPure (some (.int (0 : Int32))) h0 n0 rV U'.heap rL ∧ FrameEnd U oO U' rL 0 0) := by
  refine MetFree.of_bodySF (plainFor_of_name pn_2) hisR ?_
  intro p e s m args below meth cC s₁ Bd hml0 hP hK
  obtain ⟨rfl, hZ, hh⟩ := hP
  have hx := Bd.exec
  have hby := Bd.bytes
  have hml : cC.maxLocals = 1 := hml0
  have hown : s.vm.findClass "java/lang/AbstractStringBuilder" = some m.cls := findClass_of_methodNamed Bd.named
  have hnm := (name_of_methodNamed Bd.named Bd.method).1
  have hrt := Bd.returns
  have hlk : meth.locks = false := Bd.notSynchronized
  have X0 : Stand p l e ⟨0, 0, 0, 0⟩ s m #[(.ref b)] below meth cC s₁ [] 0 0 := Stand.of_body Bd
  have e0 : s₁.heap = h0 := by rw [← hh, Bd.state]; rfl
  have N0 := Fr.nil n0
  have Z0 : n0 ≤ h0.size := O0.1 ▸ O0.2.1
  show own_Go p e below (s₁.setTop (entryFrame m #[(.ref b)] 1)) (fun oO U' => ∃ rV rL, oO = .returned rV ∧ QPure (some (.int (0 : Int32))) h0 n0 rV U'.heap rL ∧ FrameEnd s oO U' rL 0 0)
  refine own_go (fun _ k => castTop (ef_rm_bl1 m b) k) ?_
  obtain ⟨T96, X96, e96, st96⟩ := getS2 X0 hx hZ hown (host := "") (Or.inl (tw hw 39 rfl)) Via.refl e0 (O2.ext O0.2) (g := (mkF m 0 #[.val (.ref b)] [])) rfl (hb hby d68_68_0)
  refine own_go st96 ?_
  refine og (fun _ k => XS.ifNo X96.here hx rfl (hb hby d68_68_3) rfl ((if0 _ _).trans (feq P5).1) k) ?_
  refine og (fun _ k => XS.aloadN X96.here hx rfl (hb hby d68_68_6) rfl rfl k) ?_
  obtain ⟨T97, X97, e97, st97⟩ := getF X96 hx hZ hown (host := "") (Or.inl (tw hw 42 rfl)) Via.refl e96 F_c (g := (mkF m 7 #[.val (.ref b)] [(.ref b)])) rfl rfl (hb hby d68_68_7)
  refine own_go st97 ?_
  try dsimp only [mkF]
  refine og (fun _ k => XS.ifYes X97.here hx rfl (pc0 := 10) (pc' := 17) rfl (hb hby d68_68_10) rfl ((if0 _ _).trans (feq (by decide : ¬ ((1 : Int32) = (0 : Int32)))).2) (by decide) (by decide) k) ?_
  refine og (fun _ k => XS.iconst X97.here hx rfl (hb hby d68_68_17) k) ?_
  refine own_fin (v := (some (.int (nar .boolean (0 : Int32))))) X97 (fun h => by rw [hrt] at h; cases h) hlk (fun fs hr => retN X97 hx (t := .boolean) hrt (by simp) (hb hby d68_68_18) hr) (QQ := QPure (some (.int (0 : Int32))) h0 n0) ?_ (by decide) (by decide)
  rw [e97]
  exact ⟨rfl, N0, rfl⟩

abbrev k68_64 := jdk_68_method_64_code
theorem d68_64_0 : Dk k68_64 0 (.aload_n 0) 1 := own_k
theorem d68_64_1 : Dk k68_64 1 (.getfield 15) 3 := own_k
theorem d68_64_4 : Dk k68_64 4 .areturn 1 := own_k
theorem ef_rm_gv (m : MethodId) (x0 : Addr) : entryFrame m #[(.ref x0)] 1 = mkF m 0 #[.val (.ref x0)] [] := by
   first | (simp [entryFrame, mkF, argsToLocals, Value.category]; done) | rfl
set_option maxRecDepth 65536 in
set_option maxHeartbeats 40000000 in
theorem rm_gv (l : Launch) (Z : State) (a0 : Array Value) (hw : ∀ d ∈ tables_1, d.before a0 Z = true) (ws : List Jvm.Cond) (b v : Addr) (h0 : Heap) (n0 : Nat) (O0 : Old Z n0 h0) (E_b : Exa Z h0 b "java/lang/StringBuilder") (F_v : Fld Z h0 b "java/lang/AbstractStringBuilder" "value" "[B" (.ref v)) :
    MetFree l (⟨"java/lang/AbstractStringBuilder", "getValue", "()[B"⟩ : MethodName) (head1 (Jvm.Cond.code (⟨"java/lang/AbstractStringBuilder", "getValue", "()[B"⟩ : MethodName) jdk_68_method_64_code 1 (some (.array .byte)) :: ws) ⟨0, 0, 0, 0⟩) (fun aA U => aA = #[(.ref b)] ∧ Z.Warmed39 U.vm ∧ U.heap = h0) (fun _ _ _ _ _ => True) (fun _ U oO U' => ∃ rV rL, oO = .returned rV ∧ QPure (some (.ref v)) h0 n0 rV U'.heap rL ∧ FrameEnd U oO U' rL 0 0) := by
  refine MetFree.of_bodySF (plainFor_of_name pn_2) hisR ?_
  intro p e s m args below meth cC s₁ Bd hml0 hP hK
  obtain ⟨rfl, hZ, hh⟩ := hP
  have hx := Bd.exec
  have hby := Bd.bytes
  have hml : cC.maxLocals = 1 := hml0
  have hown : s.vm.findClass "java/lang/AbstractStringBuilder" = some m.cls := findClass_of_methodNamed Bd.named
  have hnm := (name_of_methodNamed Bd.named Bd.method).1
  have hrt := Bd.returns
  have hlk : meth.locks = false := Bd.notSynchronized
  have X0 : Stand p l e ⟨0, 0, 0, 0⟩ s m #[(.ref b)] below meth cC s₁ [] 0 0 := Stand.of_body Bd
  have e0 : s₁.heap = h0 := by rw [← hh, Bd.state]; rfl
  have N0 := Fr.nil n0
  have Z0 : n0 ≤ h0.size := O0.1 ▸ O0.2.1
  show own_Go p e below (s₁.setTop (entryFrame m #[(.ref b)] 1)) (fun oO U' => ∃ rV rL, oO = .returned rV ∧ QPure (some (.ref v)) h0 n0 rV U'.heap rL ∧ FrameEnd s oO U' rL 0 0)
  refine own_go (fun _ k => castTop (ef_rm_gv m b) k) ?_
  refine og (fun _ k => XS.aloadN X0.here hx rfl (hb hby d68_64_0) rfl rfl k) ?_
  obtain ⟨T98, X98, e98, st98⟩ := getF X0 hx hZ hown (host := "") (Or.inl (tw hw 40 rfl)) Via.refl e0 F_v (g := (mkF m 1 #[.val (.ref b)] [(.ref b)])) rfl rfl (hb hby d68_64_1)
  refine own_go st98 ?_
  refine own_fin (v := (some (.ref v))) X98 (fun h => by rw [hrt] at h; cases h) hlk (fun fs hr => retR X98 hx hrt (by rfl) rfl rfl (hb hby d68_64_4) hr) (QQ := QPure (some (.ref v)) h0 n0) ?_ (by decide) (by decide)
  rw [e98]
  exact ⟨rfl, N0, rfl⟩

abbrev k68_6 := jdk_68_method_6_code
theorem d68_6_0 : Dk k68_6 0 (.aload_n 0) 1 := own_k
theorem d68_6_1 : Dk k68_6 1 (.getfield 79) 3 := own_k
theorem d68_6_4 : Dk k68_6 4 .ireturn 1 := own_k
theorem ef_rm_al (m : MethodId) (x0 : Addr) : entryFrame m #[(.ref x0)] 1 = mkF m 0 #[.val (.ref x0)] [] := by
   first | (simp [entryFrame, mkF, argsToLocals, Value.category]; done) | rfl
set_option maxRecDepth 65536 in
set_option maxHeartbeats 40000000 in
theorem rm_al (l : Launch) (Z : State) (a0 : Array Value) (hw : ∀ d ∈ tables_1, d.before a0 Z = true) (ws : List Jvm.Cond) (b : Addr) (mm : Int32) (h0 : Heap) (n0 : Nat) (O0 : Old Z n0 h0) (E_b : Exa Z h0 b "java/lang/StringBuilder") (F_n : Fld Z h0 b "java/lang/AbstractStringBuilder" "count" "I" (.int mm)) :
    MetFree l (⟨"java/lang/AbstractStringBuilder", "length", "()I"⟩ : MethodName) (head1 (Jvm.Cond.code (⟨"java/lang/AbstractStringBuilder", "length", "()I"⟩ : MethodName) jdk_68_method_6_code 1 (some .int) :: ws) ⟨0, 0, 0, 0⟩) (fun aA U => aA = #[(.ref b)] ∧ Z.Warmed39 U.vm ∧ U.heap = h0) (fun _ _ _ _ _ => True) (fun _ U oO U' => ∃ rV rL, oO = .returned rV ∧ QPure (some (.int mm)) h0 n0 rV U'.heap rL ∧ FrameEnd U oO U' rL 0 0) := by
  refine MetFree.of_bodySF (plainFor_of_name pn_2) hisR ?_
  intro p e s m args below meth cC s₁ Bd hml0 hP hK
  obtain ⟨rfl, hZ, hh⟩ := hP
  have hx := Bd.exec
  have hby := Bd.bytes
  have hml : cC.maxLocals = 1 := hml0
  have hown : s.vm.findClass "java/lang/AbstractStringBuilder" = some m.cls := findClass_of_methodNamed Bd.named
  have hnm := (name_of_methodNamed Bd.named Bd.method).1
  have hrt := Bd.returns
  have hlk : meth.locks = false := Bd.notSynchronized
  have X0 : Stand p l e ⟨0, 0, 0, 0⟩ s m #[(.ref b)] below meth cC s₁ [] 0 0 := Stand.of_body Bd
  have e0 : s₁.heap = h0 := by rw [← hh, Bd.state]; rfl
  have N0 := Fr.nil n0
  have Z0 : n0 ≤ h0.size := O0.1 ▸ O0.2.1
  show own_Go p e below (s₁.setTop (entryFrame m #[(.ref b)] 1)) (fun oO U' => ∃ rV rL, oO = .returned rV ∧ QPure (some (.int mm)) h0 n0 rV U'.heap rL ∧ FrameEnd s oO U' rL 0 0)
  refine own_go (fun _ k => castTop (ef_rm_al m b) k) ?_
  refine og (fun _ k => XS.aloadN X0.here hx rfl (hb hby d68_6_0) rfl rfl k) ?_
  obtain ⟨T99, X99, e99, st99⟩ := getF X0 hx hZ hown (host := "") (Or.inl (tw hw 81 rfl)) Via.refl e0 F_n (g := (mkF m 1 #[.val (.ref b)] [(.ref b)])) rfl rfl (hb hby d68_6_1)
  refine own_go st99 ?_
  refine own_fin (v := (some (.int mm))) X99 (fun h => by rw [hrt] at h; cases h) hlk (fun fs hr => retI X99 hx hrt (hb hby d68_6_4) hr) (QQ := QPure (some (.int mm)) h0 n0) ?_ (by decide) (by decide)
  rw [e99]
  exact ⟨rfl, N0, rfl⟩

abbrev k67_93 := jdk_67_method_93_code
theorem d67_93_0 : Dk k67_93 0 (.aload_n 0) 1 := own_k
theorem d67_93_1 : Dk k67_93 1 (.invokespecial 343) 3 := own_k
theorem pd_9 : parseMethodDescriptor "()I" = some ⟨[], some .int⟩ := by decide +kernel
theorem d67_93_4 : Dk k67_93 4 .ireturn 1 := own_k
theorem ef_rm_sl (m : MethodId) (x0 : Addr) : entryFrame m #[(.ref x0)] 1 = mkF m 0 #[.val (.ref x0)] [] := by
   first | (simp [entryFrame, mkF, argsToLocals, Value.category]; done) | rfl
set_option maxRecDepth 65536 in
set_option maxHeartbeats 40000000 in
theorem rm_sl (l : Launch) (Z : State) (a0 : Array Value) (hw : ∀ d ∈ tables_1, d.before a0 Z = true) (ws : List Jvm.Cond) (b : Addr) (mm : Int32) (h0 : Heap) (n0 : Nat) (O0 : Old Z n0 h0) (E_b : Exa Z h0 b "java/lang/StringBuilder") (F_n : Fld Z h0 b "java/lang/AbstractStringBuilder" "count" "I" (.int mm)) :
    MetFree l (⟨"java/lang/StringBuilder", "length", "()I"⟩ : MethodName) (head1 (Jvm.Cond.code (⟨"java/lang/StringBuilder", "length", "()I"⟩ : MethodName) jdk_67_method_93_code 1 (some .int) :: ws) ⟨1, 0, 0, 12⟩) (fun aA U => aA = #[(.ref b)] ∧ Z.Warmed39 U.vm ∧ U.heap = h0) (fun _ _ _ _ _ => True) (fun _ U oO U' => ∃ rV rL, oO = .returned rV ∧ QPure (some (.int mm)) h0 n0 rV U'.heap rL ∧ FrameEnd U oO U' rL 0 0) := by
  refine MetFree.of_bodySF (plainFor_of_name pn_3) hisR ?_
  intro p e s m args below meth cC s₁ Bd hml0 hP hK
  obtain ⟨rfl, hZ, hh⟩ := hP
  have hx := Bd.exec
  have hby := Bd.bytes
  have hml : cC.maxLocals = 1 := hml0
  have hown : s.vm.findClass "java/lang/StringBuilder" = some m.cls := findClass_of_methodNamed Bd.named
  have hnm := (name_of_methodNamed Bd.named Bd.method).1
  have hrt := Bd.returns
  have hlk : meth.locks = false := Bd.notSynchronized
  have X0 : Stand p l e ⟨1, 0, 0, 12⟩ s m #[(.ref b)] below meth cC s₁ [] 0 0 := Stand.of_body Bd
  have e0 : s₁.heap = h0 := by rw [← hh, Bd.state]; rfl
  have N0 := Fr.nil n0
  have Z0 : n0 ≤ h0.size := O0.1 ▸ O0.2.1
  show own_Go p e below (s₁.setTop (entryFrame m #[(.ref b)] 1)) (fun oO U' => ∃ rV rL, oO = .returned rV ∧ QPure (some (.int mm)) h0 n0 rV U'.heap rL ∧ FrameEnd s oO U' rL 0 0)
  refine own_go (fun _ k => castTop (ef_rm_sl m b) k) ?_
  refine og (fun _ k => XS.aloadN X0.here hx rfl (hb hby d67_93_0) rfl rfl k) ?_
  obtain ⟨v100, _, ⟨T100, L100, k100, n100⟩, -, X100, ⟨Lc100, hQ100, l100, y100, z100⟩, st100⟩ := superBack X0 hx hZ (y := (⟨"java/lang/AbstractStringBuilder", "length", "()I"⟩ : MethodName)) hown (tw hw 78 rfl) (own_same (tw hw 74 rfl) (tw hw 70 rfl) rfl (by decide)) (tw hw 74 rfl) (tw hw 79 rfl) (by decide) (backOf (W := 0) (rm_al l Z a0 hw [] b mm h0 n0 O0 E_b F_n) hZ (tw hw 80 rfl) (tw hw 36 rfl) (by decide) (by decide)) e0 (Ins.self E_b) (g := (mkF m 1 #[.val (.ref b)] [(.ref b)])) rfl (by rw [hml]; rfl) (tw hw 80 rfl) (argsL := []) (rest := []) (lenOf pd_9 rfl) rfl (by show 2 * 0 + _ ≤ _; exact Nat.le_of_eq rfl) (hb hby d67_93_1) (fun _ _ => ⟨rfl, e0, (by decide : 0 + 0 ≤ _), (by decide : 0 + 0 ≤ _)⟩)
  dsimp only [Pt.U, Pt.locs, Pt.cells, Pt.slots] at X100 l100 y100 z100 st100 hQ100
  subst l100 y100 z100
  refine own_gos st100 ?_
  obtain ⟨rfl, Nq100, e100⟩ := hQ100
  have N100 := Fr.app N0 Nq100
  refine own_fin (v := (some (.int mm))) X100 (fun h => by rw [hrt] at h; cases h) hlk (fun fs hr => retI X100 hx hrt (hb hby d67_93_4) hr) (QQ := QPure (some (.int mm)) h0 n0) ?_ (by decide) (by decide)
  rw [e100]
  exact ⟨rfl, N100, rfl⟩

abbrev k43_3 := jdk_43_method_3_code
theorem d43_3_0 : Dk k43_3 0 (.iload_n 0) 1 := own_k
theorem d43_3_1 : Dk k43_3 1 (.sipush 255) 3 := own_k
theorem d43_3_4 : Dk k43_3 4 (.if_icmp .gt 7) 3 := own_k
theorem d43_3_11 : Dk k43_3 11 (.iconst 0) 1 := own_k
theorem d43_3_12 : Dk k43_3 12 .ireturn 1 := own_k
theorem d43_3_7 : Dk k43_3 7 (.iconst 1) 1 := own_k
theorem d43_3_8 : Dk k43_3 8 (.goto 4) 3 := own_k
theorem pn_4 : plainName "java/lang/StringLatin1" = true := by first | (simp [plainName, overriddenIn]; done) | decide +kernel
theorem ef_rm_cec (m : MethodId) (x0 : Int32) : entryFrame m #[(.int x0)] 1 = mkF m 0 #[.val (.int x0)] [] := by
   first | (simp [entryFrame, mkF, argsToLocals, Value.category]; done) | rfl
set_option maxRecDepth 65536 in
set_option maxHeartbeats 40000000 in
theorem rm_cec (l : Launch) (Z : State) (a0 : Array Value) (hw : ∀ d ∈ tables_1, d.before a0 Z = true) (ws : List Jvm.Cond) (c : Int32) (h0 : Heap) (n0 : Nat) (O0 : Old Z n0 h0) :
    MetFree l (⟨"java/lang/StringLatin1", "canEncode", "(C)Z"⟩ : MethodName) (head1 (Jvm.Cond.code (⟨"java/lang/StringLatin1", "canEncode", "(C)Z"⟩ : MethodName) jdk_43_method_3_code 1 (some .boolean) :: ws) ⟨0, 0, 0, 0⟩) (fun aA U => aA = #[(.int c)] ∧ Z.Warmed39 U.vm ∧ U.heap = h0) (fun _ _ _ _ _ => True) (fun _ U oO U' => ∃ rV rL, oO = .returned rV ∧ QPure (some (.int (own_ce c))) h0 n0 rV U'.heap rL ∧ FrameEnd U oO U' rL 0 0) := by
  refine MetFree.of_bodySF (plainFor_of_name pn_4) hisR ?_
  intro p e s m args below meth cC s₁ Bd hml0 hP hK
  obtain ⟨rfl, hZ, hh⟩ := hP
  have hx := Bd.exec
  have hby := Bd.bytes
  have hml : cC.maxLocals = 1 := hml0
  have hown : s.vm.findClass "java/lang/StringLatin1" = some m.cls := findClass_of_methodNamed Bd.named
  have hnm := (name_of_methodNamed Bd.named Bd.method).1
  have hrt := Bd.returns
  have hlk : meth.locks = false := Bd.notSynchronized
  have X0 : Stand p l e ⟨0, 0, 0, 0⟩ s m #[(.int c)] below meth cC s₁ [] 0 0 := Stand.of_body Bd
  have e0 : s₁.heap = h0 := by rw [← hh, Bd.state]; rfl
  have N0 := Fr.nil n0
  have Z0 : n0 ≤ h0.size := O0.1 ▸ O0.2.1
  show own_Go p e below (s₁.setTop (entryFrame m #[(.int c)] 1)) (fun oO U' => ∃ rV rL, oO = .returned rV ∧ QPure (some (.int (own_ce c))) h0 n0 rV U'.heap rL ∧ FrameEnd s oO U' rL 0 0)
  refine own_go (fun _ k => castTop (ef_rm_cec m c) k) ?_
  refine og (fun _ k => XS.iloadN X0.here hx rfl (hb hby d43_3_0) rfl k) ?_
  refine og (fun _ k => XS.sipush X0.here hx rfl (hb hby d43_3_1) k) ?_
  by_cases hc101 : (255 : Int32) < c
  · skip
    refine og (fun _ k => XS.icmpYes X0.here hx rfl (pc0 := 4) (pc' := 11) rfl (hb hby d43_3_4) rfl (tlt hc101).2.2.1 (by decide) (by decide) k) ?_
    refine og (fun _ k => XS.iconst X0.here hx rfl (hb hby d43_3_11) k) ?_
    try dsimp only [mkF]
    refine own_fin (v := (some (.int (nar .boolean (0 : Int32))))) X0 (fun h => by rw [hrt] at h; cases h) hlk (fun fs hr => retN X0 hx (t := .boolean) hrt (by simp) (hb hby d43_3_12) hr) (QQ := QPure (some (.int (own_ce c))) h0 n0) ?_ (by decide) (by decide)
    rw [e0]
    exact ⟨by unfold own_ce; rw [if_pos hc101]; rfl, N0, rfl⟩
  · skip
    refine og (fun _ k => XS.icmpNo X0.here hx rfl (hb hby d43_3_4) rfl (flt hc101).2.2.1 k) ?_
    refine og (fun _ k => XS.iconst X0.here hx rfl (hb hby d43_3_7) k) ?_
    try dsimp only [mkF]
    refine og (fun _ k => XS.goto X0.here hx rfl (pc0 := 8) (pc' := 12) rfl (hb hby d43_3_8) (by decide) (by decide) k) ?_
    refine own_fin (v := (some (.int (nar .boolean (1 : Int32))))) X0 (fun h => by rw [hrt] at h; cases h) hlk (fun fs hr => retN X0 hx (t := .boolean) hrt (by simp) (hb hby d43_3_12) hr) (QQ := QPure (some (.int (own_ce c))) h0 n0) ?_ (by decide) (by decide)
    rw [e0]
    exact ⟨by unfold own_ce; rw [if_neg hc101]; rfl, N0, rfl⟩

abbrev k68_9 := jdk_68_method_9_code
theorem d68_9_0 : Dk k68_9 0 (.aload_n 0) 1 := own_k
theorem d68_9_1 : Dk k68_9 1 (.getfield 15) 3 := own_k
theorem d68_9_4 : Dk k68_9 4 .arraylength 1 := own_k
theorem d68_9_5 : Dk k68_9 5 (.aload_n 0) 1 := own_k
theorem d68_9_6 : Dk k68_9 6 (.getfield 22) 3 := own_k
theorem d68_9_9 : Dk k68_9 9 .ishr 1 := own_k
theorem d68_9_10 : Dk k68_9 10 (.istore_n 2) 1 := own_k
theorem d68_9_11 : Dk k68_9 11 (.iload_n 1) 1 := own_k
theorem d68_9_12 : Dk k68_9 12 (.iload_n 2) 1 := own_k
theorem d68_9_13 : Dk k68_9 13 .isub 1 := own_k
theorem d68_9_14 : Dk k68_9 14 (.ifCond .le 24) 3 := own_k
theorem d68_9_38 : Dk k68_9 38 .return_ 1 := own_k
theorem ef_rm_ens (m : MethodId) (x0 : Addr) (x1 : Int32) : entryFrame m #[(.ref x0), (.int x1)] 3 = mkF m 0 #[.val (.ref x0), .val (.int x1), .unset] [] := by
   first | (simp [entryFrame, mkF, argsToLocals, Value.category]; done) | rfl
set_option maxRecDepth 65536 in
set_option maxHeartbeats 40000000 in
theorem rm_ens (l : Launch) (Z : State) (a0 : Array Value) (hw : ∀ d ∈ tables_1, d.before a0 Z = true) (ws : List Jvm.Cond) (b v : Addr) (kv : ClassId) (cd : Int32) (cs : List Int32) (mm : Nat) (G1 : Int32) (G3 : Value) (h0 : Heap) (n0 : Nat) (O0 : Old Z n0 h0) (O2 : Sta Z Z.heap "java/lang/String" "COMPACT_STRINGS" "Z" (.int G1)) (P5 : ¬ (G1 = (0 : Int32))) (O4 : Sta Z Z.heap "jdk/internal/util/Preconditions" "SIOOBE_FORMATTER" "Ljava/util/function/BiFunction;" G3) (rG3 : G3.isRef = true) (OA : Sta Z Z.heap "java/lang/StringUTF16" "$assertionsDisabled" "Z" (.int (1 : Int32))) (OH : Sta Z Z.heap "java/lang/StringUTF16" "HI_BYTE_SHIFT" "I" (.int (0 : Int32))) (OL : Sta Z Z.heap "java/lang/StringUTF16" "LO_BYTE_SHIFT" "I" (.int (8 : Int32))) (E_b : Exa Z h0 b "java/lang/StringBuilder") (Fv_b : Fld Z h0 b "java/lang/AbstractStringBuilder" "value" "[B" (.ref v)) (Fc_b : Fld Z h0 b "java/lang/AbstractStringBuilder" "coder" "B" (.int cd)) (Fn_b : Fld Z h0 b "java/lang/AbstractStringBuilder" "count" "I" (.int (Int32.ofNat cs.length))) (Fm_b : Fld Z h0 b "java/lang/AbstractStringBuilder" "maybeLatin1" "Z" (.int (0 : Int32))) (V_v : Arv Z h0 v kv .byte (own_sbN cd) (own_sbv cd cs) (.int (0 : Int32))) (hcd : own_cdi cd cs) (g_b : n0 ≤ b) (g_v : n0 ≤ v) (hm : mm ≤ 16) :
    MetFree l (⟨"java/lang/AbstractStringBuilder", "ensureCapacityInternal", "(I)V"⟩ : MethodName) (head1 (Jvm.Cond.code (⟨"java/lang/AbstractStringBuilder", "ensureCapacityInternal", "(I)V"⟩ : MethodName) jdk_68_method_9_code 3 none :: ws) ⟨0, 0, 0, 0⟩) (fun aA U => aA = #[(.ref b), (.int (Int32.ofNat mm))] ∧ Z.Warmed39 U.vm ∧ U.heap = h0) (fun _ _ _ _ _ => True) (fun _ U oO U' => ∃ rV rL, oO = .returned rV ∧ QPure (none) h0 n0 rV U'.heap rL ∧ FrameEnd U oO U' rL 0 0) := by
  refine MetFree.of_bodySF (plainFor_of_name pn_2) hisR ?_
  intro p e s m args below meth cC s₁ Bd hml0 hP hK
  obtain ⟨rfl, hZ, hh⟩ := hP
  have hx := Bd.exec
  have hby := Bd.bytes
  have hml : cC.maxLocals = 3 := hml0
  have hown : s.vm.findClass "java/lang/AbstractStringBuilder" = some m.cls := findClass_of_methodNamed Bd.named
  have hnm := (name_of_methodNamed Bd.named Bd.method).1
  have hrt := Bd.returns
  have hlk : meth.locks = false := Bd.notSynchronized
  have X0 : Stand p l e ⟨0, 0, 0, 0⟩ s m #[(.ref b), (.int (Int32.ofNat mm))] below meth cC s₁ [] 0 0 := Stand.of_body Bd
  have e0 : s₁.heap = h0 := by rw [← hh, Bd.state]; rfl
  have N0 := Fr.nil n0
  have Z0 : n0 ≤ h0.size := O0.1 ▸ O0.2.1
  show own_Go p e below (s₁.setTop (entryFrame m #[(.ref b), (.int (Int32.ofNat mm))] 3)) (fun oO U' => ∃ rV rL, oO = .returned rV ∧ QPure (none) h0 n0 rV U'.heap rL ∧ FrameEnd s oO U' rL 0 0)
  refine own_go (fun _ k => castTop (ef_rm_ens m b _) k) ?_
  have hbv := Exa.neArv E_b V_v (tw hw 27 rfl)
  rcases id hcd with ⟨cd0, hall⟩ | ⟨cd0, hex⟩
  · subst cd0
    refine og (fun _ k => XS.aloadN X0.here hx rfl (hb hby d68_9_0) rfl rfl k) ?_
    obtain ⟨T102, X102, e102, st102⟩ := getF X0 hx hZ hown (host := "") (Or.inl (tw hw 40 rfl)) Via.refl e0 Fv_b (g := (mkF m 1 #[.val (.ref b), .val (.int (Int32.ofNat mm)), .unset] [(.ref b)])) rfl rfl (hb hby d68_9_1)
    refine own_go st102 ?_
    try dsimp only [mkF]
    obtain ⟨c103, A103, q103, S103, M103, Hs103, Gs103⟩ := id V_v
    refine og (fun _ k => X102.arraylength hx (by rw [e102]; exact A103.1) (State.isArrayOf_alike hZ.alike A103.2.1) (g := (mkF m 4 #[.val (.ref b), .val (.int (Int32.ofNat mm)), .unset] [(.ref v)])) rfl rfl (hb hby d68_9_4) _ k) ?_
    rw [len_of S103 M103]
    refine og (fun _ k => XS.aloadN X102.here hx rfl (hb hby d68_9_5) rfl rfl k) ?_
    obtain ⟨T104, X104, e104, st104⟩ := getF X102 hx hZ hown (host := "") (Or.inl (tw hw 42 rfl)) Via.refl e102 Fc_b (g := (mkF m 6 #[.val (.ref b), .val (.int (Int32.ofNat mm)), .unset] [(.ref b), (.int (16 : Int32))])) rfl rfl (hb hby d68_9_6)
    refine own_go st104 ?_
    refine og (fun _ k => XS.ishr X104.here hx rfl (hb hby d68_9_9) rfl k) ?_
    try dsimp only [mkF]
    refine og (fun _ k => XS.istoreN X104.here hx rfl (hb hby d68_9_10) rfl (l' := #[.val (.ref b), .val (.int (Int32.ofNat mm)), .val (.int (16 : Int32))]) rfl k) ?_
    refine og (fun _ k => XS.iloadN X104.here hx rfl (hb hby d68_9_11) rfl k) ?_
    refine og (fun _ k => XS.iloadN X104.here hx rfl (hb hby d68_9_12) rfl k) ?_
    refine og (fun _ k => XS.isub X104.here hx rfl (hb hby d68_9_13) rfl k) ?_
    refine og (fun _ k => XS.ifYes X104.here hx rfl (pc0 := 14) (pc' := 38) rfl (hb hby d68_9_14) rfl ((if0 _ _).trans (flt (own_sub16 hm)).2.2.2) (by decide) (by decide) k) ?_
    try dsimp only [mkF]
    refine own_fin (v := none) X104 (fun _ => rfl) hlk (fun fs hr => X104.returnOut hx hrt (hb hby d68_9_38) hr) (QQ := QPure (none) h0 n0) ?_ (by decide) (by decide)
    rw [e104]
    exact ⟨rfl, N0, rfl⟩
  · subst cd0
    refine og (fun _ k => XS.aloadN X0.here hx rfl (hb hby d68_9_0) rfl rfl k) ?_
    obtain ⟨T105, X105, e105, st105⟩ := getF X0 hx hZ hown (host := "") (Or.inl (tw hw 40 rfl)) Via.refl e0 Fv_b (g := (mkF m 1 #[.val (.ref b), .val (.int (Int32.ofNat mm)), .unset] [(.ref b)])) rfl rfl (hb hby d68_9_1)
    refine own_go st105 ?_
    try dsimp only [mkF]
    obtain ⟨c106, A106, q106, S106, M106, Hs106, Gs106⟩ := id V_v
    refine og (fun _ k => X105.arraylength hx (by rw [e105]; exact A106.1) (State.isArrayOf_alike hZ.alike A106.2.1) (g := (mkF m 4 #[.val (.ref b), .val (.int (Int32.ofNat mm)), .unset] [(.ref v)])) rfl rfl (hb hby d68_9_4) _ k) ?_
    rw [len_of S106 M106]
    refine og (fun _ k => XS.aloadN X105.here hx rfl (hb hby d68_9_5) rfl rfl k) ?_
    obtain ⟨T107, X107, e107, st107⟩ := getF X105 hx hZ hown (host := "") (Or.inl (tw hw 42 rfl)) Via.refl e105 Fc_b (g := (mkF m 6 #[.val (.ref b), .val (.int (Int32.ofNat mm)), .unset] [(.ref b), (.int (32 : Int32))])) rfl rfl (hb hby d68_9_6)
    refine own_go st107 ?_
    refine og (fun _ k => XS.ishr X107.here hx rfl (hb hby d68_9_9) rfl k) ?_
    try dsimp only [mkF]
    refine og (fun _ k => XS.istoreN X107.here hx rfl (hb hby d68_9_10) rfl (l' := #[.val (.ref b), .val (.int (Int32.ofNat mm)), .val (.int (16 : Int32))]) rfl k) ?_
    refine og (fun _ k => XS.iloadN X107.here hx rfl (hb hby d68_9_11) rfl k) ?_
    refine og (fun _ k => XS.iloadN X107.here hx rfl (hb hby d68_9_12) rfl k) ?_
    refine og (fun _ k => XS.isub X107.here hx rfl (hb hby d68_9_13) rfl k) ?_
    refine og (fun _ k => XS.ifYes X107.here hx rfl (pc0 := 14) (pc' := 38) rfl (hb hby d68_9_14) rfl ((if0 _ _).trans (flt (own_sub16 hm)).2.2.2) (by decide) (by decide) k) ?_
    try dsimp only [mkF]
    refine own_fin (v := none) X107 (fun _ => rfl) hlk (fun fs hr => X107.returnOut hx hrt (hb hby d68_9_38) hr) (QQ := QPure (none) h0 n0) ?_ (by decide) (by decide)
    rw [e107]
    exact ⟨rfl, N0, rfl⟩

abbrev k41_11 := jdk_41_method_11_code
theorem d41_11_0 : Dk k41_11 0 (.iload_n 0) 1 := own_k
theorem d41_11_1 : Dk k41_11 1 (.ifCond .lt 8) 3 := own_k
theorem d41_11_4 : Dk k41_11 4 (.iload_n 0) 1 := own_k
theorem d41_11_5 : Dk k41_11 5 (.iload_n 1) 1 := own_k
theorem d41_11_6 : Dk k41_11 6 (.if_icmp .lt 10) 3 := own_k
theorem d41_11_16 : Dk k41_11 16 (.iload_n 0) 1 := own_k
theorem d41_11_17 : Dk k41_11 17 .ireturn 1 := own_k
theorem pn_5 : plainName "jdk/internal/util/Preconditions" = true := by first | (simp [plainName, overriddenIn]; done) | decide +kernel
theorem ef_rm_cki (m : MethodId) (x0 : Int32) (x1 : Int32) (f4 : Value) (r_f4 : f4.isRef = true) : entryFrame m #[(.int x0), (.int x1), f4] 3 = mkF m 0 #[.val (.int x0), .val (.int x1), .val f4] [] := by
  cases f4 <;> first | (cases r_f4; done) | skip
  all_goals  first | (simp [entryFrame, mkF, argsToLocals, Value.category]; done) | rfl
set_option maxRecDepth 65536 in
set_option maxHeartbeats 40000000 in
theorem rm_cki (l : Launch) (Z : State) (a0 : Array Value) (hw : ∀ d ∈ tables_1, d.before a0 Z = true) (ws : List Jvm.Cond) (p1 p2 : Int32) (f4 : Value) (h0 : Heap) (n0 : Nat) (O0 : Old Z n0 h0) (r4 : f4.isRef = true) (q1 : ¬ (p1 < (0 : Int32))) (q2 : p1 < p2) :
    MetFree l (⟨"jdk/internal/util/Preconditions", "checkIndex", "(IILjava/util/function/BiFunction;)I"⟩ : MethodName) (head1 (Jvm.Cond.code (⟨"jdk/internal/util/Preconditions", "checkIndex", "(IILjava/util/function/BiFunction;)I"⟩ : MethodName) jdk_41_method_11_code 3 (some .int) :: ws) ⟨0, 0, 0, 0⟩) (fun aA U => aA = #[(.int p1), (.int p2), f4] ∧ Z.Warmed39 U.vm ∧ U.heap = h0) (fun _ _ _ _ _ => True) (fun _ U oO U' => ∃ rV rL, oO = .returned rV ∧ QPure (some (.int p1)) h0 n0 rV U'.heap rL ∧ FrameEnd U oO U' rL 0 0) := by
  refine MetFree.of_bodySF (plainFor_of_name pn_5) hisR ?_
  intro p e s m args below meth cC s₁ Bd hml0 hP hK
  obtain ⟨rfl, hZ, hh⟩ := hP
  have hx := Bd.exec
  have hby := Bd.bytes
  have hml : cC.maxLocals = 3 := hml0
  have hown : s.vm.findClass "jdk/internal/util/Preconditions" = some m.cls := findClass_of_methodNamed Bd.named
  have hnm := (name_of_methodNamed Bd.named Bd.method).1
  have hrt := Bd.returns
  have hlk : meth.locks = false := Bd.notSynchronized
  have X0 : Stand p l e ⟨0, 0, 0, 0⟩ s m #[(.int p1), (.int p2), f4] below meth cC s₁ [] 0 0 := Stand.of_body Bd
  have e0 : s₁.heap = h0 := by rw [← hh, Bd.state]; rfl
  have N0 := Fr.nil n0
  have Z0 : n0 ≤ h0.size := O0.1 ▸ O0.2.1
  show own_Go p e below (s₁.setTop (entryFrame m #[(.int p1), (.int p2), f4] 3)) (fun oO U' => ∃ rV rL, oO = .returned rV ∧ QPure (some (.int p1)) h0 n0 rV U'.heap rL ∧ FrameEnd s oO U' rL 0 0)
  refine own_go (fun _ k => castTop (ef_rm_cki m p1 p2 f4 r4) k) ?_
  refine og (fun _ k => XS.iloadN X0.here hx rfl (hb hby d41_11_0) rfl k) ?_
  refine og (fun _ k => XS.ifNo X0.here hx rfl (hb hby d41_11_1) rfl ((if0 _ _).trans (flt q1).1) k) ?_
  refine og (fun _ k => XS.iloadN X0.here hx rfl (hb hby d41_11_4) rfl k) ?_
  refine og (fun _ k => XS.iloadN X0.here hx rfl (hb hby d41_11_5) rfl k) ?_
  try dsimp only [mkF]
  refine og (fun _ k => XS.icmpYes X0.here hx rfl (pc0 := 6) (pc' := 16) rfl (hb hby d41_11_6) rfl (tlt q2).1 (by decide) (by decide) k) ?_
  refine og (fun _ k => XS.iloadN X0.here hx rfl (hb hby d41_11_16) rfl k) ?_
  refine own_fin (v := (some (.int p1))) X0 (fun h => by rw [hrt] at h; cases h) hlk (fun fs hr => retI X0 hx hrt (hb hby d41_11_17) hr) (QQ := QPure (some (.int p1)) h0 n0) ?_ (by decide) (by decide)
  rw [e0]
  exact ⟨rfl, N0, rfl⟩

abbrev k42_155 := jdk_42_method_155_code
theorem d42_155_0 : Dk k42_155 0 (.iload_n 0) 1 := own_k
theorem d42_155_1 : Dk k42_155 1 (.iload_n 1) 1 := own_k
theorem d42_155_2 : Dk k42_155 2 (.getstatic 1053) 3 := own_k
theorem d42_155_5 : Dk k42_155 5 (.invokestatic 1059) 3 := own_k
theorem pd_10 : parseMethodDescriptor "(IILjava/util/function/BiFunction;)I" = some ⟨[.int, .int, (.object "java/util/function/BiFunction")], some .int⟩ := by decide +kernel
theorem d42_155_8 : Dk k42_155 8 .pop 1 := own_k
theorem d42_155_9 : Dk k42_155 9 .return_ 1 := own_k
theorem ef_rm_sci (m : MethodId) (x0 : Int32) (x1 : Int32) : entryFrame m #[(.int x0), (.int x1)] 2 = mkF m 0 #[.val (.int x0), .val (.int x1)] [] := by
   first | (simp [entryFrame, mkF, argsToLocals, Value.category]; done) | rfl
set_option maxRecDepth 65536 in
set_option maxHeartbeats 40000000 in
theorem rm_sci (l : Launch) (Z : State) (a0 : Array Value) (hw : ∀ d ∈ tables_1, d.before a0 Z = true) (ws : List Jvm.Cond) (p1 p2 : Int32) (G3 : Value) (h0 : Heap) (n0 : Nat) (O0 : Old Z n0 h0) (O4 : Sta Z Z.heap "jdk/internal/util/Preconditions" "SIOOBE_FORMATTER" "Ljava/util/function/BiFunction;" G3) (rG3 : G3.isRef = true) (q1 : ¬ (p1 < (0 : Int32))) (q2 : p1 < p2) :
    MetFree l (⟨"java/lang/String", "checkIndex", "(II)V"⟩ : MethodName) (head1 (Jvm.Cond.code (⟨"java/lang/String", "checkIndex", "(II)V"⟩ : MethodName) jdk_42_method_155_code 2 none :: ws) ⟨1, 0, 0, 14⟩) (fun aA U => aA = #[(.int p1), (.int p2)] ∧ Z.Warmed39 U.vm ∧ U.heap = h0) (fun _ _ _ _ _ => True) (fun _ U oO U' => ∃ rV rL, oO = .returned rV ∧ QPure (none) h0 n0 rV U'.heap rL ∧ FrameEnd U oO U' rL 0 0) := by
  refine MetFree.of_bodySF (plainFor_of_name pn_0) hisR ?_
  intro p e s m args below meth cC s₁ Bd hml0 hP hK
  obtain ⟨rfl, hZ, hh⟩ := hP
  have hx := Bd.exec
  have hby := Bd.bytes
  have hml : cC.maxLocals = 2 := hml0
  have hown : s.vm.findClass "java/lang/String" = some m.cls := findClass_of_methodNamed Bd.named
  have hnm := (name_of_methodNamed Bd.named Bd.method).1
  have hrt := Bd.returns
  have hlk : meth.locks = false := Bd.notSynchronized
  have X0 : Stand p l e ⟨1, 0, 0, 14⟩ s m #[(.int p1), (.int p2)] below meth cC s₁ [] 0 0 := Stand.of_body Bd
  have e0 : s₁.heap = h0 := by rw [← hh, Bd.state]; rfl
  have N0 := Fr.nil n0
  have Z0 : n0 ≤ h0.size := O0.1 ▸ O0.2.1
  show own_Go p e below (s₁.setTop (entryFrame m #[(.int p1), (.int p2)] 2)) (fun oO U' => ∃ rV rL, oO = .returned rV ∧ QPure (none) h0 n0 rV U'.heap rL ∧ FrameEnd s oO U' rL 0 0)
  refine own_go (fun _ k => castTop (ef_rm_sci m p1 p2) k) ?_
  refine og (fun _ k => XS.iloadN X0.here hx rfl (hb hby d42_155_0) rfl k) ?_
  refine og (fun _ k => XS.iloadN X0.here hx rfl (hb hby d42_155_1) rfl k) ?_
  obtain ⟨T108, X108, e108, st108⟩ := getS2 X0 hx hZ hown (host := "") (Or.inl (tw hw 134 rfl)) Via.refl e0 (O4.ext O0.2) (g := (mkF m 2 #[.val (.int p1), .val (.int p2)] [(.int p2), (.int p1)])) rfl (hb hby d42_155_2)
  refine own_go st108 ?_
  obtain ⟨v109, _, ⟨T109, L109, k109, n109⟩, -, X109, ⟨Lc109, hQ109, l109, y109, z109⟩, st109⟩ := Jvm.LawKit.callS X108 hx (y := (⟨"jdk/internal/util/Preconditions", "checkIndex", "(IILjava/util/function/BiFunction;)I"⟩ : MethodName)) hown (mvT hZ (tw hw 136 rfl)) (mvT hZ (tw hw 137 rfl)) (mvT hZ (tw hw 135 rfl)) (mvT hZ (tw hw 138 rfl)) (by decide) (backOf (W := 0) (rm_cki l Z a0 hw [] p1 p2 G3 h0 n0 O0 rG3 q1 q2) hZ (tw hw 138 rfl) (tw hw 135 rfl) (by decide) (by decide)) (g := (mkF m 5 #[.val (.int p1), .val (.int p2)] [G3, (.int p2), (.int p1)])) rfl (by rw [hml]; rfl) (argsL := [(.int p1), (.int p2), G3]) (rest := []) (lenOf pd_10 rfl) rfl (by show 2 * 0 + _ ≤ _; exact Nat.le_of_eq rfl) (hb hby d42_155_5) (fun _ _ => ⟨rfl, e108, (by decide : 0 + 0 ≤ _), (by decide : 0 + 0 ≤ _)⟩)
  dsimp only [Pt.U, Pt.locs, Pt.cells, Pt.slots] at X109 l109 y109 z109 st109 hQ109
  subst l109 y109 z109
  refine own_go st109 ?_
  obtain ⟨rfl, Nq109, e109⟩ := hQ109
  have N109 := Fr.app N0 Nq109
  try dsimp only [mkF]
  refine og (fun _ k => XS.pop X109.here hx rfl (hb hby d42_155_8) rfl rfl k) ?_
  refine own_fin (v := none) X109 (fun _ => rfl) hlk (fun fs hr => X109.returnOut hx hrt (hb hby d42_155_9) hr) (QQ := QPure (none) h0 n0) ?_ (by decide) (by decide)
  rw [e109]
  exact ⟨rfl, N109, rfl⟩

abbrev k41_13 := jdk_41_method_13_code
theorem d41_13_0 : Dk k41_13 0 (.iload_n 2) 1 := own_k
theorem d41_13_1 : Dk k41_13 1 (.iload_n 0) 1 := own_k
theorem d41_13_2 : Dk k41_13 2 .ior 1 := own_k
theorem d41_13_3 : Dk k41_13 3 (.iload_n 1) 1 := own_k
theorem d41_13_4 : Dk k41_13 4 .ior 1 := own_k
theorem d41_13_5 : Dk k41_13 5 (.ifCond .lt 10) 3 := own_k
theorem d41_13_8 : Dk k41_13 8 (.iload_n 1) 1 := own_k
theorem d41_13_9 : Dk k41_13 9 (.iload_n 2) 1 := own_k
theorem d41_13_10 : Dk k41_13 10 (.iload_n 0) 1 := own_k
theorem d41_13_11 : Dk k41_13 11 .isub 1 := own_k
theorem d41_13_12 : Dk k41_13 12 (.if_icmp .le 11) 3 := own_k
theorem d41_13_23 : Dk k41_13 23 (.iload_n 0) 1 := own_k
theorem d41_13_24 : Dk k41_13 24 .ireturn 1 := own_k
theorem ef_rm_cfs (m : MethodId) (x0 : Int32) (x1 : Int32) (x2 : Int32) (f4 : Value) (r_f4 : f4.isRef = true) : entryFrame m #[(.int x0), (.int x1), (.int x2), f4] 4 = mkF m 0 #[.val (.int x0), .val (.int x1), .val (.int x2), .val f4] [] := by
  cases f4 <;> first | (cases r_f4; done) | skip
  all_goals  first | (simp [entryFrame, mkF, argsToLocals, Value.category]; done) | rfl
set_option maxRecDepth 65536 in
set_option maxHeartbeats 40000000 in
theorem rm_cfs (l : Launch) (Z : State) (a0 : Array Value) (hw : ∀ d ∈ tables_1, d.before a0 Z = true) (ws : List Jvm.Cond) (p1 p2 p3 : Int32) (f4 : Value) (h0 : Heap) (n0 : Nat) (O0 : Old Z n0 h0) (r4 : f4.isRef = true) (q1 : ¬ ((p3 ||| p1) ||| p2) < (0 : Int32)) (q2 : ¬ (p3 - p1) < p2) :
    MetFree l (⟨"jdk/internal/util/Preconditions", "checkFromIndexSize", "(IIILjava/util/function/BiFunction;)I"⟩ : MethodName) (head1 (Jvm.Cond.code (⟨"jdk/internal/util/Preconditions", "checkFromIndexSize", "(IIILjava/util/function/BiFunction;)I"⟩ : MethodName) jdk_41_method_13_code 4 (some .int) :: ws) ⟨0, 0, 0, 0⟩) (fun aA U => aA = #[(.int p1), (.int p2), (.int p3), f4] ∧ Z.Warmed39 U.vm ∧ U.heap = h0) (fun _ _ _ _ _ => True) (fun _ U oO U' => ∃ rV rL, oO = .returned rV ∧ QPure (some (.int p1)) h0 n0 rV U'.heap rL ∧ FrameEnd U oO U' rL 0 0) := by
  refine MetFree.of_bodySF (plainFor_of_name pn_5) hisR ?_
  intro p e s m args below meth cC s₁ Bd hml0 hP hK
  obtain ⟨rfl, hZ, hh⟩ := hP
  have hx := Bd.exec
  have hby := Bd.bytes
  have hml : cC.maxLocals = 4 := hml0
  have hown : s.vm.findClass "jdk/internal/util/Preconditions" = some m.cls := findClass_of_methodNamed Bd.named
  have hnm := (name_of_methodNamed Bd.named Bd.method).1
  have hrt := Bd.returns
  have hlk : meth.locks = false := Bd.notSynchronized
  have X0 : Stand p l e ⟨0, 0, 0, 0⟩ s m #[(.int p1), (.int p2), (.int p3), f4] below meth cC s₁ [] 0 0 := Stand.of_body Bd
  have e0 : s₁.heap = h0 := by rw [← hh, Bd.state]; rfl
  have N0 := Fr.nil n0
  have Z0 : n0 ≤ h0.size := O0.1 ▸ O0.2.1
  show own_Go p e below (s₁.setTop (entryFrame m #[(.int p1), (.int p2), (.int p3), f4] 4)) (fun oO U' => ∃ rV rL, oO = .returned rV ∧ QPure (some (.int p1)) h0 n0 rV U'.heap rL ∧ FrameEnd s oO U' rL 0 0)
  refine own_go (fun _ k => castTop (ef_rm_cfs m p1 p2 p3 f4 r4) k) ?_
  refine og (fun _ k => XS.iloadN X0.here hx rfl (hb hby d41_13_0) rfl k) ?_
  refine og (fun _ k => XS.iloadN X0.here hx rfl (hb hby d41_13_1) rfl k) ?_
  refine og (fun _ k => XS.ior X0.here hx rfl (hb hby d41_13_2) rfl k) ?_
  refine og (fun _ k => XS.iloadN X0.here hx rfl (hb hby d41_13_3) rfl k) ?_
  try dsimp only [mkF]
  refine og (fun _ k => XS.ior X0.here hx rfl (hb hby d41_13_4) rfl k) ?_
  refine og (fun _ k => XS.ifNo X0.here hx rfl (hb hby d41_13_5) rfl ((if0 _ _).trans (flt q1).1) k) ?_
  refine og (fun _ k => XS.iloadN X0.here hx rfl (hb hby d41_13_8) rfl k) ?_
  refine og (fun _ k => XS.iloadN X0.here hx rfl (hb hby d41_13_9) rfl k) ?_
  refine og (fun _ k => XS.iloadN X0.here hx rfl (hb hby d41_13_10) rfl k) ?_
  try dsimp only [mkF]
  refine og (fun _ k => XS.isub X0.here hx rfl (hb hby d41_13_11) rfl k) ?_
  refine og (fun _ k => XS.icmpYes X0.here hx rfl (pc0 := 12) (pc' := 23) rfl (hb hby d41_13_12) rfl (flt q2).2.2.2 (by decide) (by decide) k) ?_
  refine og (fun _ k => XS.iloadN X0.here hx rfl (hb hby d41_13_23) rfl k) ?_
  refine own_fin (v := (some (.int p1))) X0 (fun h => by rw [hrt] at h; cases h) hlk (fun fs hr => retI X0 hx hrt (hb hby d41_13_24) hr) (QQ := QPure (some (.int p1)) h0 n0) ?_ (by decide) (by decide)
  rw [e0]
  exact ⟨rfl, N0, rfl⟩

abbrev k42_157 := jdk_42_method_157_code
theorem d42_157_0 : Dk k42_157 0 (.iload_n 0) 1 := own_k
theorem d42_157_1 : Dk k42_157 1 (.iload_n 1) 1 := own_k
theorem d42_157_2 : Dk k42_157 2 (.iload_n 2) 1 := own_k
theorem d42_157_3 : Dk k42_157 3 (.getstatic 1053) 3 := own_k
theorem d42_157_6 : Dk k42_157 6 (.invokestatic 1065) 3 := own_k
theorem pd_11 : parseMethodDescriptor "(IIILjava/util/function/BiFunction;)I" = some ⟨[.int, .int, .int, (.object "java/util/function/BiFunction")], some .int⟩ := by decide +kernel
theorem d42_157_9 : Dk k42_157 9 .ireturn 1 := own_k
theorem ef_rm_cbo (m : MethodId) (x0 : Int32) (x1 : Int32) (x2 : Int32) : entryFrame m #[(.int x0), (.int x1), (.int x2)] 3 = mkF m 0 #[.val (.int x0), .val (.int x1), .val (.int x2)] [] := by
   first | (simp [entryFrame, mkF, argsToLocals, Value.category]; done) | rfl
set_option maxRecDepth 65536 in
set_option maxHeartbeats 40000000 in
theorem rm_cbo (l : Launch) (Z : State) (a0 : Array Value) (hw : ∀ d ∈ tables_1, d.before a0 Z = true) (ws : List Jvm.Cond) (p1 p2 p3 : Int32) (G3 : Value) (h0 : Heap) (n0 : Nat) (O0 : Old Z n0 h0) (O4 : Sta Z Z.heap "jdk/internal/util/Preconditions" "SIOOBE_FORMATTER" "Ljava/util/function/BiFunction;" G3) (rG3 : G3.isRef = true) (q1 : ¬ ((p3 ||| p1) ||| p2) < (0 : Int32)) (q2 : ¬ (p3 - p1) < p2) :
    MetFree l (⟨"java/lang/String", "checkBoundsOffCount", "(III)I"⟩ : MethodName) (head1 (Jvm.Cond.code (⟨"java/lang/String", "checkBoundsOffCount", "(III)I"⟩ : MethodName) jdk_42_method_157_code 3 (some .int) :: ws) ⟨1, 0, 0, 15⟩) (fun aA U => aA = #[(.int p1), (.int p2), (.int p3)] ∧ Z.Warmed39 U.vm ∧ U.heap = h0) (fun _ _ _ _ _ => True) (fun _ U oO U' => ∃ rV rL, oO = .returned rV ∧ QPure (some (.int p1)) h0 n0 rV U'.heap rL ∧ FrameEnd U oO U' rL 0 0) := by
  refine MetFree.of_bodySF (plainFor_of_name pn_0) hisR ?_
  intro p e s m args below meth cC s₁ Bd hml0 hP hK
  obtain ⟨rfl, hZ, hh⟩ := hP
  have hx := Bd.exec
  have hby := Bd.bytes
  have hml : cC.maxLocals = 3 := hml0
  have hown : s.vm.findClass "java/lang/String" = some m.cls := findClass_of_methodNamed Bd.named
  have hnm := (name_of_methodNamed Bd.named Bd.method).1
  have hrt := Bd.returns
  have hlk : meth.locks = false := Bd.notSynchronized
  have X0 : Stand p l e ⟨1, 0, 0, 15⟩ s m #[(.int p1), (.int p2), (.int p3)] below meth cC s₁ [] 0 0 := Stand.of_body Bd
  have e0 : s₁.heap = h0 := by rw [← hh, Bd.state]; rfl
  have N0 := Fr.nil n0
  have Z0 : n0 ≤ h0.size := O0.1 ▸ O0.2.1
  show own_Go p e below (s₁.setTop (entryFrame m #[(.int p1), (.int p2), (.int p3)] 3)) (fun oO U' => ∃ rV rL, oO = .returned rV ∧ QPure (some (.int p1)) h0 n0 rV U'.heap rL ∧ FrameEnd s oO U' rL 0 0)
  refine own_go (fun _ k => castTop (ef_rm_cbo m p1 p2 p3) k) ?_
  refine og (fun _ k => XS.iloadN X0.here hx rfl (hb hby d42_157_0) rfl k) ?_
  refine og (fun _ k => XS.iloadN X0.here hx rfl (hb hby d42_157_1) rfl k) ?_
  refine og (fun _ k => XS.iloadN X0.here hx rfl (hb hby d42_157_2) rfl k) ?_
  obtain ⟨T110, X110, e110, st110⟩ := getS2 X0 hx hZ hown (host := "") (Or.inl (tw hw 134 rfl)) Via.refl e0 (O4.ext O0.2) (g := (mkF m 3 #[.val (.int p1), .val (.int p2), .val (.int p3)] [(.int p3), (.int p2), (.int p1)])) rfl (hb hby d42_157_3)
  refine own_go st110 ?_
  try dsimp only [mkF]
  obtain ⟨v111, _, ⟨T111, L111, k111, n111⟩, -, X111, ⟨Lc111, hQ111, l111, y111, z111⟩, st111⟩ := Jvm.LawKit.callS X110 hx (y := (⟨"jdk/internal/util/Preconditions", "checkFromIndexSize", "(IIILjava/util/function/BiFunction;)I"⟩ : MethodName)) hown (mvT hZ (tw hw 251 rfl)) (mvT hZ (tw hw 252 rfl)) (mvT hZ (tw hw 135 rfl)) (mvT hZ (tw hw 253 rfl)) (by decide) (backOf (W := 0) (rm_cfs l Z a0 hw [] p1 p2 p3 G3 h0 n0 O0 rG3 q1 q2) hZ (tw hw 253 rfl) (tw hw 135 rfl) (by decide) (by decide)) (g := (mkF m 6 #[.val (.int p1), .val (.int p2), .val (.int p3)] [G3, (.int p3), (.int p2), (.int p1)])) rfl (by rw [hml]; rfl) (argsL := [(.int p1), (.int p2), (.int p3), G3]) (rest := []) (lenOf pd_11 rfl) rfl (by show 2 * 0 + _ ≤ _; exact Nat.le_of_eq rfl) (hb hby d42_157_6) (fun _ _ => ⟨rfl, e110, (by decide : 0 + 0 ≤ _), (by decide : 0 + 0 ≤ _)⟩)
  dsimp only [Pt.U, Pt.locs, Pt.cells, Pt.slots] at X111 l111 y111 z111 st111 hQ111
  subst l111 y111 z111
  refine own_go st111 ?_
  obtain ⟨rfl, Nq111, e111⟩ := hQ111
  have N111 := Fr.app N0 Nq111
  refine own_fin (v := (some (.int p1))) X111 (fun h => by rw [hrt] at h; cases h) hlk (fun fs hr => retI X111 hx hrt (hb hby d42_157_9) hr) (QQ := QPure (some (.int p1)) h0 n0) ?_ (by decide) (by decide)
  rw [e111]
  exact ⟨rfl, N111, rfl⟩

abbrev k52_6 := jdk_52_method_6_code
theorem d52_6_0 : Dk k52_6 0 (.aload_n 0) 1 := own_k
theorem d52_6_1 : Dk k52_6 1 .arraylength 1 := own_k
theorem d52_6_2 : Dk k52_6 2 (.iconst 1) 1 := own_k
theorem d52_6_3 : Dk k52_6 3 .ishr 1 := own_k
theorem d52_6_4 : Dk k52_6 4 .ireturn 1 := own_k
theorem ef_rm_wln (m : MethodId) (x0 : Addr) : entryFrame m #[(.ref x0)] 1 = mkF m 0 #[.val (.ref x0)] [] := by
   first | (simp [entryFrame, mkF, argsToLocals, Value.category]; done) | rfl
set_option maxRecDepth 65536 in
set_option maxHeartbeats 40000000 in
theorem rm_wln (l : Launch) (Z : State) (a0 : Array Value) (hw : ∀ d ∈ tables_1, d.before a0 Z = true) (ws : List Jvm.Cond) (t : Addr) (k : ClassId) (N : Nat) (vs : List Value) (h0 : Heap) (n0 : Nat) (O0 : Old Z n0 h0) (V_t : Arv Z h0 t k .byte (Int32.ofNat (2 * N)) vs (.int (0 : Int32))) (hN : N ≤ 4000) :
    MetFree l (⟨"java/lang/StringUTF16", "length", "([B)I"⟩ : MethodName) (head1 (Jvm.Cond.code (⟨"java/lang/StringUTF16", "length", "([B)I"⟩ : MethodName) jdk_52_method_6_code 1 (some .int) :: ws) ⟨0, 0, 0, 0⟩) (fun aA U => aA = #[(.ref t)] ∧ Z.Warmed39 U.vm ∧ U.heap = h0) (fun _ _ _ _ _ => True) (fun _ U oO U' => ∃ rV rL, oO = .returned rV ∧ QPure (some (.int (Int32.ofNat N))) h0 n0 rV U'.heap rL ∧ FrameEnd U oO U' rL 0 0) := by
  refine MetFree.of_bodySF (plainFor_of_name pn_1) hisR ?_
  intro p e s m args below meth cC s₁ Bd hml0 hP hK
  obtain ⟨rfl, hZ, hh⟩ := hP
  have hx := Bd.exec
  have hby := Bd.bytes
  have hml : cC.maxLocals = 1 := hml0
  have hown : s.vm.findClass "java/lang/StringUTF16" = some m.cls := findClass_of_methodNamed Bd.named
  have hnm := (name_of_methodNamed Bd.named Bd.method).1
  have hrt := Bd.returns
  have hlk : meth.locks = false := Bd.notSynchronized
  have X0 : Stand p l e ⟨0, 0, 0, 0⟩ s m #[(.ref t)] below meth cC s₁ [] 0 0 := Stand.of_body Bd
  have e0 : s₁.heap = h0 := by rw [← hh, Bd.state]; rfl
  have N0 := Fr.nil n0
  have Z0 : n0 ≤ h0.size := O0.1 ▸ O0.2.1
  show own_Go p e below (s₁.setTop (entryFrame m #[(.ref t)] 1)) (fun oO U' => ∃ rV rL, oO = .returned rV ∧ QPure (some (.int (Int32.ofNat N))) h0 n0 rV U'.heap rL ∧ FrameEnd s oO U' rL 0 0)
  refine own_go (fun _ k => castTop (ef_rm_wln m t) k) ?_
  refine og (fun _ k => XS.aloadN X0.here hx rfl (hb hby d52_6_0) rfl rfl k) ?_
  obtain ⟨c112, A112, q112, S112, M112, Hs112, Gs112⟩ := id V_t
  refine og (fun _ k => X0.arraylength hx (by rw [e0]; exact A112.1) (State.isArrayOf_alike hZ.alike A112.2.1) (g := (mkF m 1 #[.val (.ref t)] [(.ref t)])) rfl rfl (hb hby d52_6_1) _ k) ?_
  rw [len_of S112 M112]
  refine og (fun _ k => XS.iconst X0.here hx rfl (hb hby d52_6_2) k) ?_
  refine og (fun _ k => XS.ishr X0.here hx rfl (hb hby d52_6_3) rfl k) ?_
  try dsimp only [mkF]
  refine own_fin (v := (some (.int ((Int32.ofNat (2 * N)) >>> ((1 : Int32) &&& 31))))) X0 (fun h => by rw [hrt] at h; cases h) hlk (fun fs hr => retI X0 hx hrt (hb hby d52_6_4) hr) (QQ := QPure (some (.int (Int32.ofNat N))) h0 n0) ?_ (by decide) (by decide)
  rw [e0]
  exact ⟨congrArg (fun z => some (Value.int z)) (StrChars.shr1 (by omega : 2 * N < 2 ^ 31)), N0, rfl⟩

abbrev k52_91 := jdk_52_method_91_code
theorem d52_91_0 : Dk k52_91 0 (.iload_n 0) 1 := own_k
theorem d52_91_1 : Dk k52_91 1 (.aload_n 1) 1 := own_k
theorem d52_91_2 : Dk k52_91 2 (.invokestatic 48) 3 := own_k
theorem pd_12 : parseMethodDescriptor "([B)I" = some ⟨[(.array .byte)], some .int⟩ := by decide +kernel
theorem d52_91_5 : Dk k52_91 5 (.invokestatic 414) 3 := own_k
theorem pd_13 : parseMethodDescriptor "(II)V" = some ⟨[.int, .int], none⟩ := by decide +kernel
theorem d52_91_8 : Dk k52_91 8 .return_ 1 := own_k
theorem ef_rm_wci (m : MethodId) (x0 : Int32) (x1 : Addr) : entryFrame m #[(.int x0), (.ref x1)] 2 = mkF m 0 #[.val (.int x0), .val (.ref x1)] [] := by
   first | (simp [entryFrame, mkF, argsToLocals, Value.category]; done) | rfl
set_option maxRecDepth 65536 in
set_option maxHeartbeats 40000000 in
theorem rm_wci (l : Launch) (Z : State) (a0 : Array Value) (hw : ∀ d ∈ tables_1, d.before a0 Z = true) (ws : List Jvm.Cond) (t : Addr) (k : ClassId) (N : Nat) (vs : List Value) (i : Nat) (G3 : Value) (h0 : Heap) (n0 : Nat) (O0 : Old Z n0 h0) (O4 : Sta Z Z.heap "jdk/internal/util/Preconditions" "SIOOBE_FORMATTER" "Ljava/util/function/BiFunction;" G3) (rG3 : G3.isRef = true) (V_t : Arv Z h0 t k .byte (Int32.ofNat (2 * N)) vs (.int (0 : Int32))) (hN : N ≤ 4000) (hi : i < N) :
    MetFree l (⟨"java/lang/StringUTF16", "checkIndex", "(I[B)V"⟩ : MethodName) (head1 (Jvm.Cond.code (⟨"java/lang/StringUTF16", "checkIndex", "(I[B)V"⟩ : MethodName) jdk_52_method_91_code 2 none :: ws) ⟨2, 0, 0, 27⟩) (fun aA U => aA = #[(.int (Int32.ofNat i)), (.ref t)] ∧ Z.Warmed39 U.vm ∧ U.heap = h0) (fun _ _ _ _ _ => True) (fun _ U oO U' => ∃ rV rL, oO = .returned rV ∧ QPure (none) h0 n0 rV U'.heap rL ∧ FrameEnd U oO U' rL 0 0) := by
  refine MetFree.of_bodySF (plainFor_of_name pn_1) hisR ?_
  intro p e s m args below meth cC s₁ Bd hml0 hP hK
  obtain ⟨rfl, hZ, hh⟩ := hP
  have hx := Bd.exec
  have hby := Bd.bytes
  have hml : cC.maxLocals = 2 := hml0
  have hown : s.vm.findClass "java/lang/StringUTF16" = some m.cls := findClass_of_methodNamed Bd.named
  have hnm := (name_of_methodNamed Bd.named Bd.method).1
  have hrt := Bd.returns
  have hlk : meth.locks = false := Bd.notSynchronized
  have X0 : Stand p l e ⟨2, 0, 0, 27⟩ s m #[(.int (Int32.ofNat i)), (.ref t)] below meth cC s₁ [] 0 0 := Stand.of_body Bd
  have e0 : s₁.heap = h0 := by rw [← hh, Bd.state]; rfl
  have N0 := Fr.nil n0
  have Z0 : n0 ≤ h0.size := O0.1 ▸ O0.2.1
  show own_Go p e below (s₁.setTop (entryFrame m #[(.int (Int32.ofNat i)), (.ref t)] 2)) (fun oO U' => ∃ rV rL, oO = .returned rV ∧ QPure (none) h0 n0 rV U'.heap rL ∧ FrameEnd s oO U' rL 0 0)
  refine own_go (fun _ k => castTop (ef_rm_wci m _ t) k) ?_
  refine og (fun _ k => XS.iloadN X0.here hx rfl (hb hby d52_91_0) rfl k) ?_
  refine og (fun _ k => XS.aloadN X0.here hx rfl (hb hby d52_91_1) rfl rfl k) ?_
  obtain ⟨v113, _, ⟨T113, L113, k113, n113⟩, -, X113, ⟨Lc113, hQ113, l113, y113, z113⟩, st113⟩ := Jvm.LawKit.callS X0 hx (y := (⟨"java/lang/StringUTF16", "length", "([B)I"⟩ : MethodName)) hown (mvT hZ (tw hw 229 rfl)) (mvT hZ (tw hw 230 rfl)) (mvT hZ (tw hw 109 rfl)) (mvT hZ (tw hw 231 rfl)) (by decide) (backOf (W := 1) (rm_wln l Z a0 hw [] t k N vs h0 n0 O0 V_t hN) hZ (tw hw 231 rfl) (tw hw 109 rfl) (by decide) (by decide)) (g := (mkF m 2 #[.val (.int (Int32.ofNat i)), .val (.ref t)] [(.ref t), (.int (Int32.ofNat i))])) rfl (by rw [hml]; rfl) (argsL := [(.ref t)]) (rest := [(.int (Int32.ofNat i))]) (lenOf pd_12 rfl) rfl (by show 2 * 0 + _ ≤ _; exact Nat.le_of_eq rfl) (hb hby d52_91_2) (fun _ _ => ⟨rfl, e0, (by decide : 0 + 0 ≤ _), (by decide : 0 + 0 ≤ _)⟩)
  dsimp only [Pt.U, Pt.locs, Pt.cells, Pt.slots] at X113 l113 y113 z113 st113 hQ113
  subst l113 y113 z113
  refine own_go st113 ?_
  obtain ⟨rfl, Nq113, e113⟩ := hQ113
  have N113 := Fr.app N0 Nq113
  obtain ⟨v114, _, ⟨T114, L114, k114, n114⟩, -, X114, ⟨Lc114, hQ114, l114, y114, z114⟩, st114⟩ := Jvm.LawKit.callS X113 hx (y := (⟨"java/lang/String", "checkIndex", "(II)V"⟩ : MethodName)) hown (mvT hZ (tw hw 232 rfl)) (mvT hZ (tw hw 132 rfl)) (mvT hZ (tw hw 2 rfl)) (mvT hZ (tw hw 133 rfl)) (by decide) (backOf (W := 0) (rm_sci l Z a0 hw [] (Int32.ofNat i) (Int32.ofNat N) G3 h0 n0 O0 O4 rG3 (own_nn0 (by omega)) ((own_lti (by omega) (by omega)).mpr hi)) hZ (tw hw 133 rfl) (tw hw 2 rfl) (by decide) (by decide)) (g := (mkF m 5 #[.val (.int (Int32.ofNat i)), .val (.ref t)] [(.int (Int32.ofNat N)), (.int (Int32.ofNat i))])) rfl (by rw [hml]; rfl) (argsL := [(.int (Int32.ofNat i)), (.int (Int32.ofNat N))]) (rest := []) (lenOf pd_13 rfl) rfl (by show 2 * 0 + _ ≤ _; exact Nat.le_of_eq rfl) (hb hby d52_91_5) (fun _ _ => ⟨rfl, e113, (by decide : 0 + 0 ≤ _), (by decide : 0 + 0 ≤ _)⟩)
  dsimp only [Pt.U, Pt.locs, Pt.cells, Pt.slots] at X114 l114 y114 z114 st114 hQ114
  subst l114 y114 z114
  refine own_go st114 ?_
  obtain ⟨rfl, Nq114, e114⟩ := hQ114
  have N114 := Fr.app N113 Nq114
  try dsimp only [mkF]
  refine own_fin (v := none) X114 (fun _ => rfl) hlk (fun fs hr => X114.returnOut hx hrt (hb hby d52_91_8) hr) (QQ := QPure (none) h0 n0) ?_ (by decide) (by decide)
  rw [e114]
  exact ⟨rfl, N114, rfl⟩

abbrev k52_94 := jdk_52_method_94_code
theorem d52_94_0 : Dk k52_94 0 (.iload_n 0) 1 := own_k
theorem d52_94_1 : Dk k52_94 1 (.iload_n 1) 1 := own_k
theorem d52_94_2 : Dk k52_94 2 (.aload_n 2) 1 := own_k
theorem d52_94_3 : Dk k52_94 3 (.invokestatic 48) 3 := own_k
theorem d52_94_6 : Dk k52_94 6 (.invokestatic 419) 3 := own_k
theorem pd_14 : parseMethodDescriptor "(III)I" = some ⟨[.int, .int, .int], some .int⟩ := by decide +kernel
theorem d52_94_9 : Dk k52_94 9 .pop 1 := own_k
theorem d52_94_10 : Dk k52_94 10 .return_ 1 := own_k
theorem ef_rm_wbo (m : MethodId) (x0 : Int32) (x1 : Int32) (x2 : Addr) : entryFrame m #[(.int x0), (.int x1), (.ref x2)] 3 = mkF m 0 #[.val (.int x0), .val (.int x1), .val (.ref x2)] [] := by
   first | (simp [entryFrame, mkF, argsToLocals, Value.category]; done) | rfl
set_option maxRecDepth 65536 in
set_option maxHeartbeats 40000000 in
theorem rm_wbo (l : Launch) (Z : State) (a0 : Array Value) (hw : ∀ d ∈ tables_1, d.before a0 Z = true) (ws : List Jvm.Cond) (t : Addr) (k : ClassId) (N : Nat) (vs : List Value) (i j : Nat) (G3 : Value) (h0 : Heap) (n0 : Nat) (O0 : Old Z n0 h0) (O4 : Sta Z Z.heap "jdk/internal/util/Preconditions" "SIOOBE_FORMATTER" "Ljava/util/function/BiFunction;" G3) (rG3 : G3.isRef = true) (V_t : Arv Z h0 t k .byte (Int32.ofNat (2 * N)) vs (.int (0 : Int32))) (hN : N ≤ 4000) (hi : i + j ≤ N) :
    MetFree l (⟨"java/lang/StringUTF16", "checkBoundsOffCount", "(II[B)V"⟩ : MethodName) (head1 (Jvm.Cond.code (⟨"java/lang/StringUTF16", "checkBoundsOffCount", "(II[B)V"⟩ : MethodName) jdk_52_method_94_code 3 none :: ws) ⟨2, 0, 0, 29⟩) (fun aA U => aA = #[(.int (Int32.ofNat i)), (.int (Int32.ofNat j)), (.ref t)] ∧ Z.Warmed39 U.vm ∧ U.heap = h0) (fun _ _ _ _ _ => True) (fun _ U oO U' => ∃ rV rL, oO = .returned rV ∧ QPure (none) h0 n0 rV U'.heap rL ∧ FrameEnd U oO U' rL 0 0) := by
  refine MetFree.of_bodySF (plainFor_of_name pn_1) hisR ?_
  intro p e s m args below meth cC s₁ Bd hml0 hP hK
  obtain ⟨rfl, hZ, hh⟩ := hP
  have hx := Bd.exec
  have hby := Bd.bytes
  have hml : cC.maxLocals = 3 := hml0
  have hown : s.vm.findClass "java/lang/StringUTF16" = some m.cls := findClass_of_methodNamed Bd.named
  have hnm := (name_of_methodNamed Bd.named Bd.method).1
  have hrt := Bd.returns
  have hlk : meth.locks = false := Bd.notSynchronized
  have X0 : Stand p l e ⟨2, 0, 0, 29⟩ s m #[(.int (Int32.ofNat i)), (.int (Int32.ofNat j)), (.ref t)] below meth cC s₁ [] 0 0 := Stand.of_body Bd
  have e0 : s₁.heap = h0 := by rw [← hh, Bd.state]; rfl
  have N0 := Fr.nil n0
  have Z0 : n0 ≤ h0.size := O0.1 ▸ O0.2.1
  show own_Go p e below (s₁.setTop (entryFrame m #[(.int (Int32.ofNat i)), (.int (Int32.ofNat j)), (.ref t)] 3)) (fun oO U' => ∃ rV rL, oO = .returned rV ∧ QPure (none) h0 n0 rV U'.heap rL ∧ FrameEnd s oO U' rL 0 0)
  refine own_go (fun _ k => castTop (ef_rm_wbo m _ _ t) k) ?_
  refine og (fun _ k => XS.iloadN X0.here hx rfl (hb hby d52_94_0) rfl k) ?_
  refine og (fun _ k => XS.iloadN X0.here hx rfl (hb hby d52_94_1) rfl k) ?_
  refine og (fun _ k => XS.aloadN X0.here hx rfl (hb hby d52_94_2) rfl rfl k) ?_
  obtain ⟨v115, _, ⟨T115, L115, k115, n115⟩, -, X115, ⟨Lc115, hQ115, l115, y115, z115⟩, st115⟩ := Jvm.LawKit.callS X0 hx (y := (⟨"java/lang/StringUTF16", "length", "([B)I"⟩ : MethodName)) hown (mvT hZ (tw hw 229 rfl)) (mvT hZ (tw hw 230 rfl)) (mvT hZ (tw hw 109 rfl)) (mvT hZ (tw hw 231 rfl)) (by decide) (backOf (W := 2) (rm_wln l Z a0 hw [] t k N vs h0 n0 O0 V_t hN) hZ (tw hw 231 rfl) (tw hw 109 rfl) (by decide) (by decide)) (g := (mkF m 3 #[.val (.int (Int32.ofNat i)), .val (.int (Int32.ofNat j)), .val (.ref t)] [(.ref t), (.int (Int32.ofNat j)), (.int (Int32.ofNat i))])) rfl (by rw [hml]; rfl) (argsL := [(.ref t)]) (rest := [(.int (Int32.ofNat j)), (.int (Int32.ofNat i))]) (lenOf pd_12 rfl) rfl (by show 2 * 0 + _ ≤ _; exact Nat.le_of_eq rfl) (hb hby d52_94_3) (fun _ _ => ⟨rfl, e0, (by decide : 0 + 0 ≤ _), (by decide : 0 + 0 ≤ _)⟩)
  dsimp only [Pt.U, Pt.locs, Pt.cells, Pt.slots] at X115 l115 y115 z115 st115 hQ115
  subst l115 y115 z115
  refine own_go st115 ?_
  obtain ⟨rfl, Nq115, e115⟩ := hQ115
  have N115 := Fr.app N0 Nq115
  try dsimp only [mkF]
  obtain ⟨v116, _, ⟨T116, L116, k116, n116⟩, -, X116, ⟨Lc116, hQ116, l116, y116, z116⟩, st116⟩ := Jvm.LawKit.callS X115 hx (y := (⟨"java/lang/String", "checkBoundsOffCount", "(III)I"⟩ : MethodName)) hown (mvT hZ (tw hw 248 rfl)) (mvT hZ (tw hw 249 rfl)) (mvT hZ (tw hw 2 rfl)) (mvT hZ (tw hw 250 rfl)) (by decide) (backOf (W := 0) (rm_cbo l Z a0 hw [] (Int32.ofNat i) (Int32.ofNat j) (Int32.ofNat N) G3 h0 n0 O0 O4 rG3 (own_or3 (by omega) (by omega) (by omega)) (own_room3 hi (by omega))) hZ (tw hw 250 rfl) (tw hw 2 rfl) (by decide) (by decide)) (g := (mkF m 6 #[.val (.int (Int32.ofNat i)), .val (.int (Int32.ofNat j)), .val (.ref t)] [(.int (Int32.ofNat N)), (.int (Int32.ofNat j)), (.int (Int32.ofNat i))])) rfl (by rw [hml]; rfl) (argsL := [(.int (Int32.ofNat i)), (.int (Int32.ofNat j)), (.int (Int32.ofNat N))]) (rest := []) (lenOf pd_14 rfl) rfl (by show 2 * 0 + _ ≤ _; exact Nat.le_of_eq rfl) (hb hby d52_94_6) (fun _ _ => ⟨rfl, e115, (by decide : 0 + 0 ≤ _), (by decide : 0 + 0 ≤ _)⟩)
  dsimp only [Pt.U, Pt.locs, Pt.cells, Pt.slots] at X116 l116 y116 z116 st116 hQ116
  subst l116 y116 z116
  refine own_go st116 ?_
  obtain ⟨rfl, Nq116, e116⟩ := hQ116
  have N116 := Fr.app N115 Nq116
  refine og (fun _ k => XS.pop X116.here hx rfl (hb hby d52_94_9) rfl rfl k) ?_
  refine own_fin (v := none) X116 (fun _ => rfl) hlk (fun fs hr => X116.returnOut hx hrt (hb hby d52_94_10) hr) (QQ := QPure (none) h0 n0) ?_ (by decide) (by decide)
  rw [e116]
  exact ⟨rfl, N116, rfl⟩

abbrev k52_86 := jdk_52_method_86_code
theorem d52_86_0 : Dk k52_86 0 (.iload_n 3) 1 := own_k
theorem d52_86_1 : Dk k52_86 1 (.iload 4) 2 := own_k
theorem d52_86_3 : Dk k52_86 3 (.aload_n 2) 1 := own_k
theorem d52_86_4 : Dk k52_86 4 (.invokestatic 173) 3 := own_k
theorem pd_15 : parseMethodDescriptor "(II[B)V" = some ⟨[.int, .int, (.array .byte)], none⟩ := by decide +kernel
theorem d52_86_7 : Dk k52_86 7 (.iconst 0) 1 := own_k
theorem d52_86_8 : Dk k52_86 8 (.istore 5) 2 := own_k
theorem d52_86_10 : Dk k52_86 10 (.iload 5) 2 := own_k
theorem d52_86_12 : Dk k52_86 12 (.iload 4) 2 := own_k
theorem d52_86_14 : Dk k52_86 14 (.if_icmp .ge 27) 3 := own_k
theorem d52_86_41 : Dk k52_86 41 .return_ 1 := own_k
theorem d52_86_17 : Dk k52_86 17 (.aload_n 2) 1 := own_k
theorem d52_86_18 : Dk k52_86 18 (.iload_n 3) 1 := own_k
theorem d52_86_19 : Dk k52_86 19 (.iinc 3 1) 3 := own_k
theorem d52_86_22 : Dk k52_86 22 (.aload_n 0) 1 := own_k
theorem d52_86_23 : Dk k52_86 23 (.iload_n 1) 1 := own_k
theorem d52_86_24 : Dk k52_86 24 (.iinc 1 1) 3 := own_k
theorem d52_86_27 : Dk k52_86 27 .baload 1 := own_k
theorem d52_86_28 : Dk k52_86 28 (.sipush 255) 3 := own_k
theorem d52_86_31 : Dk k52_86 31 .iand 1 := own_k
theorem d52_86_32 : Dk k52_86 32 (.invokestatic 111) 3 := own_k
theorem d52_86_35 : Dk k52_86 35 (.iinc 5 1) 3 := own_k
theorem d52_86_38 : Dk k52_86 38 (.goto (-28)) 3 := own_k
theorem ef_rm_inf (m : MethodId) (x0 : Addr) (x1 : Int32) (x2 : Addr) (x3 : Int32) (x4 : Int32) : entryFrame m #[(.ref x0), (.int x1), (.ref x2), (.int x3), (.int x4)] 6 = mkF m 0 #[.val (.ref x0), .val (.int x1), .val (.ref x2), .val (.int x3), .val (.int x4), .unset] [] := by
   first | (simp [entryFrame, mkF, argsToLocals, Value.category]; done) | rfl
set_option maxRecDepth 65536 in
set_option maxHeartbeats 40000000 in
theorem rm_inf (l : Launch) (Z : State) (a0 : Array Value) (hw : ∀ d ∈ tables_1, d.before a0 Z = true) (ws : List Jvm.Cond) (sr : Addr) (ks : ClassId) (Ns : Nat) (ss : List Value) (d : Addr) (kd : ClassId) (Nd : Nat) (ds cs : List Int32) (G3 : Value) (h0 : Heap) (n0 : Nat) (O0 : Old Z n0 h0) (O4 : Sta Z Z.heap "jdk/internal/util/Preconditions" "SIOOBE_FORMATTER" "Ljava/util/function/BiFunction;" G3) (rG3 : G3.isRef = true) (OA : Sta Z Z.heap "java/lang/StringUTF16" "$assertionsDisabled" "Z" (.int (1 : Int32))) (OH : Sta Z Z.heap "java/lang/StringUTF16" "HI_BYTE_SHIFT" "I" (.int (0 : Int32))) (OL : Sta Z Z.heap "java/lang/StringUTF16" "LO_BYTE_SHIFT" "I" (.int (8 : Int32))) (V_s : Arv Z h0 sr ks .byte (Int32.ofNat Ns) ss (.int (0 : Int32))) (V_d : Arv Z h0 d kd .byte (Int32.ofNat (2 * Nd)) (own_wx (2 * Nd) ds cs 0) (.int (0 : Int32))) (hok : own_Ok cs) (hall : ∀ c ∈ cs, ¬ (255 : Int32) < c) (hsrc : ∀ i, i < cs.length → ss.getD i (.int (0 : Int32)) = .int (StrChars.lo8 (cs.getD i 0))) (hNs : cs.length ≤ Ns) (hNs2 : Ns ≤ 4000) (hNd : ds.length + cs.length ≤ Nd) (hNd2 : Nd ≤ 4000) (g_d : n0 ≤ d) (hsd : sr ≠ d) :
    MetFree l (⟨"java/lang/StringUTF16", "inflate", "([BI[BII)V"⟩ : MethodName) (head1 (Jvm.Cond.code (⟨"java/lang/StringUTF16", "inflate", "([BI[BII)V"⟩ : MethodName) jdk_52_method_86_code 6 none :: ws) ⟨3, 0, 0, 43⟩) (fun aA U => aA = #[(.ref sr), (.int (0 : Int32)), (.ref d), (.int (Int32.ofNat ds.length)), (.int (Int32.ofNat cs.length))] ∧ Z.Warmed39 U.vm ∧ U.heap = h0) (fun _ _ _ _ _ => True) (fun _ U oO U' => ∃ rV rL, oO = .returned rV ∧ QInf Z d kd (Int32.ofNat (2 * Nd)) (own_wx (2 * Nd) ds cs cs.length) h0 n0 rV U'.heap rL ∧ FrameEnd U oO U' rL 0 0) := by
  refine MetFree.of_bodySF (plainFor_of_name pn_1) hisR ?_
  intro p e s m args below meth cC s₁ Bd hml0 hP hK
  obtain ⟨rfl, hZ, hh⟩ := hP
  have hx := Bd.exec
  have hby := Bd.bytes
  have hml : cC.maxLocals = 6 := hml0
  have hown : s.vm.findClass "java/lang/StringUTF16" = some m.cls := findClass_of_methodNamed Bd.named
  have hnm := (name_of_methodNamed Bd.named Bd.method).1
  have hrt := Bd.returns
  have hlk : meth.locks = false := Bd.notSynchronized
  have X0 : Stand p l e ⟨3, 0, 0, 43⟩ s m #[(.ref sr), (.int (0 : Int32)), (.ref d), (.int (Int32.ofNat ds.length)), (.int (Int32.ofNat cs.length))] below meth cC s₁ [] 0 0 := Stand.of_body Bd
  have e0 : s₁.heap = h0 := by rw [← hh, Bd.state]; rfl
  have N0 := Fr.nil n0
  have Z0 : n0 ≤ h0.size := O0.1 ▸ O0.2.1
  show own_Go p e below (s₁.setTop (entryFrame m #[(.ref sr), (.int (0 : Int32)), (.ref d), (.int (Int32.ofNat ds.length)), (.int (Int32.ofNat cs.length))] 6)) (fun oO U' => ∃ rV rL, oO = .returned rV ∧ QInf Z d kd (Int32.ofNat (2 * Nd)) (own_wx (2 * Nd) ds cs cs.length) h0 n0 rV U'.heap rL ∧ FrameEnd s oO U' rL 0 0)
  refine own_go (fun _ k => castTop (ef_rm_inf m sr _ d _ _) k) ?_
  have hlen : cs.length ≤ 4000 := hok.2
  refine og (fun _ k => XS.iloadN X0.here hx rfl (hb hby d52_86_0) rfl k) ?_
  refine og (fun _ k => XS.iload X0.here hx rfl (hb hby d52_86_1) rfl k) ?_
  refine og (fun _ k => XS.aloadN X0.here hx rfl (hb hby d52_86_3) rfl rfl k) ?_
  obtain ⟨v117, _, ⟨T117, L117, k117, n117⟩, -, X117, ⟨Lc117, hQ117, l117, y117, z117⟩, st117⟩ := Jvm.LawKit.callS X0 hx (y := (⟨"java/lang/StringUTF16", "checkBoundsOffCount", "(II[B)V"⟩ : MethodName)) hown (mvT hZ (tw hw 245 rfl)) (mvT hZ (tw hw 246 rfl)) (mvT hZ (tw hw 109 rfl)) (mvT hZ (tw hw 247 rfl)) (by decide) (backOf (W := 0) (rm_wbo l Z a0 hw [] d kd Nd (own_wx (2 * Nd) ds cs 0) ds.length cs.length G3 h0 n0 O0 O4 rG3 V_d hNd2 hNd) hZ (tw hw 247 rfl) (tw hw 109 rfl) (by decide) (by decide)) (g := (mkF m 4 #[.val (.ref sr), .val (.int (0 : Int32)), .val (.ref d), .val (.int (Int32.ofNat ds.length)), .val (.int (Int32.ofNat cs.length)), .unset] [(.ref d), (.int (Int32.ofNat cs.length)), (.int (Int32.ofNat ds.length))])) rfl (by rw [hml]; rfl) (argsL := [(.int (Int32.ofNat ds.length)), (.int (Int32.ofNat cs.length)), (.ref d)]) (rest := []) (lenOf pd_15 rfl) rfl (by show 2 * 0 + _ ≤ _; exact Nat.le_of_eq rfl) (hb hby d52_86_4) (fun _ _ => ⟨rfl, e0, (by decide : 0 + 0 ≤ _), (by decide : 0 + 0 ≤ _)⟩)
  dsimp only [Pt.U, Pt.locs, Pt.cells, Pt.slots] at X117 l117 y117 z117 st117 hQ117
  subst l117 y117 z117
  refine own_go st117 ?_
  obtain ⟨rfl, Nq117, e117⟩ := hQ117
  have N117 := Fr.app N0 Nq117
  try dsimp only [mkF]
  refine og (fun _ k => XS.iconst X117.here hx rfl (hb hby d52_86_7) k) ?_
  refine og (fun _ k => XS.istore X117.here hx rfl (hb hby d52_86_8) rfl (l' := #[.val (.ref sr), .val (.int (0 : Int32)), .val (.ref d), .val (.int (Int32.ofNat ds.length)), .val (.int (Int32.ofNat cs.length)), .val (.int (0 : Int32))]) rfl k) ?_
  have loop : ∀ (kT iloop : Nat) (T : State) (locs : List Loc) (h : Heap), iloop + kT = cs.length → Stand p l e ⟨3, 0, 0, 43⟩ s m #[(.ref sr), (.int (0 : Int32)), (.ref d), (.int (Int32.ofNat ds.length)), (.int (Int32.ofNat cs.length))] below meth cC T locs 0 0 → T.heap = h → Fr n0 locs → Old Z n0 h → Keep h0 h [d] → Arv Z h sr ks .byte (Int32.ofNat Ns) ss (.int (0 : Int32)) → Arv Z h d kd .byte (Int32.ofNat (2 * Nd)) (own_wx (2 * Nd) ds cs iloop) (.int (0 : Int32)) → own_Go p e below (T.setTop (mkF m 10 #[.val (.ref sr), .val (.int (Int32.ofNat iloop)), .val (.ref d), .val (.int (Int32.ofNat (ds.length + iloop))), .val (.int (Int32.ofNat cs.length)), .val (.int (Int32.ofNat iloop))] [])) (fun oO U' => ∃ rV rL, oO = .returned rV ∧ QInf Z d kd (Int32.ofNat (2 * Nd)) (own_wx (2 * Nd) ds cs cs.length) h0 n0 rV U'.heap rL ∧ FrameEnd s oO U' rL 0 0) := by
    intro kT
    induction kT with
    | zero =>
      intro iloop T118 L118 h118 hik X118 e118 N118 O118 K118 J0_118 J1_118
      have Z0_118 : n0 ≤ h118.size := O118.1 ▸ O118.2.1
      have hin : iloop = cs.length := by omega
      have hlt : ¬ ((Int32.ofNat iloop) < (Int32.ofNat cs.length)) := by rw [own_lti (by omega) (by omega)]; omega
      refine og (fun _ k => XS.iload X118.here hx rfl (hb hby d52_86_10) rfl k) ?_
      refine og (fun _ k => XS.iload X118.here hx rfl (hb hby d52_86_12) rfl k) ?_
      try dsimp only [mkF]
      refine og (fun _ k => XS.icmpYes X118.here hx rfl (pc0 := 14) (pc' := 41) rfl (hb hby d52_86_14) rfl (flt hlt).2.1 (by decide) (by decide) k) ?_
      refine own_fin (v := none) X118 (fun _ => rfl) hlk (fun fs hr => X118.returnOut hx hrt (hb hby d52_86_41) hr) (QQ := QInf Z d kd (Int32.ofNat (2 * Nd)) (own_wx (2 * Nd) ds cs cs.length) h0 n0) ?_ (by decide) (by decide)
      rw [e118]
      exact ⟨rfl, N118, K118, by have q := J1_118; rw [hin] at q; exact q⟩
    | succ kT ih =>
      intro iloop T119 L119 h119 hik X119 e119 N119 O119 K119 J0_119 J1_119
      have Z0_119 : n0 ≤ h119.size := O119.1 ▸ O119.2.1
      have hi : iloop < cs.length := by omega
      have hlt : (Int32.ofNat iloop) < (Int32.ofNat cs.length) := (own_lti (by omega) (by omega)).mpr hi
      refine og (fun _ k => XS.iload X119.here hx rfl (hb hby d52_86_10) rfl k) ?_
      refine og (fun _ k => XS.iload X119.here hx rfl (hb hby d52_86_12) rfl k) ?_
      try dsimp only [mkF]
      refine og (fun _ k => XS.icmpNo X119.here hx rfl (hb hby d52_86_14) rfl (tlt hlt).2.1 k) ?_
      refine og (fun _ k => XS.aloadN X119.here hx rfl (hb hby d52_86_17) rfl rfl k) ?_
      refine og (fun _ k => XS.iloadN X119.here hx rfl (hb hby d52_86_18) rfl k) ?_
      refine og (fun _ k => XS.iinc X119.here hx rfl (hb hby d52_86_19) rfl (l' := #[.val (.ref sr), .val (.int (Int32.ofNat iloop)), .val (.ref d), .val (.int ((Int32.ofNat (ds.length + iloop)) + (1 : Int32))), .val (.int (Int32.ofNat cs.length)), .val (.int (Int32.ofNat iloop))]) rfl k) ?_
      refine og (fun _ k => XS.aloadN X119.here hx rfl (hb hby d52_86_22) rfl rfl k) ?_
      try dsimp only [mkF]
      refine og (fun _ k => XS.iloadN X119.here hx rfl (hb hby d52_86_23) rfl k) ?_
      refine og (fun _ k => XS.iinc X119.here hx rfl (hb hby d52_86_24) rfl (l' := #[.val (.ref sr), .val (.int ((Int32.ofNat iloop) + (1 : Int32))), .val (.ref d), .val (.int ((Int32.ofNat (ds.length + iloop)) + (1 : Int32))), .val (.int (Int32.ofNat cs.length)), .val (.int (Int32.ofNat iloop))]) rfl k) ?_
      obtain ⟨c120, A120, q120, S120, M120, Hs120, Gs120⟩ := id J0_119
      have hi120 := inb_of (j := (Int32.ofNat iloop)) S120 (own_inb (j := Ns) (by omega) (by omega))
      refine og (fun _ k => X119.baloadBytes hx (j := (Int32.ofNat iloop)) (v := (.int (StrChars.lo8 (cs.getD iloop 0)))) (by rw [e119]; exact A120.1) (State.isArrayOf_alike hZ.alike A120.2.1) A120.2.2 hi120 (Has.at Hs120 hi120 (by rw [own_tn (by omega)]; exact hsrc _ hi)) (g := (mkF m 27 #[.val (.ref sr), .val (.int ((Int32.ofNat iloop) + (1 : Int32))), .val (.ref d), .val (.int ((Int32.ofNat (ds.length + iloop)) + (1 : Int32))), .val (.int (Int32.ofNat cs.length)), .val (.int (Int32.ofNat iloop))] [(.int (Int32.ofNat iloop)), (.ref sr), (.int (Int32.ofNat (ds.length + iloop))), (.ref d)])) rfl rfl (hb hby d52_86_27) _ k) ?_
      refine og (fun _ k => XS.sipush X119.here hx rfl (hb hby d52_86_28) k) ?_
      refine og (fun _ k => XS.iand X119.here hx rfl (hb hby d52_86_31) rfl k) ?_
      try dsimp only [mkF]
      show own_Go p e below (T119.setTop (mkF m 32 #[.val (.ref sr), .val (.int ((Int32.ofNat iloop) + (1 : Int32))), .val (.ref d), .val (.int ((Int32.ofNat (ds.length + iloop)) + (1 : Int32))), .val (.int (Int32.ofNat cs.length)), .val (.int (Int32.ofNat iloop))] [(.int ((StrChars.lo8 (cs.getD iloop 0)) &&& (255 : Int32))), (.int (Int32.ofNat (ds.length + iloop))), (.ref d)])) _
      rw [StrChars.lo8_mask (hok.at hi).1 (hall _ (own_getm hi))]
      obtain ⟨v121, _, ⟨T121, L121, k121, n121⟩, -, X121, ⟨Lc121, hQ121, l121, y121, z121⟩, st121⟩ := Jvm.LawKit.callS X119 hx (y := (⟨"java/lang/StringUTF16", "putChar", "([BII)V"⟩ : MethodName)) hown (mvT hZ (tw hw 214 rfl)) (mvT hZ (tw hw 215 rfl)) (mvT hZ (tw hw 109 rfl)) (mvT hZ (tw hw 216 rfl)) (by decide) (backOf (W := 0) (rm_put l Z a0 hw [] d kd (2 * Nd) (own_wx (2 * Nd) ds cs iloop) (ds.length + iloop) (cs.getD iloop 0) h119 n0 O119 OA OH OL J1_119 g_d (own_wxl (by omega) (by omega)) (by omega) (by omega)) hZ (tw hw 216 rfl) (tw hw 109 rfl) (by decide) (by decide)) (g := (mkF m 32 #[.val (.ref sr), .val (.int ((Int32.ofNat iloop) + (1 : Int32))), .val (.ref d), .val (.int ((Int32.ofNat (ds.length + iloop)) + (1 : Int32))), .val (.int (Int32.ofNat cs.length)), .val (.int (Int32.ofNat iloop))] [(.int (cs.getD iloop 0)), (.int (Int32.ofNat (ds.length + iloop))), (.ref d)])) rfl (by rw [hml]; rfl) (argsL := [(.ref d), (.int (Int32.ofNat (ds.length + iloop))), (.int (cs.getD iloop 0))]) (rest := []) (lenOf pd_3 rfl) rfl (by show 2 * 0 + _ ≤ _; exact Nat.le_of_eq rfl) (hb hby d52_86_32) (fun _ _ => ⟨rfl, e119, (by decide : 0 + 0 ≤ _), (by decide : 0 + 0 ≤ _)⟩)
      dsimp only [Pt.U, Pt.locs, Pt.cells, Pt.slots] at X121 l121 y121 z121 st121 hQ121
      subst l121 y121 z121
      refine own_go st121 ?_
      obtain ⟨rfl, Nq121, K121, Vb121⟩ := hQ121
      have N121 := Fr.app N119 Nq121
      refine og (fun _ k => XS.iinc X121.here hx rfl (hb hby d52_86_35) rfl (l' := #[.val (.ref sr), .val (.int ((Int32.ofNat iloop) + (1 : Int32))), .val (.ref d), .val (.int ((Int32.ofNat (ds.length + iloop)) + (1 : Int32))), .val (.int (Int32.ofNat cs.length)), .val (.int ((Int32.ofNat iloop) + (1 : Int32)))]) rfl k) ?_
      refine og (fun _ k => XS.goto X121.here hx rfl (pc0 := 38) (pc' := 10) rfl (hb hby d52_86_38) (by decide) (by decide) k) ?_
      show own_Go p e below (T121.setTop (mkF m 10 #[.val (.ref sr), .val (.int ((Int32.ofNat iloop) + (1 : Int32))), .val (.ref d), .val (.int ((Int32.ofNat (ds.length + iloop)) + (1 : Int32))), .val (.int (Int32.ofNat cs.length)), .val (.int ((Int32.ofNat iloop) + (1 : Int32)))] [])) _
      rw [own_inc, own_inc, Nat.add_assoc]
      have f122 := (J0_119.keep K121 (ninS hsd nin0))
      have f123 := (O119.keep K121 (allS g_d all0))
      have f124 := (K119.trans K121 (allS (Or.inl (List.mem_of_getElem? (i := 0) rfl)) all0))
      exact ih (iloop + 1) T121 _ T121.heap (by omega) X121 (rfl : T121.heap = T121.heap) N121 f123 f124 f122 (own_wxs (M := 2 * Nd) (ds := ds) hi (by omega) ▸ Vb121) 
  exact loop (cs.length) 0 T117 _ h0 (by omega) X117 e117 N117 O0 (Keep.refl h0 [d]) V_s V_d 

abbrev k43_50 := jdk_43_method_50_code
theorem d43_50_0 : Dk k43_50 0 (.aload_n 0) 1 := own_k
theorem d43_50_1 : Dk k43_50 1 (.iload_n 1) 1 := own_k
theorem d43_50_2 : Dk k43_50 2 (.aload_n 2) 1 := own_k
theorem d43_50_3 : Dk k43_50 3 (.iload_n 3) 1 := own_k
theorem d43_50_4 : Dk k43_50 4 (.iload 4) 2 := own_k
theorem d43_50_6 : Dk k43_50 6 (.invokestatic 240) 3 := own_k
theorem pd_16 : parseMethodDescriptor "([BI[BII)V" = some ⟨[(.array .byte), .int, (.array .byte), .int, .int], none⟩ := by decide +kernel
theorem d43_50_9 : Dk k43_50 9 .return_ 1 := own_k
theorem ef_rm_linf (m : MethodId) (x0 : Addr) (x1 : Int32) (x2 : Addr) (x3 : Int32) (x4 : Int32) : entryFrame m #[(.ref x0), (.int x1), (.ref x2), (.int x3), (.int x4)] 5 = mkF m 0 #[.val (.ref x0), .val (.int x1), .val (.ref x2), .val (.int x3), .val (.int x4)] [] := by
   first | (simp [entryFrame, mkF, argsToLocals, Value.category]; done) | rfl
set_option maxRecDepth 65536 in
set_option maxHeartbeats 40000000 in
theorem rm_linf (l : Launch) (Z : State) (a0 : Array Value) (hw : ∀ d ∈ tables_1, d.before a0 Z = true) (ws : List Jvm.Cond) (sr : Addr) (ks : ClassId) (Ns : Nat) (ss : List Value) (d : Addr) (kd : ClassId) (Nd : Nat) (ds cs : List Int32) (G3 : Value) (h0 : Heap) (n0 : Nat) (O0 : Old Z n0 h0) (O4 : Sta Z Z.heap "jdk/internal/util/Preconditions" "SIOOBE_FORMATTER" "Ljava/util/function/BiFunction;" G3) (rG3 : G3.isRef = true) (OA : Sta Z Z.heap "java/lang/StringUTF16" "$assertionsDisabled" "Z" (.int (1 : Int32))) (OH : Sta Z Z.heap "java/lang/StringUTF16" "HI_BYTE_SHIFT" "I" (.int (0 : Int32))) (OL : Sta Z Z.heap "java/lang/StringUTF16" "LO_BYTE_SHIFT" "I" (.int (8 : Int32))) (V_s : Arv Z h0 sr ks .byte (Int32.ofNat Ns) ss (.int (0 : Int32))) (V_d : Arv Z h0 d kd .byte (Int32.ofNat (2 * Nd)) (own_wx (2 * Nd) ds cs 0) (.int (0 : Int32))) (hok : own_Ok cs) (hall : ∀ c ∈ cs, ¬ (255 : Int32) < c) (hsrc : ∀ i, i < cs.length → ss.getD i (.int (0 : Int32)) = .int (StrChars.lo8 (cs.getD i 0))) (hNs : cs.length ≤ Ns) (hNs2 : Ns ≤ 4000) (hNd : ds.length + cs.length ≤ Nd) (hNd2 : Nd ≤ 4000) (g_d : n0 ≤ d) (hsd : sr ≠ d) :
    MetFree l (⟨"java/lang/StringLatin1", "inflate", "([BI[BII)V"⟩ : MethodName) (head1 (Jvm.Cond.code (⟨"java/lang/StringLatin1", "inflate", "([BI[BII)V"⟩ : MethodName) jdk_43_method_50_code 5 none :: ws) ⟨4, 0, 0, 60⟩) (fun aA U => aA = #[(.ref sr), (.int (0 : Int32)), (.ref d), (.int (Int32.ofNat ds.length)), (.int (Int32.ofNat cs.length))] ∧ Z.Warmed39 U.vm ∧ U.heap = h0) (fun _ _ _ _ _ => True) (fun _ U oO U' => ∃ rV rL, oO = .returned rV ∧ QInf Z d kd (Int32.ofNat (2 * Nd)) (own_wx (2 * Nd) ds cs cs.length) h0 n0 rV U'.heap rL ∧ FrameEnd U oO U' rL 0 0) := by
  refine MetFree.of_bodySF (plainFor_of_name pn_4) hisR ?_
  intro p e s m args below meth cC s₁ Bd hml0 hP hK
  obtain ⟨rfl, hZ, hh⟩ := hP
  have hx := Bd.exec
  have hby := Bd.bytes
  have hml : cC.maxLocals = 5 := hml0
  have hown : s.vm.findClass "java/lang/StringLatin1" = some m.cls := findClass_of_methodNamed Bd.named
  have hnm := (name_of_methodNamed Bd.named Bd.method).1
  have hrt := Bd.returns
  have hlk : meth.locks = false := Bd.notSynchronized
  have X0 : Stand p l e ⟨4, 0, 0, 60⟩ s m #[(.ref sr), (.int (0 : Int32)), (.ref d), (.int (Int32.ofNat ds.length)), (.int (Int32.ofNat cs.length))] below meth cC s₁ [] 0 0 := Stand.of_body Bd
  have e0 : s₁.heap = h0 := by rw [← hh, Bd.state]; rfl
  have N0 := Fr.nil n0
  have Z0 : n0 ≤ h0.size := O0.1 ▸ O0.2.1
  show own_Go p e below (s₁.setTop (entryFrame m #[(.ref sr), (.int (0 : Int32)), (.ref d), (.int (Int32.ofNat ds.length)), (.int (Int32.ofNat cs.length))] 5)) (fun oO U' => ∃ rV rL, oO = .returned rV ∧ QInf Z d kd (Int32.ofNat (2 * Nd)) (own_wx (2 * Nd) ds cs cs.length) h0 n0 rV U'.heap rL ∧ FrameEnd s oO U' rL 0 0)
  refine own_go (fun _ k => castTop (ef_rm_linf m sr _ d _ _) k) ?_
  have hlen : cs.length ≤ 4000 := hok.2
  refine og (fun _ k => XS.aloadN X0.here hx rfl (hb hby d43_50_0) rfl rfl k) ?_
  refine og (fun _ k => XS.iloadN X0.here hx rfl (hb hby d43_50_1) rfl k) ?_
  refine og (fun _ k => XS.aloadN X0.here hx rfl (hb hby d43_50_2) rfl rfl k) ?_
  refine og (fun _ k => XS.iloadN X0.here hx rfl (hb hby d43_50_3) rfl k) ?_
  try dsimp only [mkF]
  refine og (fun _ k => XS.iload X0.here hx rfl (hb hby d43_50_4) rfl k) ?_
  obtain ⟨v125, _, ⟨T125, L125, k125, n125⟩, -, X125, ⟨Lc125, hQ125, l125, y125, z125⟩, st125⟩ := Jvm.LawKit.callS X0 hx (y := (⟨"java/lang/StringUTF16", "inflate", "([BI[BII)V"⟩ : MethodName)) hown (mvT hZ (tw hw 242 rfl)) (mvT hZ (tw hw 243 rfl)) (mvT hZ (tw hw 109 rfl)) (mvT hZ (tw hw 244 rfl)) (by decide) (backOf (W := 0) (rm_inf l Z a0 hw [] sr ks Ns ss d kd Nd ds cs G3 h0 n0 O0 O4 rG3 OA OH OL V_s V_d hok hall hsrc hNs hNs2 hNd hNd2 g_d hsd) hZ (tw hw 244 rfl) (tw hw 109 rfl) (by decide) (by decide)) (g := (mkF m 6 #[.val (.ref sr), .val (.int (0 : Int32)), .val (.ref d), .val (.int (Int32.ofNat ds.length)), .val (.int (Int32.ofNat cs.length))] [(.int (Int32.ofNat cs.length)), (.int (Int32.ofNat ds.length)), (.ref d), (.int (0 : Int32)), (.ref sr)])) rfl (by rw [hml]; rfl) (argsL := [(.ref sr), (.int (0 : Int32)), (.ref d), (.int (Int32.ofNat ds.length)), (.int (Int32.ofNat cs.length))]) (rest := []) (lenOf pd_16 rfl) rfl (by show 2 * 0 + _ ≤ _; exact Nat.le_of_eq rfl) (hb hby d43_50_6) (fun _ _ => ⟨rfl, e0, (by decide : 0 + 0 ≤ _), (by decide : 0 + 0 ≤ _)⟩)
  dsimp only [Pt.U, Pt.locs, Pt.cells, Pt.slots] at X125 l125 y125 z125 st125 hQ125
  subst l125 y125 z125
  refine own_go st125 ?_
  obtain ⟨rfl, Nq125, K125, Vd125⟩ := hQ125
  have N125 := Fr.app N0 Nq125
  have f126 := ((Keep.refl h0 [d]).trans K125 (allS (Or.inl (List.mem_of_getElem? (i := 0) rfl)) all0))
  refine own_fin (v := none) X125 (fun _ => rfl) hlk (fun fs hr => X125.returnOut hx hrt (hb hby d43_50_9) hr) (QQ := QInf Z d kd (Int32.ofNat (2 * Nd)) (own_wx (2 * Nd) ds cs cs.length) h0 n0) ?_ (by decide) (by decide)
  exact ⟨rfl, N125, f126, Vd125⟩

def QWide (Z : State) (b : Addr) (cs : List Int32) (h0 : Heap) (n0 : Nat) (r : Option Value) (h : Heap) (L : List Loc) : Prop := ∃ (v : Addr) (kv : ClassId), r = none ∧ Fr n0 L ∧ Keep h0 h [b] ∧ h0.size ≤ v ∧ Fld Z h b "java/lang/AbstractStringBuilder" "value" "[B" (.ref v) ∧ Fld Z h b "java/lang/AbstractStringBuilder" "coder" "B" (.int (1 : Int32)) ∧ Fld Z h b "java/lang/AbstractStringBuilder" "count" "I" (.int (Int32.ofNat cs.length)) ∧ Fld Z h b "java/lang/AbstractStringBuilder" "maybeLatin1" "Z" (.int (0 : Int32)) ∧ Arv Z h v kv .byte (32 : Int32) (own_sb1 cs) (.int (0 : Int32))
abbrev k68_11 := jdk_68_method_11_code
theorem d68_11_0 : Dk k68_11 0 (.aload_n 0) 1 := own_k
theorem d68_11_1 : Dk k68_11 1 (.invokevirtual 83) 3 := own_k
theorem pd_17 : parseMethodDescriptor "()Z" = some ⟨[], some .boolean⟩ := by decide +kernel
theorem d68_11_4 : Dk k68_11 4 (.ifCond .ne 4) 3 := own_k
theorem d68_11_8 : Dk k68_11 8 (.aload_n 0) 1 := own_k
theorem d68_11_9 : Dk k68_11 9 (.getfield 15) 3 := own_k
theorem d68_11_12 : Dk k68_11 12 .arraylength 1 := own_k
theorem d68_11_13 : Dk k68_11 13 (.invokestatic 26) 3 := own_k
theorem d68_11_16 : Dk k68_11 16 (.astore_n 1) 1 := own_k
theorem d68_11_17 : Dk k68_11 17 (.aload_n 0) 1 := own_k
theorem d68_11_18 : Dk k68_11 18 (.getfield 15) 3 := own_k
theorem d68_11_21 : Dk k68_11 21 (.iconst 0) 1 := own_k
theorem d68_11_22 : Dk k68_11 22 (.aload_n 1) 1 := own_k
theorem d68_11_23 : Dk k68_11 23 (.iconst 0) 1 := own_k
theorem d68_11_24 : Dk k68_11 24 (.aload_n 0) 1 := own_k
theorem d68_11_25 : Dk k68_11 25 (.getfield 79) 3 := own_k
theorem d68_11_28 : Dk k68_11 28 (.invokestatic 125) 3 := own_k
theorem d68_11_31 : Dk k68_11 31 (.aload_n 0) 1 := own_k
theorem d68_11_32 : Dk k68_11 32 (.aload_n 1) 1 := own_k
theorem d68_11_33 : Dk k68_11 33 (.putfield 15) 3 := own_k
theorem d68_11_36 : Dk k68_11 36 (.aload_n 0) 1 := own_k
theorem d68_11_37 : Dk k68_11 37 (.iconst 1) 1 := own_k
theorem d68_11_38 : Dk k68_11 38 (.putfield 22) 3 := own_k
theorem d68_11_41 : Dk k68_11 41 .return_ 1 := own_k
theorem ef_rm_ai0 (m : MethodId) (x0 : Addr) : entryFrame m #[(.ref x0)] 2 = mkF m 0 #[.val (.ref x0), .unset] [] := by
   first | (simp [entryFrame, mkF, argsToLocals, Value.category]; done) | rfl
set_option maxRecDepth 65536 in
set_option maxHeartbeats 40000000 in
theorem rm_ai0 (l : Launch) (Z : State) (a0 : Array Value) (hw : ∀ d ∈ tables_1, d.before a0 Z = true) (ws : List Jvm.Cond) (b v : Addr) (kv : ClassId) (cs : List Int32) (G1 : Int32) (G3 : Value) (h0 : Heap) (n0 : Nat) (O0 : Old Z n0 h0) (O2 : Sta Z Z.heap "java/lang/String" "COMPACT_STRINGS" "Z" (.int G1)) (P5 : ¬ (G1 = (0 : Int32))) (O4 : Sta Z Z.heap "jdk/internal/util/Preconditions" "SIOOBE_FORMATTER" "Ljava/util/function/BiFunction;" G3) (rG3 : G3.isRef = true) (OA : Sta Z Z.heap "java/lang/StringUTF16" "$assertionsDisabled" "Z" (.int (1 : Int32))) (OH : Sta Z Z.heap "java/lang/StringUTF16" "HI_BYTE_SHIFT" "I" (.int (0 : Int32))) (OL : Sta Z Z.heap "java/lang/StringUTF16" "LO_BYTE_SHIFT" "I" (.int (8 : Int32))) (E_b : Exa Z h0 b "java/lang/StringBuilder") (Fv_b : Fld Z h0 b "java/lang/AbstractStringBuilder" "value" "[B" (.ref v)) (Fc_b : Fld Z h0 b "java/lang/AbstractStringBuilder" "coder" "B" (.int (0 : Int32))) (Fn_b : Fld Z h0 b "java/lang/AbstractStringBuilder" "count" "I" (.int (Int32.ofNat cs.length))) (Fm_b : Fld Z h0 b "java/lang/AbstractStringBuilder" "maybeLatin1" "Z" (.int (0 : Int32))) (V_v : Arv Z h0 v kv .byte (own_sbN (0 : Int32)) (own_sbv (0 : Int32) cs) (.int (0 : Int32))) (hcd : ∀ c ∈ cs, ¬ (255 : Int32) < c) (g_b : n0 ≤ b) (g_v : n0 ≤ v) (hok : own_Ok cs) (hc16 : cs.length ≤ 16) :
    MetFree l (⟨"java/lang/AbstractStringBuilder", "inflate", "()V"⟩ : MethodName) (head1 (Jvm.Cond.code (⟨"java/lang/AbstractStringBuilder", "inflate", "()V"⟩ : MethodName) jdk_68_method_11_code 2 none :: ws) ⟨5, 1, 32, 76⟩) (fun aA U => aA = #[(.ref b)] ∧ Z.Warmed39 U.vm ∧ U.heap = h0) (fun _ _ _ _ _ => True) (fun _ U oO U' => ∃ rV rL, oO = .returned rV ∧ QWide Z b cs h0 n0 rV U'.heap rL ∧ FrameEnd U oO U' rL 1 32) := by
  refine MetFree.of_bodySF (plainFor_of_name pn_2) hisR ?_
  intro p e s m args below meth cC s₁ Bd hml0 hP hK
  obtain ⟨rfl, hZ, hh⟩ := hP
  have hx := Bd.exec
  have hby := Bd.bytes
  have hml : cC.maxLocals = 2 := hml0
  have hown : s.vm.findClass "java/lang/AbstractStringBuilder" = some m.cls := findClass_of_methodNamed Bd.named
  have hnm := (name_of_methodNamed Bd.named Bd.method).1
  have hrt := Bd.returns
  have hlk : meth.locks = false := Bd.notSynchronized
  have X0 : Stand p l e ⟨5, 1, 32, 76⟩ s m #[(.ref b)] below meth cC s₁ [] 0 0 := Stand.of_body Bd
  have e0 : s₁.heap = h0 := by rw [← hh, Bd.state]; rfl
  have N0 := Fr.nil n0
  have Z0 : n0 ≤ h0.size := O0.1 ▸ O0.2.1
  show own_Go p e below (s₁.setTop (entryFrame m #[(.ref b)] 2)) (fun oO U' => ∃ rV rL, oO = .returned rV ∧ QWide Z b cs h0 n0 rV U'.heap rL ∧ FrameEnd s oO U' rL 1 32)
  refine own_go (fun _ k => castTop (ef_rm_ai0 m b) k) ?_
  have hlen : cs.length ≤ 4000 := hok.2
  have hbv := Exa.neArv E_b V_v (tw hw 27 rfl)
  refine og (fun _ k => XS.aloadN X0.here hx rfl (hb hby d68_11_0) rfl rfl k) ?_
  obtain ⟨cq127, kq127, q127a, q127b, q127c⟩ := isOf hZ e0 E_b
  obtain ⟨v127, _, ⟨T127, L127, k127, n127⟩, -, X127, ⟨Lc127, hQ127, l127, y127, z127⟩, st127⟩ := X0.virtualBack hx (y := (⟨"java/lang/AbstractStringBuilder", "isLatin1", "()Z"⟩ : MethodName)) (z := (⟨"java/lang/AbstractStringBuilder", "isLatin1", "()Z"⟩ : MethodName)) hown (mvT hZ (tw hw 178 rfl)) (mvT hZ (tw hw 84 rfl)) (notFace_of_selects (args := #[]) (mvT hZ (tw hw 86 rfl))) (mvT hZ (tw hw 86 rfl)) (mvT hZ (tw hw 85 rfl)) (by decide) (backOf (W := 0) (rm_bl0 l Z a0 hw [] b G1 h0 n0 O0 E_b Fc_b O2 P5) hZ (tw hw 87 rfl) (tw hw 36 rfl) (by decide) (by decide)) q127a q127c (g := (mkF m 1 #[.val (.ref b), .unset] [(.ref b)])) rfl (by rw [hml]; rfl) (Steps.refl _) (argsL := []) (rest := []) (lenOf pd_17 rfl) rfl (by show 2 * 0 + _ ≤ _; exact Nat.le_of_eq rfl) (hb hby d68_11_1) (fun _ _ => ⟨rfl, e0, (by decide : 0 + 0 ≤ _), (by decide : 0 + 0 ≤ _)⟩)
  dsimp only [Pt.U, Pt.locs, Pt.cells, Pt.slots] at X127 l127 y127 z127 st127 hQ127
  subst l127 y127 z127
  refine own_gos st127 ?_
  obtain ⟨rfl, Nq127, e127⟩ := hQ127
  have N127 := Fr.app N0 Nq127
  refine og (fun _ k => XS.ifYes X127.here hx rfl (pc0 := 4) (pc' := 8) rfl (hb hby d68_11_4) rfl ((if0 _ _).trans (feq (by decide : ¬ ((1 : Int32) = (0 : Int32)))).2) (by decide) (by decide) k) ?_
  refine og (fun _ k => XS.aloadN X127.here hx rfl (hb hby d68_11_8) rfl rfl k) ?_
  try dsimp only [mkF]
  obtain ⟨T128, X128, e128, st128⟩ := getF X127 hx hZ hown (host := "") (Or.inl (tw hw 40 rfl)) Via.refl e127 Fv_b (g := (mkF m 9 #[.val (.ref b), .unset] [(.ref b)])) rfl rfl (hb hby d68_11_9)
  refine own_go st128 ?_
  obtain ⟨c129, A129, q129, S129, M129, Hs129, Gs129⟩ := id V_v
  refine og (fun _ k => X128.arraylength hx (by rw [e128]; exact A129.1) (State.isArrayOf_alike hZ.alike A129.2.1) (g := (mkF m 12 #[.val (.ref b), .unset] [(.ref v)])) rfl rfl (hb hby d68_11_12) _ k) ?_
  rw [len_of S129 M129]
  obtain ⟨v130, _, ⟨T130, L130, k130, n130⟩, -, X130, ⟨Lc130, hQ130, l130, y130, z130⟩, st130⟩ := Jvm.LawKit.callS X128 hx (y := (⟨"java/lang/StringUTF16", "newBytesFor", "(I)[B"⟩ : MethodName)) hown (mvT hZ (tw hw 238 rfl)) (mvT hZ (tw hw 208 rfl)) (mvT hZ (tw hw 109 rfl)) (mvT hZ (tw hw 209 rfl)) (by decide) (backOf (W := 0) (rm_nbf l Z a0 hw [] 16 h0 n0 O0 (by decide)) hZ (tw hw 209 rfl) (tw hw 109 rfl) (by decide) (by decide)) (g := (mkF m 13 #[.val (.ref b), .unset] [(.int (16 : Int32))])) rfl (by rw [hml]; rfl) (argsL := [(.int (16 : Int32))]) (rest := []) (lenOf pd_2 rfl) rfl (by show 2 * 0 + _ ≤ _; exact Nat.le_of_eq rfl) (hb hby d68_11_13) (fun _ _ => ⟨rfl, e128, (by decide : 0 + 1 ≤ _), (by decide : 0 + 32 ≤ _)⟩)
  dsimp only [Pt.U, Pt.locs, Pt.cells, Pt.slots] at X130 l130 y130 z130 st130 hQ130
  subst l130 y130 z130
  refine own_go st130 ?_
  obtain ⟨t130, kt130, rfl, Nq130, K130, tg130, Vt130⟩ := hQ130
  have N130 := Fr.app N127 Nq130
  refine og (fun _ k => XS.astoreN X130.here hx rfl (hb hby d68_11_16) rfl rfl (l' := #[.val (.ref b), .val (.ref t130)]) rfl k) ?_
  refine og (fun _ k => XS.aloadN X130.here hx rfl (hb hby d68_11_17) rfl rfl k) ?_
  try dsimp only [mkF]
  obtain ⟨T131, X131, e131, st131⟩ := getF X130 hx hZ hown (host := "") (Or.inl (tw hw 40 rfl)) Via.refl (rfl : T130.heap = T130.heap) (Fv_b.keep K130 nin0) (g := (mkF m 18 #[.val (.ref b), .val (.ref t130)] [(.ref b)])) rfl rfl (hb hby d68_11_18)
  refine own_go st131 ?_
  refine og (fun _ k => XS.iconst X131.here hx rfl (hb hby d68_11_21) k) ?_
  refine og (fun _ k => XS.aloadN X131.here hx rfl (hb hby d68_11_22) rfl rfl k) ?_
  refine og (fun _ k => XS.iconst X131.here hx rfl (hb hby d68_11_23) k) ?_
  refine og (fun _ k => XS.aloadN X131.here hx rfl (hb hby d68_11_24) rfl rfl k) ?_
  try dsimp only [mkF]
  obtain ⟨T132, X132, e132, st132⟩ := getF X131 hx hZ hown (host := "") (Or.inl (tw hw 81 rfl)) Via.refl e131 (Fn_b.keep K130 nin0) (g := (mkF m 25 #[.val (.ref b), .val (.ref t130)] [(.ref b), (.int (0 : Int32)), (.ref t130), (.int (0 : Int32)), (.ref v)])) rfl rfl (hb hby d68_11_25)
  refine own_go st132 ?_
  have ne133 : v ≠ t130 := Nat.ne_of_lt (Nat.lt_of_lt_of_le V_v.lt tg130)
  obtain ⟨v134, _, ⟨T134, L134, k134, n134⟩, -, X134, ⟨Lc134, hQ134, l134, y134, z134⟩, st134⟩ := Jvm.LawKit.callS X132 hx (y := (⟨"java/lang/StringLatin1", "inflate", "([BI[BII)V"⟩ : MethodName)) hown (mvT hZ (tw hw 239 rfl)) (mvT hZ (tw hw 240 rfl)) (mvT hZ (tw hw 129 rfl)) (mvT hZ (tw hw 241 rfl)) (by decide) (backOf (W := 0) (rm_linf l Z a0 hw [] v kv 16 (own_sb0 cs) t130 kt130 16 ([] : List Int32) cs G3 T130.heap n0 (O0.keep K130 all0) O4 rG3 OA OH OL (V_v.keep K130 nin0) (own_wx0'.symm ▸ Vt130) hok hcd (fun i hi => own_sb0g hi) (by omega) (by decide) (by simp; omega) (by decide) (Nat.le_trans Z0 tg130) ne133) hZ (tw hw 241 rfl) (tw hw 129 rfl) (by decide) (by decide)) (g := (mkF m 28 #[.val (.ref b), .val (.ref t130)] [(.int (Int32.ofNat cs.length)), (.int (0 : Int32)), (.ref t130), (.int (0 : Int32)), (.ref v)])) rfl (by rw [hml]; rfl) (argsL := [(.ref v), (.int (0 : Int32)), (.ref t130), (.int (0 : Int32)), (.int (Int32.ofNat cs.length))]) (rest := []) (lenOf pd_16 rfl) rfl (by show 2 * 0 + _ ≤ _; exact Nat.le_of_eq rfl) (hb hby d68_11_28) (fun _ _ => ⟨rfl, e132, (by decide : 1 + 0 ≤ _), (by decide : 32 + 0 ≤ _)⟩)
  dsimp only [Pt.U, Pt.locs, Pt.cells, Pt.slots] at X134 l134 y134 z134 st134 hQ134
  subst l134 y134 z134
  refine own_go st134 ?_
  obtain ⟨rfl, Nq134, K134, Vd134⟩ := hQ134
  have N134 := Fr.app N130 Nq134
  refine og (fun _ k => XS.aloadN X134.here hx rfl (hb hby d68_11_31) rfl rfl k) ?_
  refine og (fun _ k => XS.aloadN X134.here hx rfl (hb hby d68_11_32) rfl rfl k) ?_
  have ne135 : b ≠ t130 := Nat.ne_of_lt (Nat.lt_of_lt_of_le E_b.lt tg130)
  have f136 := ((Fv_b.keep K130 nin0).keep K134 (ninS ne135 nin0))
  have f137 := ((E_b.keep K130).keep K134)
  obtain ⟨T138, h138, X138, e138, W138, st138⟩ := putF X134 hx hZ hown (host := "") (Or.inl (tw hw 40 rfl)) Via.refl (rfl : T134.heap = T134.heap) f136 f137 (Or.inl (tw hw 41 rfl)) (tw hw 27 rfl) (ty := (.array .byte)) (by decide) rfl rfl (g := (mkF m 33 #[.val (.ref b), .val (.ref t130)] [(.ref t130), (.ref b)])) rfl rfl (hb hby d68_11_33)
  refine own_go st138 ?_
  have N138 := Fr.snoc X138 N134 g_b
  have Fw138 := f136.same W138
  try dsimp only [mkF]
  refine og (fun _ k => XS.aloadN X138.here hx rfl (hb hby d68_11_36) rfl rfl k) ?_
  refine og (fun _ k => XS.iconst X138.here hx rfl (hb hby d68_11_37) k) ?_
  have f139 := (((Fc_b.keep K130 nin0).keep K134 (ninS ne135 nin0)).other W138 (Or.inr (slot_ne (Or.inl (tw hw 43 rfl)) (Or.inl (tw hw 41 rfl)) (by decide) (t := .byte) (t' := (.array .byte)) (by decide) (by decide))))
  obtain ⟨T140, h140, X140, e140, W140, st140⟩ := putFN X138 hx hZ hown (tw hw 42 rfl) Via.refl e138 f139 (f137.wr W138) (Or.inl (tw hw 43 rfl)) (tw hw 27 rfl) (ty := .byte) (v' := (.int (1 : Int32))) (by decide) rfl rfl (g := (mkF m 38 #[.val (.ref b), .val (.ref t130)] [(.int (1 : Int32)), (.ref b)])) rfl rfl (hb hby d68_11_38)
  refine own_go st140 ?_
  have N140 := Fr.snoc X140 N138 g_b
  have Fw140 := f139.same W140
  have f141 := (((((Keep.refl h0 [b]).trans K130 all0).trans K134 (allS (Or.inr tg130) all0)).wr W138 (Or.inl (List.mem_of_getElem? (i := 0) rfl))).wr W140 (Or.inl (List.mem_of_getElem? (i := 0) rfl)))
  have f142 := (Fw138.other W140 (Or.inr (slot_ne (Or.inl (tw hw 41 rfl)) (Or.inl (tw hw 43 rfl)) (by decide) (t := (.array .byte)) (t' := .byte) (by decide) (by decide))))
  have f143 := ((((Fn_b.keep K130 nin0).keep K134 (ninS ne135 nin0)).other W138 (Or.inr (slot_ne (Or.inl (tw hw 82 rfl)) (Or.inl (tw hw 41 rfl)) (by decide) (t := .int) (t' := (.array .byte)) (by decide) (by decide)))).other W140 (Or.inr (slot_ne (Or.inl (tw hw 82 rfl)) (Or.inl (tw hw 43 rfl)) (by decide) (t := .int) (t' := .byte) (by decide) (by decide))))
  have f144 := ((((Fm_b.keep K130 nin0).keep K134 (ninS ne135 nin0)).other W138 (Or.inr (slot_ne (Or.inl (tw hw 258 rfl)) (Or.inl (tw hw 41 rfl)) (by decide) (t := .boolean) (t' := (.array .byte)) (by decide) (by decide)))).other W140 (Or.inr (slot_ne (Or.inl (tw hw 258 rfl)) (Or.inl (tw hw 43 rfl)) (by decide) (t := .boolean) (t' := .byte) (by decide) (by decide))))
  have f145 := ((Vd134.other W138 (Ne.symm ne135)).other W140 (Ne.symm ne135))
  refine own_fin (v := none) X140 (fun _ => rfl) hlk (fun fs hr => X140.returnOut hx hrt (hb hby d68_11_41) hr) (QQ := QWide Z b cs h0 n0) ?_ (by decide) (by decide)
  rw [e140]
  exact ⟨t130, _, rfl, N140, f141, tg130, f142, Fw140, f143, f144, by have q := f145; rw [own_wxn, List.nil_append] at q; exact q⟩

theorem d68_11_7 : Dk k68_11 7 .return_ 1 := own_k
theorem ef_rm_ai1 (m : MethodId) (x0 : Addr) : entryFrame m #[(.ref x0)] 2 = mkF m 0 #[.val (.ref x0), .unset] [] := by
   first | (simp [entryFrame, mkF, argsToLocals, Value.category]; done) | rfl
set_option maxRecDepth 65536 in
set_option maxHeartbeats 40000000 in
theorem rm_ai1 (l : Launch) (Z : State) (a0 : Array Value) (hw : ∀ d ∈ tables_1, d.before a0 Z = true) (ws : List Jvm.Cond) (b : Addr) (G1 : Int32) (h0 : Heap) (n0 : Nat) (O0 : Old Z n0 h0) (E_b : Exa Z h0 b "java/lang/StringBuilder") (F_c : Fld Z h0 b "java/lang/AbstractStringBuilder" "coder" "B" (.int (1 : Int32))) (O2 : Sta Z Z.heap "java/lang/String" "COMPACT_STRINGS" "Z" (.int G1)) (P5 : ¬ (G1 = (0 : Int32))) :
    MetFree l (⟨"java/lang/AbstractStringBuilder", "inflate", "()V"⟩ : MethodName) (head1 (Jvm.Cond.code (⟨"java/lang/AbstractStringBuilder", "inflate", "()V"⟩ : MethodName) jdk_68_method_11_code 2 none :: ws) ⟨1, 0, 0, 12⟩) (fun aA U => aA = #[(.ref b)] ∧ Z.Warmed39 U.vm ∧ U.heap = h0) (fun _ _ _ _ _ => True) (fun _ U oO U' => ∃ rV rL, oO = .returned rV ∧ QPure (none) h0 n0 rV U'.heap rL ∧ FrameEnd U oO U' rL 0 0) := by
  refine MetFree.of_bodySF (plainFor_of_name pn_2) hisR ?_
  intro p e s m args below meth cC s₁ Bd hml0 hP hK
  obtain ⟨rfl, hZ, hh⟩ := hP
  have hx := Bd.exec
  have hby := Bd.bytes
  have hml : cC.maxLocals = 2 := hml0
  have hown : s.vm.findClass "java/lang/AbstractStringBuilder" = some m.cls := findClass_of_methodNamed Bd.named
  have hnm := (name_of_methodNamed Bd.named Bd.method).1
  have hrt := Bd.returns
  have hlk : meth.locks = false := Bd.notSynchronized
  have X0 : Stand p l e ⟨1, 0, 0, 12⟩ s m #[(.ref b)] below meth cC s₁ [] 0 0 := Stand.of_body Bd
  have e0 : s₁.heap = h0 := by rw [← hh, Bd.state]; rfl
  have N0 := Fr.nil n0
  have Z0 : n0 ≤ h0.size := O0.1 ▸ O0.2.1
  show own_Go p e below (s₁.setTop (entryFrame m #[(.ref b)] 2)) (fun oO U' => ∃ rV rL, oO = .returned rV ∧ QPure (none) h0 n0 rV U'.heap rL ∧ FrameEnd s oO U' rL 0 0)
  refine own_go (fun _ k => castTop (ef_rm_ai1 m b) k) ?_
  refine og (fun _ k => XS.aloadN X0.here hx rfl (hb hby d68_11_0) rfl rfl k) ?_
  obtain ⟨cq146, kq146, q146a, q146b, q146c⟩ := isOf hZ e0 E_b
  obtain ⟨v146, _, ⟨T146, L146, k146, n146⟩, -, X146, ⟨Lc146, hQ146, l146, y146, z146⟩, st146⟩ := X0.virtualBack hx (y := (⟨"java/lang/AbstractStringBuilder", "isLatin1", "()Z"⟩ : MethodName)) (z := (⟨"java/lang/AbstractStringBuilder", "isLatin1", "()Z"⟩ : MethodName)) hown (mvT hZ (tw hw 178 rfl)) (mvT hZ (tw hw 84 rfl)) (notFace_of_selects (args := #[]) (mvT hZ (tw hw 86 rfl))) (mvT hZ (tw hw 86 rfl)) (mvT hZ (tw hw 85 rfl)) (by decide) (backOf (W := 0) (rm_bl1 l Z a0 hw [] b G1 h0 n0 O0 E_b F_c O2 P5) hZ (tw hw 87 rfl) (tw hw 36 rfl) (by decide) (by decide)) q146a q146c (g := (mkF m 1 #[.val (.ref b), .unset] [(.ref b)])) rfl (by rw [hml]; rfl) (Steps.refl _) (argsL := []) (rest := []) (lenOf pd_17 rfl) rfl (by show 2 * 0 + _ ≤ _; exact Nat.le_of_eq rfl) (hb hby d68_11_1) (fun _ _ => ⟨rfl, e0, (by decide : 0 + 0 ≤ _), (by decide : 0 + 0 ≤ _)⟩)
  dsimp only [Pt.U, Pt.locs, Pt.cells, Pt.slots] at X146 l146 y146 z146 st146 hQ146
  subst l146 y146 z146
  refine own_gos st146 ?_
  obtain ⟨rfl, Nq146, e146⟩ := hQ146
  have N146 := Fr.app N0 Nq146
  refine og (fun _ k => XS.ifNo X146.here hx rfl (hb hby d68_11_4) rfl ((if0 _ _).trans (teq (by decide : (0 : Int32) = (0 : Int32))).2) k) ?_
  refine own_fin (v := none) X146 (fun _ => rfl) hlk (fun fs hr => X146.returnOut hx hrt (hb hby d68_11_7) hr) (QQ := QPure (none) h0 n0) ?_ (by decide) (by decide)
  rw [e146]
  exact ⟨rfl, N146, rfl⟩

theorem own_shl0 (x : Int32) : x <<< ((0 : Int32) &&& 31) = x := by
  apply Int32.toBitVec_inj.mp
  show x.toBitVec <<< ((((0 : Int32) &&& 31).toBitVec).smod 32#32) = x.toBitVec
  have e : (((0 : Int32) &&& 31).toBitVec).smod 32#32 = 0#32 := by decide
  rw [e]
  apply BitVec.eq_of_toNat_eq
  rw [BitVec.shiftLeft_eq', BitVec.toNat_shiftLeft, Nat.shiftLeft_eq]
  have := x.toBitVec.isLt
  show x.toBitVec.toNat * 1 % _ = _
  rw [Nat.mul_one, Nat.mod_eq_of_lt this]
theorem own_latr (ts : List Int32) : own_lat ts = (List.range ts.length).map fun i => (own_lat ts).getD (0 + i) (.int (0 : Int32)) := by
  apply List.ext_getElem
  · rw [List.length_map, List.length_range, own_latl]
  · intro i h1 h2
    rw [List.getElem_map, List.getElem_range, Nat.zero_add, List.getD_eq_getElem?_getD, List.getElem?_eq_getElem h1]; rfl
theorem own_ap0A {cs ts : List Int32} (h : cs.length + ts.length ≤ 16) : List.take cs.length (own_sb0 cs) ++ own_lat ts ++ List.drop (cs.length + ts.length) (own_sb0 cs) = own_sb0 (cs ++ ts) := by
  unfold own_sb0
  rw [List.take_append_of_le_length (by rw [own_latl]; exact Nat.le_refl _), List.take_of_length_le (by rw [own_latl]; exact Nat.le_refl _), List.drop_append, own_latl, List.drop_of_length_le (by rw [own_latl]; omega), List.nil_append, own_lata, List.length_append]
  congr 1
  unfold own_z
  rw [List.drop_replicate]
  congr 1; omega
theorem own_cpR {us : List Value} {n : Nat} (h : us.length = n) : List.take 0 (List.replicate n (Value.int (0 : Int32))) ++ us ++ List.drop (0 + n) (List.replicate n (Value.int (0 : Int32))) = us := by
  rw [List.take_zero, List.nil_append, Nat.zero_add, List.drop_of_length_le (by rw [List.length_replicate]; exact Nat.le_refl _), List.append_nil]
theorem own_ne16 {n : Nat} (h : n < 16) : ¬ Int32.ofNat n = (16 : Int32) := fun q => by
  have e := congrArg Int32.toInt q
  rw [own_ti (by omega)] at e
  have e2 : (16 : Int32).toInt = 16 := rfl
  omega
theorem own_ne32 {n : Nat} (h : n < 32) : ¬ Int32.ofNat n = (32 : Int32) := fun q => by
  have e := congrArg Int32.toInt q
  rw [own_ti (by omega)] at e
  have e2 : (32 : Int32).toInt = 32 := rfl
  omega
theorem own_codS {cd : Int32} {cs : List Int32} (h : own_cdi cd cs) : StrChars.Road.CodA cs cd (Int32.ofNat (if cd = 0 then cs.length else 2 * cs.length)) (if cd = 0 then own_lat cs else StrChars.Road.wideBytes cs) := by
  rcases h with ⟨rfl, ha⟩ | ⟨rfl, c, hc, q⟩
  · exact Or.inl ⟨rfl, rfl, rfl, ha⟩
  · exact Or.inr ⟨rfl, rfl, rfl, c, hc, q⟩
abbrev k52_71 := jdk_52_method_71_code
theorem d52_71_0 : Dk k52_71 0 (.iload_n 1) 1 := own_k
theorem d52_71_1 : Dk k52_71 1 (.aload_n 0) 1 := own_k
theorem d52_71_2 : Dk k52_71 2 (.invokestatic 67) 3 := own_k
theorem pd_18 : parseMethodDescriptor "(I[B)V" = some ⟨[.int, (.array .byte)], none⟩ := by decide +kernel
theorem d52_71_5 : Dk k52_71 5 (.aload_n 0) 1 := own_k
theorem d52_71_6 : Dk k52_71 6 (.iload_n 1) 1 := own_k
theorem d52_71_7 : Dk k52_71 7 (.iload_n 2) 1 := own_k
theorem d52_71_8 : Dk k52_71 8 (.invokestatic 111) 3 := own_k
theorem d52_71_11 : Dk k52_71 11 .return_ 1 := own_k
theorem ef_rm_pcs (m : MethodId) (x0 : Addr) (x1 : Int32) (x2 : Int32) : entryFrame m #[(.ref x0), (.int x1), (.int x2)] 3 = mkF m 0 #[.val (.ref x0), .val (.int x1), .val (.int x2)] [] := by
   first | (simp [entryFrame, mkF, argsToLocals, Value.category]; done) | rfl
set_option maxRecDepth 65536 in
set_option maxHeartbeats 40000000 in
theorem rm_pcs (l : Launch) (Z : State) (a0 : Array Value) (hw : ∀ d ∈ tables_1, d.before a0 Z = true) (ws : List Jvm.Cond) (v : Addr) (kv : ClassId) (cs : List Int32) (ch : Int32) (G3 : Value) (h0 : Heap) (n0 : Nat) (O0 : Old Z n0 h0) (O4 : Sta Z Z.heap "jdk/internal/util/Preconditions" "SIOOBE_FORMATTER" "Ljava/util/function/BiFunction;" G3) (rG3 : G3.isRef = true) (OA : Sta Z Z.heap "java/lang/StringUTF16" "$assertionsDisabled" "Z" (.int (1 : Int32))) (OH : Sta Z Z.heap "java/lang/StringUTF16" "HI_BYTE_SHIFT" "I" (.int (0 : Int32))) (OL : Sta Z Z.heap "java/lang/StringUTF16" "LO_BYTE_SHIFT" "I" (.int (8 : Int32))) (V_v : Arv Z h0 v kv .byte (32 : Int32) (own_sb1 cs) (.int (0 : Int32))) (g_v : n0 ≤ v) (hlt : cs.length < 16) :
    MetFree l (⟨"java/lang/StringUTF16", "putCharSB", "([BII)V"⟩ : MethodName) (head1 (Jvm.Cond.code (⟨"java/lang/StringUTF16", "putCharSB", "([BII)V"⟩ : MethodName) jdk_52_method_71_code 3 none :: ws) ⟨3, 0, 0, 40⟩) (fun aA U => aA = #[(.ref v), (.int (Int32.ofNat cs.length)), (.int ch)] ∧ Z.Warmed39 U.vm ∧ U.heap = h0) (fun _ _ _ _ _ => True) (fun _ U oO U' => ∃ rV rL, oO = .returned rV ∧ QInf Z v kv (32 : Int32) (own_sb1 (cs ++ [ch])) h0 n0 rV U'.heap rL ∧ FrameEnd U oO U' rL 0 0) := by
  refine MetFree.of_bodySF (plainFor_of_name pn_1) hisR ?_
  intro p e s m args below meth cC s₁ Bd hml0 hP hK
  obtain ⟨rfl, hZ, hh⟩ := hP
  have hx := Bd.exec
  have hby := Bd.bytes
  have hml : cC.maxLocals = 3 := hml0
  have hown : s.vm.findClass "java/lang/StringUTF16" = some m.cls := findClass_of_methodNamed Bd.named
  have hnm := (name_of_methodNamed Bd.named Bd.method).1
  have hrt := Bd.returns
  have hlk : meth.locks = false := Bd.notSynchronized
  have X0 : Stand p l e ⟨3, 0, 0, 40⟩ s m #[(.ref v), (.int (Int32.ofNat cs.length)), (.int ch)] below meth cC s₁ [] 0 0 := Stand.of_body Bd
  have e0 : s₁.heap = h0 := by rw [← hh, Bd.state]; rfl
  have N0 := Fr.nil n0
  have Z0 : n0 ≤ h0.size := O0.1 ▸ O0.2.1
  show own_Go p e below (s₁.setTop (entryFrame m #[(.ref v), (.int (Int32.ofNat cs.length)), (.int ch)] 3)) (fun oO U' => ∃ rV rL, oO = .returned rV ∧ QInf Z v kv (32 : Int32) (own_sb1 (cs ++ [ch])) h0 n0 rV U'.heap rL ∧ FrameEnd s oO U' rL 0 0)
  refine own_go (fun _ k => castTop (ef_rm_pcs m v _ ch) k) ?_
  refine og (fun _ k => XS.iloadN X0.here hx rfl (hb hby d52_71_0) rfl k) ?_
  refine og (fun _ k => XS.aloadN X0.here hx rfl (hb hby d52_71_1) rfl rfl k) ?_
  obtain ⟨v147, _, ⟨T147, L147, k147, n147⟩, -, X147, ⟨Lc147, hQ147, l147, y147, z147⟩, st147⟩ := Jvm.LawKit.callS X0 hx (y := (⟨"java/lang/StringUTF16", "checkIndex", "(I[B)V"⟩ : MethodName)) hown (mvT hZ (tw hw 226 rfl)) (mvT hZ (tw hw 227 rfl)) (mvT hZ (tw hw 109 rfl)) (mvT hZ (tw hw 228 rfl)) (by decide) (backOf (W := 0) (rm_wci l Z a0 hw [] v kv 16 (own_sb1 cs) cs.length G3 h0 n0 O0 O4 rG3 V_v (by decide) hlt) hZ (tw hw 228 rfl) (tw hw 109 rfl) (by decide) (by decide)) (g := (mkF m 2 #[.val (.ref v), .val (.int (Int32.ofNat cs.length)), .val (.int ch)] [(.ref v), (.int (Int32.ofNat cs.length))])) rfl (by rw [hml]; rfl) (argsL := [(.int (Int32.ofNat cs.length)), (.ref v)]) (rest := []) (lenOf pd_18 rfl) rfl (by show 2 * 0 + _ ≤ _; exact Nat.le_of_eq rfl) (hb hby d52_71_2) (fun _ _ => ⟨rfl, e0, (by decide : 0 + 0 ≤ _), (by decide : 0 + 0 ≤ _)⟩)
  dsimp only [Pt.U, Pt.locs, Pt.cells, Pt.slots] at X147 l147 y147 z147 st147 hQ147
  subst l147 y147 z147
  refine own_go st147 ?_
  obtain ⟨rfl, Nq147, e147⟩ := hQ147
  have N147 := Fr.app N0 Nq147
  refine og (fun _ k => XS.aloadN X147.here hx rfl (hb hby d52_71_5) rfl rfl k) ?_
  try dsimp only [mkF]
  refine og (fun _ k => XS.iloadN X147.here hx rfl (hb hby d52_71_6) rfl k) ?_
  refine og (fun _ k => XS.iloadN X147.here hx rfl (hb hby d52_71_7) rfl k) ?_
  obtain ⟨v148, _, ⟨T148, L148, k148, n148⟩, -, X148, ⟨Lc148, hQ148, l148, y148, z148⟩, st148⟩ := Jvm.LawKit.callS X147 hx (y := (⟨"java/lang/StringUTF16", "putChar", "([BII)V"⟩ : MethodName)) hown (mvT hZ (tw hw 214 rfl)) (mvT hZ (tw hw 215 rfl)) (mvT hZ (tw hw 109 rfl)) (mvT hZ (tw hw 216 rfl)) (by decide) (backOf (W := 0) (rm_put l Z a0 hw [] v kv 32 (own_sb1 cs) cs.length ch h0 n0 O0 OA OH OL V_v g_v (own_sb1l (by omega)) (by omega) (by decide)) hZ (tw hw 216 rfl) (tw hw 109 rfl) (by decide) (by decide)) (g := (mkF m 8 #[.val (.ref v), .val (.int (Int32.ofNat cs.length)), .val (.int ch)] [(.int ch), (.int (Int32.ofNat cs.length)), (.ref v)])) rfl (by rw [hml]; rfl) (argsL := [(.ref v), (.int (Int32.ofNat cs.length)), (.int ch)]) (rest := []) (lenOf pd_3 rfl) rfl (by show 2 * 0 + _ ≤ _; exact Nat.le_of_eq rfl) (hb hby d52_71_8) (fun _ _ => ⟨rfl, e147, (by decide : 0 + 0 ≤ _), (by decide : 0 + 0 ≤ _)⟩)
  dsimp only [Pt.U, Pt.locs, Pt.cells, Pt.slots] at X148 l148 y148 z148 st148 hQ148
  subst l148 y148 z148
  refine own_go st148 ?_
  obtain ⟨rfl, Nq148, K148, Vb148⟩ := hQ148
  have N148 := Fr.app N147 Nq148
  have f149 := ((Keep.refl h0 [v]).trans K148 (allS (Or.inl (List.mem_of_getElem? (i := 0) rfl)) all0))
  refine own_fin (v := none) X148 (fun _ => rfl) hlk (fun fs hr => X148.returnOut hx hrt (hb hby d52_71_11) hr) (QQ := QInf Z v kv (32 : Int32) (own_sb1 (cs ++ [ch])) h0 n0) ?_ (by decide) (by decide)
  exact ⟨rfl, N148, f149, own_ap1 hlt ▸ Vb148⟩

abbrev k68_31 := jdk_68_method_31_code
theorem d68_31_0 : Dk k68_31 0 (.aload_n 0) 1 := own_k
theorem d68_31_1 : Dk k68_31 1 (.aload_n 0) 1 := own_k
theorem d68_31_2 : Dk k68_31 2 (.getfield 79) 3 := own_k
theorem d68_31_5 : Dk k68_31 5 (.iconst 1) 1 := own_k
theorem d68_31_6 : Dk k68_31 6 .iadd 1 := own_k
theorem d68_31_7 : Dk k68_31 7 (.invokevirtual 100) 3 := own_k
theorem d68_31_10 : Dk k68_31 10 (.aload_n 0) 1 := own_k
theorem d68_31_11 : Dk k68_31 11 (.invokevirtual 83) 3 := own_k
theorem d68_31_14 : Dk k68_31 14 (.ifCond .eq 31) 3 := own_k
theorem d68_31_17 : Dk k68_31 17 (.iload_n 1) 1 := own_k
theorem d68_31_18 : Dk k68_31 18 (.invokestatic 191) 3 := own_k
theorem pd_19 : parseMethodDescriptor "(C)Z" = some ⟨[.char], some .boolean⟩ := by decide +kernel
theorem d68_31_21 : Dk k68_31 21 (.ifCond .eq 24) 3 := own_k
theorem d68_31_45 : Dk k68_31 45 (.aload_n 0) 1 := own_k
theorem d68_31_46 : Dk k68_31 46 (.invokevirtual 83) 3 := own_k
theorem d68_31_49 : Dk k68_31 49 (.ifCond .eq 7) 3 := own_k
theorem d68_31_52 : Dk k68_31 52 (.aload_n 0) 1 := own_k
theorem d68_31_53 : Dk k68_31 53 (.invokevirtual 195) 3 := own_k
theorem pd_20 : parseMethodDescriptor "()V" = some ⟨[], none⟩ := by decide +kernel
theorem d68_31_56 : Dk k68_31 56 (.aload_n 0) 1 := own_k
theorem d68_31_57 : Dk k68_31 57 (.getfield 15) 3 := own_k
theorem d68_31_60 : Dk k68_31 60 (.aload_n 0) 1 := own_k
theorem d68_31_61 : Dk k68_31 61 .dup 1 := own_k
theorem d68_31_62 : Dk k68_31 62 (.getfield 79) 3 := own_k
theorem d68_31_65 : Dk k68_31 65 .dup_x1 1 := own_k
theorem d68_31_66 : Dk k68_31 66 (.iconst 1) 1 := own_k
theorem d68_31_67 : Dk k68_31 67 .iadd 1 := own_k
theorem d68_31_68 : Dk k68_31 68 (.putfield 79) 3 := own_k
theorem d68_31_71 : Dk k68_31 71 (.iload_n 1) 1 := own_k
theorem d68_31_72 : Dk k68_31 72 (.invokestatic 197) 3 := own_k
theorem d68_31_75 : Dk k68_31 75 (.aload_n 0) 1 := own_k
theorem d68_31_76 : Dk k68_31 76 .areturn 1 := own_k
theorem d68_31_24 : Dk k68_31 24 (.aload_n 0) 1 := own_k
theorem d68_31_25 : Dk k68_31 25 (.getfield 15) 3 := own_k
theorem d68_31_28 : Dk k68_31 28 (.aload_n 0) 1 := own_k
theorem d68_31_29 : Dk k68_31 29 .dup 1 := own_k
theorem d68_31_30 : Dk k68_31 30 (.getfield 79) 3 := own_k
theorem d68_31_33 : Dk k68_31 33 .dup_x1 1 := own_k
theorem d68_31_34 : Dk k68_31 34 (.iconst 1) 1 := own_k
theorem d68_31_35 : Dk k68_31 35 .iadd 1 := own_k
theorem d68_31_36 : Dk k68_31 36 (.putfield 79) 3 := own_k
theorem d68_31_39 : Dk k68_31 39 (.iload_n 1) 1 := own_k
theorem d68_31_40 : Dk k68_31 40 .i2b 1 := own_k
theorem d68_31_41 : Dk k68_31 41 .bastore 1 := own_k
theorem d68_31_42 : Dk k68_31 42 (.goto 33) 3 := own_k
theorem ef_rm_apc (m : MethodId) (x0 : Addr) (x1 : Int32) : entryFrame m #[(.ref x0), (.int x1)] 2 = mkF m 0 #[.val (.ref x0), .val (.int x1)] [] := by
   first | (simp [entryFrame, mkF, argsToLocals, Value.category]; done) | rfl
set_option maxRecDepth 65536 in
set_option maxHeartbeats 40000000 in
theorem rm_apc (l : Launch) (Z : State) (a0 : Array Value) (hw : ∀ d ∈ tables_1, d.before a0 Z = true) (ws : List Jvm.Cond) (b v : Addr) (kv : ClassId) (cd : Int32) (cs : List Int32) (ch G1 : Int32) (G3 : Value) (h0 : Heap) (n0 : Nat) (O0 : Old Z n0 h0) (O2 : Sta Z Z.heap "java/lang/String" "COMPACT_STRINGS" "Z" (.int G1)) (P5 : ¬ (G1 = (0 : Int32))) (O4 : Sta Z Z.heap "jdk/internal/util/Preconditions" "SIOOBE_FORMATTER" "Ljava/util/function/BiFunction;" G3) (rG3 : G3.isRef = true) (OA : Sta Z Z.heap "java/lang/StringUTF16" "$assertionsDisabled" "Z" (.int (1 : Int32))) (OH : Sta Z Z.heap "java/lang/StringUTF16" "HI_BYTE_SHIFT" "I" (.int (0 : Int32))) (OL : Sta Z Z.heap "java/lang/StringUTF16" "LO_BYTE_SHIFT" "I" (.int (8 : Int32))) (E_b : Exa Z h0 b "java/lang/StringBuilder") (Fv_b : Fld Z h0 b "java/lang/AbstractStringBuilder" "value" "[B" (.ref v)) (Fc_b : Fld Z h0 b "java/lang/AbstractStringBuilder" "coder" "B" (.int cd)) (Fn_b : Fld Z h0 b "java/lang/AbstractStringBuilder" "count" "I" (.int (Int32.ofNat cs.length))) (Fm_b : Fld Z h0 b "java/lang/AbstractStringBuilder" "maybeLatin1" "Z" (.int (0 : Int32))) (V_v : Arv Z h0 v kv .byte (own_sbN cd) (own_sbv cd cs) (.int (0 : Int32))) (hcd : own_cdi cd cs) (g_b : n0 ≤ b) (g_v : n0 ≤ v) (hch : ¬ ch < 0 ∧ ¬ (65535 : Int32) < ch) (hok : own_Ok cs) (hlt : cs.length < 16) :
    MetFree l (⟨"java/lang/AbstractStringBuilder", "append", "(C)Ljava/lang/AbstractStringBuilder;"⟩ : MethodName) (head1 (Jvm.Cond.code (⟨"java/lang/AbstractStringBuilder", "append", "(C)Ljava/lang/AbstractStringBuilder;"⟩ : MethodName) jdk_68_method_31_code 2 (some (.object "java/lang/AbstractStringBuilder")) :: ws) ⟨6, 1, 32, 89⟩) (fun aA U => aA = #[(.ref b), (.int ch)] ∧ Z.Warmed39 U.vm ∧ U.heap = h0) (fun _ _ _ _ _ => True) (fun _ U oO U' => ∃ rV rL, oO = .returned rV ∧ QSB Z (some (.ref b)) b v (cs ++ [ch]) h0 n0 rV U'.heap rL ∧ FrameEnd U oO U' rL 1 32) := by
  refine MetFree.of_bodySF (plainFor_of_name pn_2) hisR ?_
  intro p e s m args below meth cC s₁ Bd hml0 hP hK
  obtain ⟨rfl, hZ, hh⟩ := hP
  have hx := Bd.exec
  have hby := Bd.bytes
  have hml : cC.maxLocals = 2 := hml0
  have hown : s.vm.findClass "java/lang/AbstractStringBuilder" = some m.cls := findClass_of_methodNamed Bd.named
  have hnm := (name_of_methodNamed Bd.named Bd.method).1
  have hrt := Bd.returns
  have hlk : meth.locks = false := Bd.notSynchronized
  have X0 : Stand p l e ⟨6, 1, 32, 89⟩ s m #[(.ref b), (.int ch)] below meth cC s₁ [] 0 0 := Stand.of_body Bd
  have e0 : s₁.heap = h0 := by rw [← hh, Bd.state]; rfl
  have N0 := Fr.nil n0
  have Z0 : n0 ≤ h0.size := O0.1 ▸ O0.2.1
  show own_Go p e below (s₁.setTop (entryFrame m #[(.ref b), (.int ch)] 2)) (fun oO U' => ∃ rV rL, oO = .returned rV ∧ QSB Z (some (.ref b)) b v (cs ++ [ch]) h0 n0 rV U'.heap rL ∧ FrameEnd s oO U' rL 1 32)
  refine own_go (fun _ k => castTop (ef_rm_apc m b ch) k) ?_
  have hbv := Exa.neArv E_b V_v (tw hw 27 rfl)
  rcases id hcd with ⟨cd0, hall⟩ | ⟨cd0, hex⟩
  · subst cd0
    refine og (fun _ k => XS.aloadN X0.here hx rfl (hb hby d68_31_0) rfl rfl k) ?_
    refine og (fun _ k => XS.aloadN X0.here hx rfl (hb hby d68_31_1) rfl rfl k) ?_
    try dsimp only [mkF]
    obtain ⟨T150, X150, e150, st150⟩ := getF X0 hx hZ hown (host := "") (Or.inl (tw hw 81 rfl)) Via.refl e0 Fn_b (g := (mkF m 2 #[.val (.ref b), .val (.int ch)] [(.ref b), (.ref b)])) rfl rfl (hb hby d68_31_2)
    refine own_go st150 ?_
    refine og (fun _ k => XS.iconst X150.here hx rfl (hb hby d68_31_5) k) ?_
    refine og (fun _ k => XS.iadd X150.here hx rfl (hb hby d68_31_6) rfl k) ?_
    show own_Go p e below (T150.setTop (mkF m 7 #[.val (.ref b), .val (.int ch)] [(.int ((Int32.ofNat cs.length) + (1 : Int32))), (.ref b)])) _
    rw [own_inc]
    obtain ⟨cq151, q151, q151'⟩ := E_b.cell
    obtain ⟨v151, _, ⟨T151, L151, k151, n151⟩, -, X151, ⟨Lc151, hQ151, l151, y151, z151⟩, st151⟩ := X150.privateBack hx (y := (⟨"java/lang/AbstractStringBuilder", "ensureCapacityInternal", "(I)V"⟩ : MethodName)) hown (mvT hZ (tw hw 173 rfl)) (mvT hZ (tw hw 174 rfl)) (own_selQ hZ (tw hw 176 rfl) (tw hw 175 rfl) (tw hw 174 rfl) (by decide)) (Cond.privateMethod_at (mvP hZ (tw hw 175 rfl) (args := #[]))) (mvT hZ (tw hw 177 rfl)) (by decide) (backOf (W := 0) (rm_ens l Z a0 hw [] b v kv (0 : Int32) cs (cs.length + 1) G1 G3 h0 n0 O0 O2 P5 O4 rG3 OA OH OL E_b Fv_b Fc_b Fn_b Fm_b V_v hcd g_b g_v (by omega)) hZ (tw hw 177 rfl) (tw hw 36 rfl) (by decide) (by decide)) (g := (mkF m 7 #[.val (.ref b), .val (.int ch)] [(.int (Int32.ofNat (cs.length + 1))), (.ref b)])) rfl (by rw [hml]; rfl) (Steps.refl _) (a := b) (by rw [e150]; exact q151) q151' (argsL := [(.int (Int32.ofNat (cs.length + 1)))]) (rest := []) (lenOf pd_8 rfl) rfl (by show 2 * 0 + _ ≤ _; exact Nat.le_of_eq rfl) (hb hby d68_31_7) (fun _ _ => ⟨rfl, e150, (by decide : 0 + 0 ≤ _), (by decide : 0 + 0 ≤ _)⟩)
    dsimp only [Pt.U, Pt.locs, Pt.cells, Pt.slots] at X151 l151 y151 z151 st151 hQ151
    subst l151 y151 z151
    refine own_gos st151 ?_
    obtain ⟨rfl, Nq151, e151⟩ := hQ151
    have N151 := Fr.app N0 Nq151
    try dsimp only [mkF]
    refine og (fun _ k => XS.aloadN X151.here hx rfl (hb hby d68_31_10) rfl rfl k) ?_
    obtain ⟨cq152, kq152, q152a, q152b, q152c⟩ := isOf hZ e151 E_b
    obtain ⟨v152, _, ⟨T152, L152, k152, n152⟩, -, X152, ⟨Lc152, hQ152, l152, y152, z152⟩, st152⟩ := X151.virtualBack hx (y := (⟨"java/lang/AbstractStringBuilder", "isLatin1", "()Z"⟩ : MethodName)) (z := (⟨"java/lang/AbstractStringBuilder", "isLatin1", "()Z"⟩ : MethodName)) hown (mvT hZ (tw hw 178 rfl)) (mvT hZ (tw hw 84 rfl)) (notFace_of_selects (args := #[]) (mvT hZ (tw hw 86 rfl))) (mvT hZ (tw hw 86 rfl)) (mvT hZ (tw hw 85 rfl)) (by decide) (backOf (W := 0) (rm_bl0 l Z a0 hw [] b G1 h0 n0 O0 E_b Fc_b O2 P5) hZ (tw hw 87 rfl) (tw hw 36 rfl) (by decide) (by decide)) q152a q152c (g := (mkF m 11 #[.val (.ref b), .val (.int ch)] [(.ref b)])) rfl (by rw [hml]; rfl) (Steps.refl _) (argsL := []) (rest := []) (lenOf pd_17 rfl) rfl (by show 2 * 0 + _ ≤ _; exact Nat.le_of_eq rfl) (hb hby d68_31_11) (fun _ _ => ⟨rfl, e151, (by decide : 0 + 0 ≤ _), (by decide : 0 + 0 ≤ _)⟩)
    dsimp only [Pt.U, Pt.locs, Pt.cells, Pt.slots] at X152 l152 y152 z152 st152 hQ152
    subst l152 y152 z152
    refine own_gos st152 ?_
    obtain ⟨rfl, Nq152, e152⟩ := hQ152
    have N152 := Fr.app N151 Nq152
    refine og (fun _ k => XS.ifNo X152.here hx rfl (hb hby d68_31_14) rfl ((if0 _ _).trans (feq (by decide : ¬ ((1 : Int32) = (0 : Int32)))).1) k) ?_
    refine og (fun _ k => XS.iloadN X152.here hx rfl (hb hby d68_31_17) rfl k) ?_
    obtain ⟨v153, _, ⟨T153, L153, k153, n153⟩, -, X153, ⟨Lc153, hQ153, l153, y153, z153⟩, st153⟩ := Jvm.LawKit.callS X152 hx (y := (⟨"java/lang/StringLatin1", "canEncode", "(C)Z"⟩ : MethodName)) hown (mvT hZ (tw hw 179 rfl)) (mvT hZ (tw hw 180 rfl)) (mvT hZ (tw hw 129 rfl)) (mvT hZ (tw hw 181 rfl)) (by decide) (backOf (W := 0) (rm_cec l Z a0 hw [] ch h0 n0 O0 ) hZ (tw hw 181 rfl) (tw hw 129 rfl) (by decide) (by decide)) (g := (mkF m 18 #[.val (.ref b), .val (.int ch)] [(.int ch)])) rfl (by rw [hml]; rfl) (argsL := [(.int ch)]) (rest := []) (lenOf pd_19 rfl) rfl (by show 2 * 0 + _ ≤ _; exact Nat.le_of_eq rfl) (hb hby d68_31_18) (fun _ _ => ⟨rfl, e152, (by decide : 0 + 0 ≤ _), (by decide : 0 + 0 ≤ _)⟩)
    dsimp only [Pt.U, Pt.locs, Pt.cells, Pt.slots] at X153 l153 y153 z153 st153 hQ153
    subst l153 y153 z153
    refine own_go st153 ?_
    obtain ⟨rfl, Nq153, e153⟩ := hQ153
    have N153 := Fr.app N152 Nq153
    try dsimp only [mkF]
    by_cases hc154 : (own_ce ch) = (0 : Int32)
    · skip
      refine og (fun _ k => XS.ifYes X153.here hx rfl (pc0 := 21) (pc' := 45) rfl (hb hby d68_31_21) rfl ((if0 _ _).trans (teq hc154).1) (by decide) (by decide) k) ?_
      refine og (fun _ k => XS.aloadN X153.here hx rfl (hb hby d68_31_45) rfl rfl k) ?_
      obtain ⟨cq155, kq155, q155a, q155b, q155c⟩ := isOf hZ e153 E_b
      obtain ⟨v155, _, ⟨T155, L155, k155, n155⟩, -, X155, ⟨Lc155, hQ155, l155, y155, z155⟩, st155⟩ := X153.virtualBack hx (y := (⟨"java/lang/AbstractStringBuilder", "isLatin1", "()Z"⟩ : MethodName)) (z := (⟨"java/lang/AbstractStringBuilder", "isLatin1", "()Z"⟩ : MethodName)) hown (mvT hZ (tw hw 178 rfl)) (mvT hZ (tw hw 84 rfl)) (notFace_of_selects (args := #[]) (mvT hZ (tw hw 86 rfl))) (mvT hZ (tw hw 86 rfl)) (mvT hZ (tw hw 85 rfl)) (by decide) (backOf (W := 0) (rm_bl0 l Z a0 hw [] b G1 h0 n0 O0 E_b Fc_b O2 P5) hZ (tw hw 87 rfl) (tw hw 36 rfl) (by decide) (by decide)) q155a q155c (g := (mkF m 46 #[.val (.ref b), .val (.int ch)] [(.ref b)])) rfl (by rw [hml]; rfl) (Steps.refl _) (argsL := []) (rest := []) (lenOf pd_17 rfl) rfl (by show 2 * 0 + _ ≤ _; exact Nat.le_of_eq rfl) (hb hby d68_31_46) (fun _ _ => ⟨rfl, e153, (by decide : 0 + 0 ≤ _), (by decide : 0 + 0 ≤ _)⟩)
      dsimp only [Pt.U, Pt.locs, Pt.cells, Pt.slots] at X155 l155 y155 z155 st155 hQ155
      subst l155 y155 z155
      refine own_gos st155 ?_
      obtain ⟨rfl, Nq155, e155⟩ := hQ155
      have N155 := Fr.app N153 Nq155
      refine og (fun _ k => XS.ifNo X155.here hx rfl (hb hby d68_31_49) rfl ((if0 _ _).trans (feq (by decide : ¬ ((1 : Int32) = (0 : Int32)))).1) k) ?_
      refine og (fun _ k => XS.aloadN X155.here hx rfl (hb hby d68_31_52) rfl rfl k) ?_
      try dsimp only [mkF]
      obtain ⟨cq156, q156, q156'⟩ := E_b.cell
      obtain ⟨v156, _, ⟨T156, L156, k156, n156⟩, -, X156, ⟨Lc156, hQ156, l156, y156, z156⟩, st156⟩ := X155.privateBack hx (y := (⟨"java/lang/AbstractStringBuilder", "inflate", "()V"⟩ : MethodName)) hown (mvT hZ (tw hw 233 rfl)) (mvT hZ (tw hw 234 rfl)) (own_selQ hZ (tw hw 236 rfl) (tw hw 235 rfl) (tw hw 234 rfl) (by decide)) (Cond.privateMethod_at (mvP hZ (tw hw 235 rfl) (args := #[]))) (mvT hZ (tw hw 237 rfl)) (by decide) (backOf (W := 0) (rm_ai0 l Z a0 hw [] b v kv cs G1 G3 h0 n0 O0 O2 P5 O4 rG3 OA OH OL E_b Fv_b Fc_b Fn_b Fm_b V_v hall g_b g_v hok (by omega)) hZ (tw hw 237 rfl) (tw hw 36 rfl) (by decide) (by decide)) (g := (mkF m 53 #[.val (.ref b), .val (.int ch)] [(.ref b)])) rfl (by rw [hml]; rfl) (Steps.refl _) (a := b) (by rw [e155]; exact q156) q156' (argsL := []) (rest := []) (lenOf pd_20 rfl) rfl (by show 2 * 0 + _ ≤ _; exact Nat.le_of_eq rfl) (hb hby d68_31_53) (fun _ _ => ⟨rfl, e155, (by decide : 0 + 1 ≤ _), (by decide : 0 + 32 ≤ _)⟩)
      dsimp only [Pt.U, Pt.locs, Pt.cells, Pt.slots] at X156 l156 y156 z156 st156 hQ156
      subst l156 y156 z156
      refine own_gos st156 ?_
      obtain ⟨v156, kv156, rfl, Nq156, K156, vg156, Fv156, Fc156, Fn156, Fm156, Vv156⟩ := hQ156
      have N156 := Fr.app N155 Nq156
      refine og (fun _ k => XS.aloadN X156.here hx rfl (hb hby d68_31_56) rfl rfl k) ?_
      obtain ⟨T157, X157, e157, st157⟩ := getF X156 hx hZ hown (host := "") (Or.inl (tw hw 40 rfl)) Via.refl (rfl : T156.heap = T156.heap) Fv156 (g := (mkF m 57 #[.val (.ref b), .val (.int ch)] [(.ref b)])) rfl rfl (hb hby d68_31_57)
      refine own_go st157 ?_
      refine og (fun _ k => XS.aloadN X157.here hx rfl (hb hby d68_31_60) rfl rfl k) ?_
      refine og (fun _ k => XS.dup X157.here hx rfl (hb hby d68_31_61) rfl rfl k) ?_
      try dsimp only [mkF]
      obtain ⟨T158, X158, e158, st158⟩ := getF X157 hx hZ hown (host := "") (Or.inl (tw hw 81 rfl)) Via.refl e157 Fn156 (g := (mkF m 62 #[.val (.ref b), .val (.int ch)] [(.ref b), (.ref b), (.ref v156)])) rfl rfl (hb hby d68_31_62)
      refine own_go st158 ?_
      refine og (fun _ k => XS.dupX1 X158.here hx rfl (hb hby d68_31_65) rfl rfl rfl k) ?_
      refine og (fun _ k => XS.iconst X158.here hx rfl (hb hby d68_31_66) k) ?_
      refine og (fun _ k => XS.iadd X158.here hx rfl (hb hby d68_31_67) rfl k) ?_
      obtain ⟨T159, h159, X159, e159, W159, st159⟩ := putF X158 hx hZ hown (host := "") (Or.inl (tw hw 81 rfl)) Via.refl e158 Fn156 (E_b.keep K156) (Or.inl (tw hw 82 rfl)) (tw hw 27 rfl) (ty := .int) (by decide) rfl rfl (g := (mkF m 68 #[.val (.ref b), .val (.int ch)] [(.int ((Int32.ofNat cs.length) + (1 : Int32))), (.ref b), (.int (Int32.ofNat cs.length)), (.ref v156)])) rfl rfl (hb hby d68_31_68)
      refine own_go st159 ?_
      have N159 := Fr.snoc X159 N156 g_b
      have Fw159 := Fn156.same W159
      try dsimp only [mkF]
      refine og (fun _ k => XS.iloadN X159.here hx rfl (hb hby d68_31_71) rfl k) ?_
      have ne160 : b ≠ v156 := Nat.ne_of_lt (Nat.lt_of_lt_of_le E_b.lt vg156)
      have f161 := (Vv156.other W159 (Ne.symm ne160))
      have f162 := ((O0.keep K156 (allS g_b all0)).wr W159 g_b)
      obtain ⟨v163, _, ⟨T163, L163, k163, n163⟩, -, X163, ⟨Lc163, hQ163, l163, y163, z163⟩, st163⟩ := Jvm.LawKit.callS X159 hx (y := (⟨"java/lang/StringUTF16", "putCharSB", "([BII)V"⟩ : MethodName)) hown (mvT hZ (tw hw 254 rfl)) (mvT hZ (tw hw 255 rfl)) (mvT hZ (tw hw 109 rfl)) (mvT hZ (tw hw 256 rfl)) (by decide) (backOf (W := 0) (rm_pcs l Z a0 hw [] v156 kv156 cs ch G3 h159 n0 f162 O4 rG3 OA OH OL f161 (Nat.le_trans Z0 vg156) hlt) hZ (tw hw 256 rfl) (tw hw 109 rfl) (by decide) (by decide)) (g := (mkF m 72 #[.val (.ref b), .val (.int ch)] [(.int ch), (.int (Int32.ofNat cs.length)), (.ref v156)])) rfl (by rw [hml]; rfl) (argsL := [(.ref v156), (.int (Int32.ofNat cs.length)), (.int ch)]) (rest := []) (lenOf pd_3 rfl) rfl (by show 2 * 0 + _ ≤ _; exact Nat.le_of_eq rfl) (hb hby d68_31_72) (fun _ _ => ⟨rfl, e159, (by decide : 1 + 0 ≤ _), (by decide : 32 + 0 ≤ _)⟩)
      dsimp only [Pt.U, Pt.locs, Pt.cells, Pt.slots] at X163 l163 y163 z163 st163 hQ163
      subst l163 y163 z163
      refine own_go st163 ?_
      obtain ⟨rfl, Nq163, K163, Vv163⟩ := hQ163
      have N163 := Fr.app N159 Nq163
      refine og (fun _ k => XS.aloadN X163.here hx rfl (hb hby d68_31_75) rfl rfl k) ?_
      have f164 := ((((Keep.refl h0 [b, v]).trans K156 (allS (Or.inl (List.mem_of_getElem? (i := 0) rfl)) all0)).wr W159 (Or.inl (List.mem_of_getElem? (i := 0) rfl))).trans K163 (allS (Or.inr vg156) all0))
      have f165 := ((Fv156.other W159 (Or.inr (slot_ne (Or.inl (tw hw 41 rfl)) (Or.inl (tw hw 82 rfl)) (by decide) (t := (.array .byte)) (t' := .int) (by decide) (by decide)))).keep K163 (ninS ne160 nin0))
      have f166 := ((Fc156.other W159 (Or.inr (slot_ne (Or.inl (tw hw 43 rfl)) (Or.inl (tw hw 82 rfl)) (by decide) (t := .byte) (t' := .int) (by decide) (by decide)))).keep K163 (ninS ne160 nin0))
      have f167 := (Fw159.keep K163 (ninS ne160 nin0))
      have f168 := ((Fm156.other W159 (Or.inr (slot_ne (Or.inl (tw hw 258 rfl)) (Or.inl (tw hw 82 rfl)) (by decide) (t := .boolean) (t' := .int) (by decide) (by decide)))).keep K163 (ninS ne160 nin0))
      refine own_fin (v := (some (.ref b))) X163 (fun h => by rw [hrt] at h; cases h) hlk (fun fs hr => retR X163 hx hrt (by rfl) rfl rfl (hb hby d68_31_76) hr) (QQ := QSB Z (some (.ref b)) b v (cs ++ [ch]) h0 n0) ?_ (by decide) (by decide)
      exact ⟨v156, _, (1 : Int32), rfl, N163, f164, Or.inr vg156, f165, f166, (own_len1 cs ch ▸ f167), f168, Vv163, own_cdi1 (own_ce0 hc154)⟩
    · skip
      refine og (fun _ k => XS.ifNo X153.here hx rfl (hb hby d68_31_21) rfl ((if0 _ _).trans (feq hc154).1) k) ?_
      refine og (fun _ k => XS.aloadN X153.here hx rfl (hb hby d68_31_24) rfl rfl k) ?_
      obtain ⟨T169, X169, e169, st169⟩ := getF X153 hx hZ hown (host := "") (Or.inl (tw hw 40 rfl)) Via.refl e153 Fv_b (g := (mkF m 25 #[.val (.ref b), .val (.int ch)] [(.ref b)])) rfl rfl (hb hby d68_31_25)
      refine own_go st169 ?_
      refine og (fun _ k => XS.aloadN X169.here hx rfl (hb hby d68_31_28) rfl rfl k) ?_
      refine og (fun _ k => XS.dup X169.here hx rfl (hb hby d68_31_29) rfl rfl k) ?_
      try dsimp only [mkF]
      obtain ⟨T170, X170, e170, st170⟩ := getF X169 hx hZ hown (host := "") (Or.inl (tw hw 81 rfl)) Via.refl e169 Fn_b (g := (mkF m 30 #[.val (.ref b), .val (.int ch)] [(.ref b), (.ref b), (.ref v)])) rfl rfl (hb hby d68_31_30)
      refine own_go st170 ?_
      refine og (fun _ k => XS.dupX1 X170.here hx rfl (hb hby d68_31_33) rfl rfl rfl k) ?_
      refine og (fun _ k => XS.iconst X170.here hx rfl (hb hby d68_31_34) k) ?_
      refine og (fun _ k => XS.iadd X170.here hx rfl (hb hby d68_31_35) rfl k) ?_
      obtain ⟨T171, h171, X171, e171, W171, st171⟩ := putF X170 hx hZ hown (host := "") (Or.inl (tw hw 81 rfl)) Via.refl e170 Fn_b E_b (Or.inl (tw hw 82 rfl)) (tw hw 27 rfl) (ty := .int) (by decide) rfl rfl (g := (mkF m 36 #[.val (.ref b), .val (.int ch)] [(.int ((Int32.ofNat cs.length) + (1 : Int32))), (.ref b), (.int (Int32.ofNat cs.length)), (.ref v)])) rfl rfl (hb hby d68_31_36)
      refine own_go st171 ?_
      have N171 := Fr.snoc X171 N153 g_b
      have Fw171 := Fn_b.same W171
      try dsimp only [mkF]
      refine og (fun _ k => XS.iloadN X171.here hx rfl (hb hby d68_31_39) rfl k) ?_
      refine og (fun _ k => XS.i2b X171.here hx rfl (hb hby d68_31_40) rfl k) ?_
      have f172 := (V_v.other W171 (Ne.symm hbv))
      obtain ⟨c173, A173, q173, S173, M173, Hs173, Gs173⟩ := id f172
      obtain ⟨T174, h174, X174, e174, W174, st174⟩ := stB X171 hx hZ e171 A173 (j := (Int32.ofNat cs.length)) (inb_of S173 (own_inb (j := 16) (by omega) (by omega))) (g := (mkF m 41 #[.val (.ref b), .val (.int ch)] [(.int (ch.toInt8.toInt32)), (.int (Int32.ofNat cs.length)), (.ref v)])) rfl rfl (hb hby d68_31_41)
      refine own_go st174 ?_
      have N174 := Fr.snoc X174 N171 g_v
      have V174 : Arv Z h174 v kv .byte (16 : Int32) (own_sb0 (cs ++ [ch])) (.int (0 : Int32)) := Eq.mp (congrArg (fun LL => Arv Z h174 v kv .byte (16 : Int32) LL (.int (0 : Int32))) (show ((own_sb0 cs) : List Value).set cs.length (.int (nar .byte (ch.toInt8.toInt32))) = (own_sb0 (cs ++ [ch])) from (by rw [own_nb]; exact own_ap0 hlt))) (Arv.set A173 q173 S173 M173 Hs173 Gs173 (fits_nar_byte _) W174 cs.length (own_tn (by omega)) (by show cs.length < (own_sb0 cs).length; rw [own_sb0l (by omega)]; exact hlt))
      refine og (fun _ k => XS.goto X174.here hx rfl (pc0 := 42) (pc' := 75) rfl (hb hby d68_31_42) (by decide) (by decide) k) ?_
      refine og (fun _ k => XS.aloadN X174.here hx rfl (hb hby d68_31_75) rfl rfl k) ?_
      try dsimp only [mkF]
      have f175 := (((Keep.refl h0 [b, v]).wr W171 (Or.inl (List.mem_of_getElem? (i := 0) rfl))).wr W174 (Or.inl (List.mem_of_getElem? (i := 1) rfl)))
      have f176 := ((Fv_b.other W171 (Or.inr (slot_ne (Or.inl (tw hw 41 rfl)) (Or.inl (tw hw 82 rfl)) (by decide) (t := (.array .byte)) (t' := .int) (by decide) (by decide)))).other W174 (Or.inl hbv))
      have f177 := ((Fc_b.other W171 (Or.inr (slot_ne (Or.inl (tw hw 43 rfl)) (Or.inl (tw hw 82 rfl)) (by decide) (t := .byte) (t' := .int) (by decide) (by decide)))).other W174 (Or.inl hbv))
      have f178 := (Fw171.other W174 (Or.inl hbv))
      have f179 := ((Fm_b.other W171 (Or.inr (slot_ne (Or.inl (tw hw 258 rfl)) (Or.inl (tw hw 82 rfl)) (by decide) (t := .boolean) (t' := .int) (by decide) (by decide)))).other W174 (Or.inl hbv))
      refine own_fin (v := (some (.ref b))) X174 (fun h => by rw [hrt] at h; cases h) hlk (fun fs hr => retR X174 hx hrt (by rfl) rfl rfl (hb hby d68_31_76) hr) (QQ := QSB Z (some (.ref b)) b v (cs ++ [ch]) h0 n0) ?_ (by decide) (by decide)
      rw [e174]
      exact ⟨v, _, (0 : Int32), rfl, N174, f175, Or.inl rfl, f176, f177, (own_len1 cs ch ▸ f178), f179, V174, own_cdi0 hall (own_ce1 hc154)⟩
  · subst cd0
    refine og (fun _ k => XS.aloadN X0.here hx rfl (hb hby d68_31_0) rfl rfl k) ?_
    refine og (fun _ k => XS.aloadN X0.here hx rfl (hb hby d68_31_1) rfl rfl k) ?_
    try dsimp only [mkF]
    obtain ⟨T180, X180, e180, st180⟩ := getF X0 hx hZ hown (host := "") (Or.inl (tw hw 81 rfl)) Via.refl e0 Fn_b (g := (mkF m 2 #[.val (.ref b), .val (.int ch)] [(.ref b), (.ref b)])) rfl rfl (hb hby d68_31_2)
    refine own_go st180 ?_
    refine og (fun _ k => XS.iconst X180.here hx rfl (hb hby d68_31_5) k) ?_
    refine og (fun _ k => XS.iadd X180.here hx rfl (hb hby d68_31_6) rfl k) ?_
    show own_Go p e below (T180.setTop (mkF m 7 #[.val (.ref b), .val (.int ch)] [(.int ((Int32.ofNat cs.length) + (1 : Int32))), (.ref b)])) _
    rw [own_inc]
    obtain ⟨cq181, q181, q181'⟩ := E_b.cell
    obtain ⟨v181, _, ⟨T181, L181, k181, n181⟩, -, X181, ⟨Lc181, hQ181, l181, y181, z181⟩, st181⟩ := X180.privateBack hx (y := (⟨"java/lang/AbstractStringBuilder", "ensureCapacityInternal", "(I)V"⟩ : MethodName)) hown (mvT hZ (tw hw 173 rfl)) (mvT hZ (tw hw 174 rfl)) (own_selQ hZ (tw hw 176 rfl) (tw hw 175 rfl) (tw hw 174 rfl) (by decide)) (Cond.privateMethod_at (mvP hZ (tw hw 175 rfl) (args := #[]))) (mvT hZ (tw hw 177 rfl)) (by decide) (backOf (W := 0) (rm_ens l Z a0 hw [] b v kv (1 : Int32) cs (cs.length + 1) G1 G3 h0 n0 O0 O2 P5 O4 rG3 OA OH OL E_b Fv_b Fc_b Fn_b Fm_b V_v hcd g_b g_v (by omega)) hZ (tw hw 177 rfl) (tw hw 36 rfl) (by decide) (by decide)) (g := (mkF m 7 #[.val (.ref b), .val (.int ch)] [(.int (Int32.ofNat (cs.length + 1))), (.ref b)])) rfl (by rw [hml]; rfl) (Steps.refl _) (a := b) (by rw [e180]; exact q181) q181' (argsL := [(.int (Int32.ofNat (cs.length + 1)))]) (rest := []) (lenOf pd_8 rfl) rfl (by show 2 * 0 + _ ≤ _; exact Nat.le_of_eq rfl) (hb hby d68_31_7) (fun _ _ => ⟨rfl, e180, (by decide : 0 + 0 ≤ _), (by decide : 0 + 0 ≤ _)⟩)
    dsimp only [Pt.U, Pt.locs, Pt.cells, Pt.slots] at X181 l181 y181 z181 st181 hQ181
    subst l181 y181 z181
    refine own_gos st181 ?_
    obtain ⟨rfl, Nq181, e181⟩ := hQ181
    have N181 := Fr.app N0 Nq181
    try dsimp only [mkF]
    refine og (fun _ k => XS.aloadN X181.here hx rfl (hb hby d68_31_10) rfl rfl k) ?_
    obtain ⟨cq182, kq182, q182a, q182b, q182c⟩ := isOf hZ e181 E_b
    obtain ⟨v182, _, ⟨T182, L182, k182, n182⟩, -, X182, ⟨Lc182, hQ182, l182, y182, z182⟩, st182⟩ := X181.virtualBack hx (y := (⟨"java/lang/AbstractStringBuilder", "isLatin1", "()Z"⟩ : MethodName)) (z := (⟨"java/lang/AbstractStringBuilder", "isLatin1", "()Z"⟩ : MethodName)) hown (mvT hZ (tw hw 178 rfl)) (mvT hZ (tw hw 84 rfl)) (notFace_of_selects (args := #[]) (mvT hZ (tw hw 86 rfl))) (mvT hZ (tw hw 86 rfl)) (mvT hZ (tw hw 85 rfl)) (by decide) (backOf (W := 0) (rm_bl1 l Z a0 hw [] b G1 h0 n0 O0 E_b Fc_b O2 P5) hZ (tw hw 87 rfl) (tw hw 36 rfl) (by decide) (by decide)) q182a q182c (g := (mkF m 11 #[.val (.ref b), .val (.int ch)] [(.ref b)])) rfl (by rw [hml]; rfl) (Steps.refl _) (argsL := []) (rest := []) (lenOf pd_17 rfl) rfl (by show 2 * 0 + _ ≤ _; exact Nat.le_of_eq rfl) (hb hby d68_31_11) (fun _ _ => ⟨rfl, e181, (by decide : 0 + 0 ≤ _), (by decide : 0 + 0 ≤ _)⟩)
    dsimp only [Pt.U, Pt.locs, Pt.cells, Pt.slots] at X182 l182 y182 z182 st182 hQ182
    subst l182 y182 z182
    refine own_gos st182 ?_
    obtain ⟨rfl, Nq182, e182⟩ := hQ182
    have N182 := Fr.app N181 Nq182
    refine og (fun _ k => XS.ifYes X182.here hx rfl (pc0 := 14) (pc' := 45) rfl (hb hby d68_31_14) rfl ((if0 _ _).trans (teq (by decide : (0 : Int32) = (0 : Int32))).1) (by decide) (by decide) k) ?_
    refine og (fun _ k => XS.aloadN X182.here hx rfl (hb hby d68_31_45) rfl rfl k) ?_
    obtain ⟨cq183, kq183, q183a, q183b, q183c⟩ := isOf hZ e182 E_b
    obtain ⟨v183, _, ⟨T183, L183, k183, n183⟩, -, X183, ⟨Lc183, hQ183, l183, y183, z183⟩, st183⟩ := X182.virtualBack hx (y := (⟨"java/lang/AbstractStringBuilder", "isLatin1", "()Z"⟩ : MethodName)) (z := (⟨"java/lang/AbstractStringBuilder", "isLatin1", "()Z"⟩ : MethodName)) hown (mvT hZ (tw hw 178 rfl)) (mvT hZ (tw hw 84 rfl)) (notFace_of_selects (args := #[]) (mvT hZ (tw hw 86 rfl))) (mvT hZ (tw hw 86 rfl)) (mvT hZ (tw hw 85 rfl)) (by decide) (backOf (W := 0) (rm_bl1 l Z a0 hw [] b G1 h0 n0 O0 E_b Fc_b O2 P5) hZ (tw hw 87 rfl) (tw hw 36 rfl) (by decide) (by decide)) q183a q183c (g := (mkF m 46 #[.val (.ref b), .val (.int ch)] [(.ref b)])) rfl (by rw [hml]; rfl) (Steps.refl _) (argsL := []) (rest := []) (lenOf pd_17 rfl) rfl (by show 2 * 0 + _ ≤ _; exact Nat.le_of_eq rfl) (hb hby d68_31_46) (fun _ _ => ⟨rfl, e182, (by decide : 0 + 0 ≤ _), (by decide : 0 + 0 ≤ _)⟩)
    dsimp only [Pt.U, Pt.locs, Pt.cells, Pt.slots] at X183 l183 y183 z183 st183 hQ183
    subst l183 y183 z183
    refine own_gos st183 ?_
    obtain ⟨rfl, Nq183, e183⟩ := hQ183
    have N183 := Fr.app N182 Nq183
    try dsimp only [mkF]
    refine og (fun _ k => XS.ifYes X183.here hx rfl (pc0 := 49) (pc' := 56) rfl (hb hby d68_31_49) rfl ((if0 _ _).trans (teq (by decide : (0 : Int32) = (0 : Int32))).1) (by decide) (by decide) k) ?_
    refine og (fun _ k => XS.aloadN X183.here hx rfl (hb hby d68_31_56) rfl rfl k) ?_
    obtain ⟨T184, X184, e184, st184⟩ := getF X183 hx hZ hown (host := "") (Or.inl (tw hw 40 rfl)) Via.refl e183 Fv_b (g := (mkF m 57 #[.val (.ref b), .val (.int ch)] [(.ref b)])) rfl rfl (hb hby d68_31_57)
    refine own_go st184 ?_
    refine og (fun _ k => XS.aloadN X184.here hx rfl (hb hby d68_31_60) rfl rfl k) ?_
    refine og (fun _ k => XS.dup X184.here hx rfl (hb hby d68_31_61) rfl rfl k) ?_
    try dsimp only [mkF]
    obtain ⟨T185, X185, e185, st185⟩ := getF X184 hx hZ hown (host := "") (Or.inl (tw hw 81 rfl)) Via.refl e184 Fn_b (g := (mkF m 62 #[.val (.ref b), .val (.int ch)] [(.ref b), (.ref b), (.ref v)])) rfl rfl (hb hby d68_31_62)
    refine own_go st185 ?_
    refine og (fun _ k => XS.dupX1 X185.here hx rfl (hb hby d68_31_65) rfl rfl rfl k) ?_
    refine og (fun _ k => XS.iconst X185.here hx rfl (hb hby d68_31_66) k) ?_
    refine og (fun _ k => XS.iadd X185.here hx rfl (hb hby d68_31_67) rfl k) ?_
    obtain ⟨T186, h186, X186, e186, W186, st186⟩ := putF X185 hx hZ hown (host := "") (Or.inl (tw hw 81 rfl)) Via.refl e185 Fn_b E_b (Or.inl (tw hw 82 rfl)) (tw hw 27 rfl) (ty := .int) (by decide) rfl rfl (g := (mkF m 68 #[.val (.ref b), .val (.int ch)] [(.int ((Int32.ofNat cs.length) + (1 : Int32))), (.ref b), (.int (Int32.ofNat cs.length)), (.ref v)])) rfl rfl (hb hby d68_31_68)
    refine own_go st186 ?_
    have N186 := Fr.snoc X186 N183 g_b
    have Fw186 := Fn_b.same W186
    try dsimp only [mkF]
    refine og (fun _ k => XS.iloadN X186.here hx rfl (hb hby d68_31_71) rfl k) ?_
    have f187 := (V_v.other W186 (Ne.symm hbv))
    obtain ⟨v188, _, ⟨T188, L188, k188, n188⟩, -, X188, ⟨Lc188, hQ188, l188, y188, z188⟩, st188⟩ := Jvm.LawKit.callS X186 hx (y := (⟨"java/lang/StringUTF16", "putCharSB", "([BII)V"⟩ : MethodName)) hown (mvT hZ (tw hw 254 rfl)) (mvT hZ (tw hw 255 rfl)) (mvT hZ (tw hw 109 rfl)) (mvT hZ (tw hw 256 rfl)) (by decide) (backOf (W := 0) (rm_pcs l Z a0 hw [] v kv cs ch G3 h186 n0 (O0.wr W186 g_b) O4 rG3 OA OH OL f187 g_v hlt) hZ (tw hw 256 rfl) (tw hw 109 rfl) (by decide) (by decide)) (g := (mkF m 72 #[.val (.ref b), .val (.int ch)] [(.int ch), (.int (Int32.ofNat cs.length)), (.ref v)])) rfl (by rw [hml]; rfl) (argsL := [(.ref v), (.int (Int32.ofNat cs.length)), (.int ch)]) (rest := []) (lenOf pd_3 rfl) rfl (by show 2 * 0 + _ ≤ _; exact Nat.le_of_eq rfl) (hb hby d68_31_72) (fun _ _ => ⟨rfl, e186, (by decide : 0 + 0 ≤ _), (by decide : 0 + 0 ≤ _)⟩)
    dsimp only [Pt.U, Pt.locs, Pt.cells, Pt.slots] at X188 l188 y188 z188 st188 hQ188
    subst l188 y188 z188
    refine own_go st188 ?_
    obtain ⟨rfl, Nq188, K188, Vv188⟩ := hQ188
    have N188 := Fr.app N186 Nq188
    refine og (fun _ k => XS.aloadN X188.here hx rfl (hb hby d68_31_75) rfl rfl k) ?_
    have f189 := (((Keep.refl h0 [b, v]).wr W186 (Or.inl (List.mem_of_getElem? (i := 0) rfl))).trans K188 (allS (Or.inl (List.mem_of_getElem? (i := 1) rfl)) all0))
    have f190 := ((Fv_b.other W186 (Or.inr (slot_ne (Or.inl (tw hw 41 rfl)) (Or.inl (tw hw 82 rfl)) (by decide) (t := (.array .byte)) (t' := .int) (by decide) (by decide)))).keep K188 (ninS hbv nin0))
    have f191 := ((Fc_b.other W186 (Or.inr (slot_ne (Or.inl (tw hw 43 rfl)) (Or.inl (tw hw 82 rfl)) (by decide) (t := .byte) (t' := .int) (by decide) (by decide)))).keep K188 (ninS hbv nin0))
    have f192 := (Fw186.keep K188 (ninS hbv nin0))
    have f193 := ((Fm_b.other W186 (Or.inr (slot_ne (Or.inl (tw hw 258 rfl)) (Or.inl (tw hw 82 rfl)) (by decide) (t := .boolean) (t' := .int) (by decide) (by decide)))).keep K188 (ninS hbv nin0))
    refine own_fin (v := (some (.ref b))) X188 (fun h => by rw [hrt] at h; cases h) hlk (fun fs hr => retR X188 hx hrt (by rfl) rfl rfl (hb hby d68_31_76) hr) (QQ := QSB Z (some (.ref b)) b v (cs ++ [ch]) h0 n0) ?_ (by decide) (by decide)
    exact ⟨v, _, (1 : Int32), rfl, N188, f189, Or.inl rfl, f190, f191, (own_len1 cs ch ▸ f192), f193, Vv188, own_cdi2 hex⟩

abbrev k67_14 := jdk_67_method_14_code
theorem d67_14_0 : Dk k67_14 0 (.aload_n 0) 1 := own_k
theorem d67_14_1 : Dk k67_14 1 (.iload_n 1) 1 := own_k
theorem d67_14_2 : Dk k67_14 2 (.invokespecial 50) 3 := own_k
theorem pd_21 : parseMethodDescriptor "(C)Ljava/lang/AbstractStringBuilder;" = some ⟨[.char], some (.object "java/lang/AbstractStringBuilder")⟩ := by decide +kernel
theorem d67_14_5 : Dk k67_14 5 .pop 1 := own_k
theorem d67_14_6 : Dk k67_14 6 (.aload_n 0) 1 := own_k
theorem d67_14_7 : Dk k67_14 7 .areturn 1 := own_k
theorem ef_rm_apC (m : MethodId) (x0 : Addr) (x1 : Int32) : entryFrame m #[(.ref x0), (.int x1)] 2 = mkF m 0 #[.val (.ref x0), .val (.int x1)] [] := by
   first | (simp [entryFrame, mkF, argsToLocals, Value.category]; done) | rfl
set_option maxRecDepth 65536 in
set_option maxHeartbeats 40000000 in
theorem rm_apC (l : Launch) (Z : State) (a0 : Array Value) (hw : ∀ d ∈ tables_1, d.before a0 Z = true) (ws : List Jvm.Cond) (b v : Addr) (kv : ClassId) (cd : Int32) (cs : List Int32) (ch G1 : Int32) (G3 : Value) (h0 : Heap) (n0 : Nat) (O0 : Old Z n0 h0) (O2 : Sta Z Z.heap "java/lang/String" "COMPACT_STRINGS" "Z" (.int G1)) (P5 : ¬ (G1 = (0 : Int32))) (O4 : Sta Z Z.heap "jdk/internal/util/Preconditions" "SIOOBE_FORMATTER" "Ljava/util/function/BiFunction;" G3) (rG3 : G3.isRef = true) (OA : Sta Z Z.heap "java/lang/StringUTF16" "$assertionsDisabled" "Z" (.int (1 : Int32))) (OH : Sta Z Z.heap "java/lang/StringUTF16" "HI_BYTE_SHIFT" "I" (.int (0 : Int32))) (OL : Sta Z Z.heap "java/lang/StringUTF16" "LO_BYTE_SHIFT" "I" (.int (8 : Int32))) (E_b : Exa Z h0 b "java/lang/StringBuilder") (Fv_b : Fld Z h0 b "java/lang/AbstractStringBuilder" "value" "[B" (.ref v)) (Fc_b : Fld Z h0 b "java/lang/AbstractStringBuilder" "coder" "B" (.int cd)) (Fn_b : Fld Z h0 b "java/lang/AbstractStringBuilder" "count" "I" (.int (Int32.ofNat cs.length))) (Fm_b : Fld Z h0 b "java/lang/AbstractStringBuilder" "maybeLatin1" "Z" (.int (0 : Int32))) (V_v : Arv Z h0 v kv .byte (own_sbN cd) (own_sbv cd cs) (.int (0 : Int32))) (hcd : own_cdi cd cs) (g_b : n0 ≤ b) (g_v : n0 ≤ v) (hch : ¬ ch < 0 ∧ ¬ (65535 : Int32) < ch) (hok : own_Ok cs) (hlt : cs.length < 16) :
    MetFree l (⟨"java/lang/StringBuilder", "append", "(C)Ljava/lang/StringBuilder;"⟩ : MethodName) (head1 (Jvm.Cond.code (⟨"java/lang/StringBuilder", "append", "(C)Ljava/lang/StringBuilder;"⟩ : MethodName) jdk_67_method_14_code 2 (some (.object "java/lang/StringBuilder")) :: ws) ⟨7, 1, 32, 102⟩) (fun aA U => aA = #[(.ref b), (.int ch)] ∧ Z.Warmed39 U.vm ∧ U.heap = h0) (fun _ _ _ _ _ => True) (fun _ U oO U' => ∃ rV rL, oO = .returned rV ∧ QSB Z (some (.ref b)) b v (cs ++ [ch]) h0 n0 rV U'.heap rL ∧ FrameEnd U oO U' rL 1 32) := by
  refine MetFree.of_bodySF (plainFor_of_name pn_3) hisR ?_
  intro p e s m args below meth cC s₁ Bd hml0 hP hK
  obtain ⟨rfl, hZ, hh⟩ := hP
  have hx := Bd.exec
  have hby := Bd.bytes
  have hml : cC.maxLocals = 2 := hml0
  have hown : s.vm.findClass "java/lang/StringBuilder" = some m.cls := findClass_of_methodNamed Bd.named
  have hnm := (name_of_methodNamed Bd.named Bd.method).1
  have hrt := Bd.returns
  have hlk : meth.locks = false := Bd.notSynchronized
  have X0 : Stand p l e ⟨7, 1, 32, 102⟩ s m #[(.ref b), (.int ch)] below meth cC s₁ [] 0 0 := Stand.of_body Bd
  have e0 : s₁.heap = h0 := by rw [← hh, Bd.state]; rfl
  have N0 := Fr.nil n0
  have Z0 : n0 ≤ h0.size := O0.1 ▸ O0.2.1
  show own_Go p e below (s₁.setTop (entryFrame m #[(.ref b), (.int ch)] 2)) (fun oO U' => ∃ rV rL, oO = .returned rV ∧ QSB Z (some (.ref b)) b v (cs ++ [ch]) h0 n0 rV U'.heap rL ∧ FrameEnd s oO U' rL 1 32)
  refine own_go (fun _ k => castTop (ef_rm_apC m b ch) k) ?_
  have hbv := Exa.neArv E_b V_v (tw hw 27 rfl)
  refine og (fun _ k => XS.aloadN X0.here hx rfl (hb hby d67_14_0) rfl rfl k) ?_
  refine og (fun _ k => XS.iloadN X0.here hx rfl (hb hby d67_14_1) rfl k) ?_
  obtain ⟨v194, _, ⟨T194, L194, k194, n194⟩, -, X194, ⟨Lc194, hQ194, l194, y194, z194⟩, st194⟩ := superBack X0 hx hZ (y := (⟨"java/lang/AbstractStringBuilder", "append", "(C)Ljava/lang/AbstractStringBuilder;"⟩ : MethodName)) hown (tw hw 169 rfl) (own_same (tw hw 170 rfl) (tw hw 70 rfl) rfl (by decide)) (tw hw 170 rfl) (tw hw 79 rfl) (by decide) (backOf (W := 0) (rm_apc l Z a0 hw [] b v kv cd cs ch G1 G3 h0 n0 O0 O2 P5 O4 rG3 OA OH OL E_b Fv_b Fc_b Fn_b Fm_b V_v hcd g_b g_v hch hok hlt) hZ (tw hw 172 rfl) (tw hw 36 rfl) (by decide) (by decide)) e0 (Ins.self E_b) (g := (mkF m 2 #[.val (.ref b), .val (.int ch)] [(.int ch), (.ref b)])) rfl (by rw [hml]; rfl) (tw hw 172 rfl) (argsL := [(.int ch)]) (rest := []) (lenOf pd_21 rfl) rfl (by show 2 * 0 + _ ≤ _; exact Nat.le_of_eq rfl) (hb hby d67_14_2) (fun _ _ => ⟨rfl, e0, (by decide : 0 + 1 ≤ _), (by decide : 0 + 32 ≤ _)⟩)
  dsimp only [Pt.U, Pt.locs, Pt.cells, Pt.slots] at X194 l194 y194 z194 st194 hQ194
  subst l194 y194 z194
  refine own_gos st194 ?_
  obtain ⟨v194, kv194, cd194, rfl, Nq194, K194, hor194, Fv194, Fc194, Fn194, Fm194, Vv194, hcd194⟩ := hQ194
  have gv194 : n0 ≤ v194 := hor194.elim (fun q => q ▸ g_v) (fun q => Nat.le_trans (Nat.le_trans Z0 (Keep.refl h0 [b, v]).1) q)
  have N194 := Fr.app N0 Nq194
  refine og (fun _ k => XS.pop X194.here hx rfl (hb hby d67_14_5) rfl rfl k) ?_
  try dsimp only [mkF]
  refine og (fun _ k => XS.aloadN X194.here hx rfl (hb hby d67_14_6) rfl rfl k) ?_
  have f195 := ((Keep.refl h0 [b, v]).trans K194 (allS (Or.inl (List.mem_of_getElem? (i := 0) rfl)) (allS (Or.inl (List.mem_of_getElem? (i := 1) rfl)) all0)))
  refine own_fin (v := (some (.ref b))) X194 (fun h => by rw [hrt] at h; cases h) hlk (fun fs hr => retR X194 hx hrt (by rfl) rfl rfl (hb hby d67_14_7) hr) (QQ := QSB Z (some (.ref b)) b v (cs ++ [ch]) h0 n0) ?_ (by decide) (by decide)
  exact ⟨v194, _, _, rfl, N194, f195, hor194, Fv194, Fc194, Fn194, Fm194, Vv194, hcd194⟩

theorem own_lgd2 {cs : List Int32} {i : Nat} (h : i < cs.length) : (own_lat cs).getD i (.int (0 : Int32)) = .int (StrChars.lo8 (cs.getD i 0)) := by simp [own_lat, List.getD_eq_getElem?_getD, h]
theorem own_cdiA {cd : Int32} {cs ts : List Int32} (h : own_cdi cd cs) (q : ∀ c ∈ ts, ¬ (255 : Int32) < c) : own_cdi cd (cs ++ ts) := by
  rcases h with ⟨rfl, ha⟩ | ⟨rfl, hx⟩
  · exact own_cdi3 ha q
  · exact own_cdi2 hx
theorem own_wLen {Z : State} {a0 : Array Value} (hw : ∀ d ∈ tables_1, d.before a0 Z = true) : ∀ d ∈ StrChars.Road.wordsLen, d.before a0 Z = true := fun d hd => hw d ((by decide +kernel : ∀ d ∈ StrChars.Road.wordsLen, d ∈ tables_1) d hd)
abbrev k42_152 := jdk_42_method_152_code
theorem d42_152_0 : Dk k42_152 0 (.getstatic 38) 3 := own_k
theorem d42_152_3 : Dk k42_152 3 (.ifCond .eq 10) 3 := own_k
theorem d42_152_6 : Dk k42_152 6 (.aload_n 0) 1 := own_k
theorem d42_152_7 : Dk k42_152 7 (.getfield 15) 3 := own_k
theorem d42_152_10 : Dk k42_152 10 (.goto 4) 3 := own_k
theorem d42_152_14 : Dk k42_152 14 .ireturn 1 := own_k
theorem ef_rm_cod (m : MethodId) (x0 : Addr) : entryFrame m #[(.ref x0)] 1 = mkF m 0 #[.val (.ref x0)] [] := by
   first | (simp [entryFrame, mkF, argsToLocals, Value.category]; done) | rfl
set_option maxRecDepth 65536 in
set_option maxHeartbeats 40000000 in
theorem rm_cod (l : Launch) (Z : State) (a0 : Array Value) (hw : ∀ d ∈ tables_1, d.before a0 Z = true) (ws : List Jvm.Cond) (x : Addr) (G1 : Int32) (h0 : Heap) (n0 : Nat) (O0 : Old Z n0 h0) (E_x : Exa Z h0 x "java/lang/String") (Fc_x : Fld Z h0 x "java/lang/String" "coder" "B" (.int (0 : Int32))) (O2 : Sta Z Z.heap "java/lang/String" "COMPACT_STRINGS" "Z" (.int G1)) (P5 : ¬ (G1 = (0 : Int32))) :
    MetFree l (⟨"java/lang/String", "coder", "()B"⟩ : MethodName) (head1 (Jvm.Cond.code (⟨"java/lang/String", "coder", "()B"⟩ : MethodName) jdk_42_method_152_code 1 (some .byte) :: ws) ⟨0, 0, 0, 0⟩) (fun aA U => aA = #[(.ref x)] ∧ Z.Warmed39 U.vm ∧ U.heap = h0) (fun _ _ _ _ _ => True) (fun _ U oO U' => ∃ rV rL, oO = .returned rV ∧ QPure (some (.int (0 : Int32))) h0 n0 rV U'.heap rL ∧ FrameEnd U oO U' rL 0 0) := by
  refine MetFree.of_bodySF (plainFor_of_name pn_0) hisR ?_
  intro p e s m args below meth cC s₁ Bd hml0 hP hK
  obtain ⟨rfl, hZ, hh⟩ := hP
  have hx := Bd.exec
  have hby := Bd.bytes
  have hml : cC.maxLocals = 1 := hml0
  have hown : s.vm.findClass "java/lang/String" = some m.cls := findClass_of_methodNamed Bd.named
  have hnm := (name_of_methodNamed Bd.named Bd.method).1
  have hrt := Bd.returns
  have hlk : meth.locks = false := Bd.notSynchronized
  have X0 : Stand p l e ⟨0, 0, 0, 0⟩ s m #[(.ref x)] below meth cC s₁ [] 0 0 := Stand.of_body Bd
  have e0 : s₁.heap = h0 := by rw [← hh, Bd.state]; rfl
  have N0 := Fr.nil n0
  have Z0 : n0 ≤ h0.size := O0.1 ▸ O0.2.1
  show own_Go p e below (s₁.setTop (entryFrame m #[(.ref x)] 1)) (fun oO U' => ∃ rV rL, oO = .returned rV ∧ QPure (some (.int (0 : Int32))) h0 n0 rV U'.heap rL ∧ FrameEnd s oO U' rL 0 0)
  refine own_go (fun _ k => castTop (ef_rm_cod m x) k) ?_
  obtain ⟨T196, X196, e196, st196⟩ := getS2 X0 hx hZ hown (host := "") (Or.inl (tw hw 54 rfl)) Via.refl e0 (O2.ext O0.2) (g := (mkF m 0 #[.val (.ref x)] [])) rfl (hb hby d42_152_0)
  refine own_go st196 ?_
  refine og (fun _ k => XS.ifNo X196.here hx rfl (hb hby d42_152_3) rfl ((if0 _ _).trans (feq P5).1) k) ?_
  refine og (fun _ k => XS.aloadN X196.here hx rfl (hb hby d42_152_6) rfl rfl k) ?_
  obtain ⟨T197, X197, e197, st197⟩ := getF X196 hx hZ hown (host := "") (Or.inl (tw hw 21 rfl)) Via.refl e196 Fc_x (g := (mkF m 7 #[.val (.ref x)] [(.ref x)])) rfl rfl (hb hby d42_152_7)
  refine own_go st197 ?_
  try dsimp only [mkF]
  refine og (fun _ k => XS.goto X197.here hx rfl (pc0 := 10) (pc' := 14) rfl (hb hby d42_152_10) (by decide) (by decide) k) ?_
  refine own_fin (v := (some (.int (nar .byte (0 : Int32))))) X197 (fun h => by rw [hrt] at h; cases h) hlk (fun fs hr => retN X197 hx (t := .byte) hrt (by simp) (hb hby d42_152_14) hr) (QQ := QPure (some (.int (0 : Int32))) h0 n0) ?_ (by decide) (by decide)
  rw [e197]
  exact ⟨rfl, N0, rfl⟩

abbrev k68_71 := jdk_68_method_71_code
theorem d68_71_0 : Dk k68_71 0 (.getstatic 18) 3 := own_k
theorem d68_71_3 : Dk k68_71 3 (.ifCond .eq 18) 3 := own_k
theorem d68_71_6 : Dk k68_71 6 (.aload_n 0) 1 := own_k
theorem d68_71_7 : Dk k68_71 7 (.getfield 22) 3 := own_k
theorem d68_71_10 : Dk k68_71 10 (.aload_n 1) 1 := own_k
theorem d68_71_11 : Dk k68_71 11 (.invokevirtual 40) 3 := own_k
theorem pd_22 : parseMethodDescriptor "()B" = some ⟨[], some .byte⟩ := by decide +kernel
theorem d68_71_14 : Dk k68_71 14 (.if_icmp .eq 7) 3 := own_k
theorem d68_71_21 : Dk k68_71 21 .return_ 1 := own_k
theorem d68_71_17 : Dk k68_71 17 (.aload_n 0) 1 := own_k
theorem d68_71_18 : Dk k68_71 18 (.invokevirtual 195) 3 := own_k
theorem ef_rm_iin (m : MethodId) (x0 : Addr) (x1 : Addr) : entryFrame m #[(.ref x0), (.ref x1)] 2 = mkF m 0 #[.val (.ref x0), .val (.ref x1)] [] := by
   first | (simp [entryFrame, mkF, argsToLocals, Value.category]; done) | rfl
set_option maxRecDepth 65536 in
set_option maxHeartbeats 40000000 in
theorem rm_iin (l : Launch) (Z : State) (a0 : Array Value) (hw : ∀ d ∈ tables_1, d.before a0 Z = true) (ws : List Jvm.Cond) (b v : Addr) (kv : ClassId) (cd : Int32) (cs : List Int32) (x t : Addr) (kt : ClassId) (ts : List Int32) (G1 : Int32) (G3 : Value) (h0 : Heap) (n0 : Nat) (O0 : Old Z n0 h0) (O2 : Sta Z Z.heap "java/lang/String" "COMPACT_STRINGS" "Z" (.int G1)) (P5 : ¬ (G1 = (0 : Int32))) (O4 : Sta Z Z.heap "jdk/internal/util/Preconditions" "SIOOBE_FORMATTER" "Ljava/util/function/BiFunction;" G3) (rG3 : G3.isRef = true) (OA : Sta Z Z.heap "java/lang/StringUTF16" "$assertionsDisabled" "Z" (.int (1 : Int32))) (OH : Sta Z Z.heap "java/lang/StringUTF16" "HI_BYTE_SHIFT" "I" (.int (0 : Int32))) (OL : Sta Z Z.heap "java/lang/StringUTF16" "LO_BYTE_SHIFT" "I" (.int (8 : Int32))) (E_b : Exa Z h0 b "java/lang/StringBuilder") (Fv_b : Fld Z h0 b "java/lang/AbstractStringBuilder" "value" "[B" (.ref v)) (Fc_b : Fld Z h0 b "java/lang/AbstractStringBuilder" "coder" "B" (.int cd)) (Fn_b : Fld Z h0 b "java/lang/AbstractStringBuilder" "count" "I" (.int (Int32.ofNat cs.length))) (Fm_b : Fld Z h0 b "java/lang/AbstractStringBuilder" "maybeLatin1" "Z" (.int (0 : Int32))) (V_v : Arv Z h0 v kv .byte (own_sbN cd) (own_sbv cd cs) (.int (0 : Int32))) (hcd : own_cdi cd cs) (g_b : n0 ≤ b) (g_v : n0 ≤ v) (E_x : Exa Z h0 x "java/lang/String") (Fv_x : Fld Z h0 x "java/lang/String" "value" "[B" (.ref t)) (Fc_x : Fld Z h0 x "java/lang/String" "coder" "B" (.int (0 : Int32))) (V_t : Arv Z h0 t kt .byte (Int32.ofNat ts.length) (own_lat ts) (.int (0 : Int32))) (hts : ∀ c ∈ ts, ¬ (255 : Int32) < c) (hot : own_Ok ts) (hxb : x ≠ b) (htv : t ≠ v) :
    MetFree l (⟨"java/lang/AbstractStringBuilder", "inflateIfNeededFor", "(Ljava/lang/String;)V"⟩ : MethodName) (head1 (Jvm.Cond.code (⟨"java/lang/AbstractStringBuilder", "inflateIfNeededFor", "(Ljava/lang/String;)V"⟩ : MethodName) jdk_68_method_71_code 2 none :: ws) ⟨2, 0, 0, 25⟩) (fun aA U => aA = #[(.ref b), (.ref x)] ∧ Z.Warmed39 U.vm ∧ U.heap = h0) (fun _ _ _ _ _ => True) (fun _ U oO U' => ∃ rV rL, oO = .returned rV ∧ QPure (none) h0 n0 rV U'.heap rL ∧ FrameEnd U oO U' rL 0 0) := by
  refine MetFree.of_bodySF (plainFor_of_name pn_2) hisR ?_
  intro p e s m args below meth cC s₁ Bd hml0 hP hK
  obtain ⟨rfl, hZ, hh⟩ := hP
  have hx := Bd.exec
  have hby := Bd.bytes
  have hml : cC.maxLocals = 2 := hml0
  have hown : s.vm.findClass "java/lang/AbstractStringBuilder" = some m.cls := findClass_of_methodNamed Bd.named
  have hnm := (name_of_methodNamed Bd.named Bd.method).1
  have hrt := Bd.returns
  have hlk : meth.locks = false := Bd.notSynchronized
  have X0 : Stand p l e ⟨2, 0, 0, 25⟩ s m #[(.ref b), (.ref x)] below meth cC s₁ [] 0 0 := Stand.of_body Bd
  have e0 : s₁.heap = h0 := by rw [← hh, Bd.state]; rfl
  have N0 := Fr.nil n0
  have Z0 : n0 ≤ h0.size := O0.1 ▸ O0.2.1
  show own_Go p e below (s₁.setTop (entryFrame m #[(.ref b), (.ref x)] 2)) (fun oO U' => ∃ rV rL, oO = .returned rV ∧ QPure (none) h0 n0 rV U'.heap rL ∧ FrameEnd s oO U' rL 0 0)
  refine own_go (fun _ k => castTop (ef_rm_iin m b x) k) ?_
  have hbv := Exa.neArv E_b V_v (tw hw 27 rfl)
  have hxv := Exa.neArv E_x V_v (tw hw 1 rfl)
  have hbt := Exa.neArv E_b V_t (tw hw 27 rfl)
  rcases id hcd with ⟨cd0, hall⟩ | ⟨cd0, hex⟩
  · subst cd0
    obtain ⟨T198, X198, e198, st198⟩ := getS2 X0 hx hZ hown (host := "") (Or.inl (tw hw 39 rfl)) Via.refl e0 (O2.ext O0.2) (g := (mkF m 0 #[.val (.ref b), .val (.ref x)] [])) rfl (hb hby d68_71_0)
    refine own_go st198 ?_
    refine og (fun _ k => XS.ifNo X198.here hx rfl (hb hby d68_71_3) rfl ((if0 _ _).trans (feq P5).1) k) ?_
    try dsimp only [mkF]
    refine og (fun _ k => XS.aloadN X198.here hx rfl (hb hby d68_71_6) rfl rfl k) ?_
    obtain ⟨T199, X199, e199, st199⟩ := getF X198 hx hZ hown (host := "") (Or.inl (tw hw 42 rfl)) Via.refl e198 Fc_b (g := (mkF m 7 #[.val (.ref b), .val (.ref x)] [(.ref b)])) rfl rfl (hb hby d68_71_7)
    refine own_go st199 ?_
    refine og (fun _ k => XS.aloadN X199.here hx rfl (hb hby d68_71_10) rfl rfl k) ?_
    obtain ⟨cq200, kq200, q200a, q200b, q200c⟩ := isOf hZ e199 E_x
    obtain ⟨v200, _, ⟨T200, L200, k200, n200⟩, -, X200, ⟨Lc200, hQ200, l200, y200, z200⟩, st200⟩ := X199.virtualBack hx (y := (⟨"java/lang/String", "coder", "()B"⟩ : MethodName)) (z := (⟨"java/lang/String", "coder", "()B"⟩ : MethodName)) hown (mvT hZ (tw hw 280 rfl)) (mvT hZ (tw hw 50 rfl)) (notFace_of_selects (args := #[]) (mvT hZ (tw hw 52 rfl))) (mvT hZ (tw hw 52 rfl)) (mvT hZ (tw hw 51 rfl)) (by decide) (backOf (W := 1) (rm_cod l Z a0 hw [] x G1 h0 n0 O0 E_x Fc_x O2 P5) hZ (tw hw 53 rfl) (tw hw 2 rfl) (by decide) (by decide)) q200a q200c (g := (mkF m 11 #[.val (.ref b), .val (.ref x)] [(.ref x), (.int (0 : Int32))])) rfl (by rw [hml]; rfl) (Steps.refl _) (argsL := []) (rest := [(.int (0 : Int32))]) (lenOf pd_22 rfl) rfl (by show 2 * 0 + _ ≤ _; exact Nat.le_of_eq rfl) (hb hby d68_71_11) (fun _ _ => ⟨rfl, e199, (by decide : 0 + 0 ≤ _), (by decide : 0 + 0 ≤ _)⟩)
    dsimp only [Pt.U, Pt.locs, Pt.cells, Pt.slots] at X200 l200 y200 z200 st200 hQ200
    subst l200 y200 z200
    refine own_gos st200 ?_
    obtain ⟨rfl, Nq200, e200⟩ := hQ200
    have N200 := Fr.app N0 Nq200
    refine og (fun _ k => XS.icmpYes X200.here hx rfl (pc0 := 14) (pc' := 21) rfl (hb hby d68_71_14) rfl (teq (by decide : (0 : Int32) = (0 : Int32))).1 (by decide) (by decide) k) ?_
    try dsimp only [mkF]
    refine own_fin (v := none) X200 (fun _ => rfl) hlk (fun fs hr => X200.returnOut hx hrt (hb hby d68_71_21) hr) (QQ := QPure (none) h0 n0) ?_ (by decide) (by decide)
    rw [e200]
    exact ⟨rfl, N200, rfl⟩
  · subst cd0
    obtain ⟨T201, X201, e201, st201⟩ := getS2 X0 hx hZ hown (host := "") (Or.inl (tw hw 39 rfl)) Via.refl e0 (O2.ext O0.2) (g := (mkF m 0 #[.val (.ref b), .val (.ref x)] [])) rfl (hb hby d68_71_0)
    refine own_go st201 ?_
    refine og (fun _ k => XS.ifNo X201.here hx rfl (hb hby d68_71_3) rfl ((if0 _ _).trans (feq P5).1) k) ?_
    try dsimp only [mkF]
    refine og (fun _ k => XS.aloadN X201.here hx rfl (hb hby d68_71_6) rfl rfl k) ?_
    obtain ⟨T202, X202, e202, st202⟩ := getF X201 hx hZ hown (host := "") (Or.inl (tw hw 42 rfl)) Via.refl e201 Fc_b (g := (mkF m 7 #[.val (.ref b), .val (.ref x)] [(.ref b)])) rfl rfl (hb hby d68_71_7)
    refine own_go st202 ?_
    refine og (fun _ k => XS.aloadN X202.here hx rfl (hb hby d68_71_10) rfl rfl k) ?_
    obtain ⟨cq203, kq203, q203a, q203b, q203c⟩ := isOf hZ e202 E_x
    obtain ⟨v203, _, ⟨T203, L203, k203, n203⟩, -, X203, ⟨Lc203, hQ203, l203, y203, z203⟩, st203⟩ := X202.virtualBack hx (y := (⟨"java/lang/String", "coder", "()B"⟩ : MethodName)) (z := (⟨"java/lang/String", "coder", "()B"⟩ : MethodName)) hown (mvT hZ (tw hw 280 rfl)) (mvT hZ (tw hw 50 rfl)) (notFace_of_selects (args := #[]) (mvT hZ (tw hw 52 rfl))) (mvT hZ (tw hw 52 rfl)) (mvT hZ (tw hw 51 rfl)) (by decide) (backOf (W := 1) (rm_cod l Z a0 hw [] x G1 h0 n0 O0 E_x Fc_x O2 P5) hZ (tw hw 53 rfl) (tw hw 2 rfl) (by decide) (by decide)) q203a q203c (g := (mkF m 11 #[.val (.ref b), .val (.ref x)] [(.ref x), (.int (1 : Int32))])) rfl (by rw [hml]; rfl) (Steps.refl _) (argsL := []) (rest := [(.int (1 : Int32))]) (lenOf pd_22 rfl) rfl (by show 2 * 0 + _ ≤ _; exact Nat.le_of_eq rfl) (hb hby d68_71_11) (fun _ _ => ⟨rfl, e202, (by decide : 0 + 0 ≤ _), (by decide : 0 + 0 ≤ _)⟩)
    dsimp only [Pt.U, Pt.locs, Pt.cells, Pt.slots] at X203 l203 y203 z203 st203 hQ203
    subst l203 y203 z203
    refine own_gos st203 ?_
    obtain ⟨rfl, Nq203, e203⟩ := hQ203
    have N203 := Fr.app N0 Nq203
    refine og (fun _ k => XS.icmpNo X203.here hx rfl (hb hby d68_71_14) rfl (feq (by decide : ¬ ((1 : Int32) = (0 : Int32)))).1 k) ?_
    try dsimp only [mkF]
    refine og (fun _ k => XS.aloadN X203.here hx rfl (hb hby d68_71_17) rfl rfl k) ?_
    obtain ⟨cq204, q204, q204'⟩ := E_b.cell
    obtain ⟨v204, _, ⟨T204, L204, k204, n204⟩, -, X204, ⟨Lc204, hQ204, l204, y204, z204⟩, st204⟩ := X203.privateBack hx (y := (⟨"java/lang/AbstractStringBuilder", "inflate", "()V"⟩ : MethodName)) hown (mvT hZ (tw hw 233 rfl)) (mvT hZ (tw hw 234 rfl)) (own_selQ hZ (tw hw 236 rfl) (tw hw 235 rfl) (tw hw 234 rfl) (by decide)) (Cond.privateMethod_at (mvP hZ (tw hw 235 rfl) (args := #[]))) (mvT hZ (tw hw 237 rfl)) (by decide) (backOf (W := 0) (rm_ai1 l Z a0 hw [] b G1 h0 n0 O0 E_b Fc_b O2 P5) hZ (tw hw 237 rfl) (tw hw 36 rfl) (by decide) (by decide)) (g := (mkF m 18 #[.val (.ref b), .val (.ref x)] [(.ref b)])) rfl (by rw [hml]; rfl) (Steps.refl _) (a := b) (by rw [e203]; exact q204) q204' (argsL := []) (rest := []) (lenOf pd_20 rfl) rfl (by show 2 * 0 + _ ≤ _; exact Nat.le_of_eq rfl) (hb hby d68_71_18) (fun _ _ => ⟨rfl, e203, (by decide : 0 + 0 ≤ _), (by decide : 0 + 0 ≤ _)⟩)
    dsimp only [Pt.U, Pt.locs, Pt.cells, Pt.slots] at X204 l204 y204 z204 st204 hQ204
    subst l204 y204 z204
    refine own_gos st204 ?_
    obtain ⟨rfl, Nq204, e204⟩ := hQ204
    have N204 := Fr.app N203 Nq204
    refine own_fin (v := none) X204 (fun _ => rfl) hlk (fun fs hr => X204.returnOut hx hrt (hb hby d68_71_21) hr) (QQ := QPure (none) h0 n0) ?_ (by decide) (by decide)
    rw [e204]
    exact ⟨rfl, N204, rfl⟩

abbrev k42_147 := jdk_42_method_147_code
theorem d42_147_0 : Dk k42_147 0 (.aload_n 0) 1 := own_k
theorem d42_147_1 : Dk k42_147 1 (.invokevirtual 335) 3 := own_k
theorem d42_147_4 : Dk k42_147 4 (.iload_n 3) 1 := own_k
theorem d42_147_5 : Dk k42_147 5 (.if_icmp .ne 23) 3 := own_k
theorem d42_147_8 : Dk k42_147 8 (.aload_n 0) 1 := own_k
theorem d42_147_9 : Dk k42_147 9 (.getfield 9) 3 := own_k
theorem d42_147_12 : Dk k42_147 12 (.iconst 0) 1 := own_k
theorem d42_147_13 : Dk k42_147 13 (.aload_n 1) 1 := own_k
theorem d42_147_14 : Dk k42_147 14 (.iload_n 2) 1 := own_k
theorem d42_147_15 : Dk k42_147 15 (.iload_n 3) 1 := own_k
theorem d42_147_16 : Dk k42_147 16 .ishl 1 := own_k
theorem d42_147_17 : Dk k42_147 17 (.aload_n 0) 1 := own_k
theorem d42_147_18 : Dk k42_147 18 (.getfield 9) 3 := own_k
theorem d42_147_21 : Dk k42_147 21 .arraylength 1 := own_k
theorem d42_147_22 : Dk k42_147 22 (.invokestatic 212) 3 := own_k
theorem d42_147_25 : Dk k42_147 25 (.goto 18) 3 := own_k
theorem d42_147_43 : Dk k42_147 43 .return_ 1 := own_k
theorem ef_rm_gb0 (m : MethodId) (x0 : Addr) (x1 : Addr) (x2 : Int32) (x3 : Int32) : entryFrame m #[(.ref x0), (.ref x1), (.int x2), (.int x3)] 4 = mkF m 0 #[.val (.ref x0), .val (.ref x1), .val (.int x2), .val (.int x3)] [] := by
   first | (simp [entryFrame, mkF, argsToLocals, Value.category]; done) | rfl
set_option maxRecDepth 65536 in
set_option maxHeartbeats 40000000 in
theorem rm_gb0 (l : Launch) (Z : State) (a0 : Array Value) (hw : ∀ d ∈ tables_1, d.before a0 Z = true) (ws : List Jvm.Cond) (x t : Addr) (kt : ClassId) (ts : List Int32) (v : Addr) (kv : ClassId) (cs : List Int32) (G1 : Int32) (G3 : Value) (h0 : Heap) (n0 : Nat) (O0 : Old Z n0 h0) (O2 : Sta Z Z.heap "java/lang/String" "COMPACT_STRINGS" "Z" (.int G1)) (P5 : ¬ (G1 = (0 : Int32))) (O4 : Sta Z Z.heap "jdk/internal/util/Preconditions" "SIOOBE_FORMATTER" "Ljava/util/function/BiFunction;" G3) (rG3 : G3.isRef = true) (OA : Sta Z Z.heap "java/lang/StringUTF16" "$assertionsDisabled" "Z" (.int (1 : Int32))) (OH : Sta Z Z.heap "java/lang/StringUTF16" "HI_BYTE_SHIFT" "I" (.int (0 : Int32))) (OL : Sta Z Z.heap "java/lang/StringUTF16" "LO_BYTE_SHIFT" "I" (.int (8 : Int32))) (E_x : Exa Z h0 x "java/lang/String") (Fv_x : Fld Z h0 x "java/lang/String" "value" "[B" (.ref t)) (Fc_x : Fld Z h0 x "java/lang/String" "coder" "B" (.int (0 : Int32))) (V_t : Arv Z h0 t kt .byte (Int32.ofNat ts.length) (own_lat ts) (.int (0 : Int32))) (hts : ∀ c ∈ ts, ¬ (255 : Int32) < c) (hot : own_Ok ts) (V_v : Arv Z h0 v kv .byte (16 : Int32) (own_sb0 cs) (.int (0 : Int32))) (g_v : n0 ≤ v) (htv : t ≠ v) (hle : cs.length + ts.length ≤ 16) :
    MetFree l (⟨"java/lang/String", "getBytes", "([BIB)V"⟩ : MethodName) (head1 (Jvm.Cond.code (⟨"java/lang/String", "getBytes", "([BIB)V"⟩ : MethodName) jdk_42_method_147_code 4 none :: ws) ⟨1, 0, 0, 18⟩) (fun aA U => aA = #[(.ref x), (.ref v), (.int (Int32.ofNat cs.length)), (.int (0 : Int32))] ∧ Z.Warmed39 U.vm ∧ U.heap = h0) (fun _ _ _ _ _ => True) (fun _ U oO U' => ∃ rV rL, oO = .returned rV ∧ QInf Z v kv (16 : Int32) (own_sb0 (cs ++ ts)) h0 n0 rV U'.heap rL ∧ FrameEnd U oO U' rL 0 0) := by
  refine MetFree.of_bodySF (plainFor_of_name pn_0) hisR ?_
  intro p e s m args below meth cC s₁ Bd hml0 hP hK
  obtain ⟨rfl, hZ, hh⟩ := hP
  have hx := Bd.exec
  have hby := Bd.bytes
  have hml : cC.maxLocals = 4 := hml0
  have hown : s.vm.findClass "java/lang/String" = some m.cls := findClass_of_methodNamed Bd.named
  have hnm := (name_of_methodNamed Bd.named Bd.method).1
  have hrt := Bd.returns
  have hlk : meth.locks = false := Bd.notSynchronized
  have X0 : Stand p l e ⟨1, 0, 0, 18⟩ s m #[(.ref x), (.ref v), (.int (Int32.ofNat cs.length)), (.int (0 : Int32))] below meth cC s₁ [] 0 0 := Stand.of_body Bd
  have e0 : s₁.heap = h0 := by rw [← hh, Bd.state]; rfl
  have N0 := Fr.nil n0
  have Z0 : n0 ≤ h0.size := O0.1 ▸ O0.2.1
  show own_Go p e below (s₁.setTop (entryFrame m #[(.ref x), (.ref v), (.int (Int32.ofNat cs.length)), (.int (0 : Int32))] 4)) (fun oO U' => ∃ rV rL, oO = .returned rV ∧ QInf Z v kv (16 : Int32) (own_sb0 (cs ++ ts)) h0 n0 rV U'.heap rL ∧ FrameEnd s oO U' rL 0 0)
  refine own_go (fun _ k => castTop (ef_rm_gb0 m x v _ _) k) ?_
  have hlt4 : ts.length ≤ 4000 := hot.2
  have hxv := Exa.neArv E_x V_v (tw hw 1 rfl)
  refine og (fun _ k => XS.aloadN X0.here hx rfl (hb hby d42_147_0) rfl rfl k) ?_
  obtain ⟨cq205, kq205, q205a, q205b, q205c⟩ := isOf hZ e0 E_x
  obtain ⟨v205, _, ⟨T205, L205, k205, n205⟩, -, X205, ⟨Lc205, hQ205, l205, y205, z205⟩, st205⟩ := X0.virtualBack hx (y := (⟨"java/lang/String", "coder", "()B"⟩ : MethodName)) (z := (⟨"java/lang/String", "coder", "()B"⟩ : MethodName)) hown (mvT hZ (tw hw 49 rfl)) (mvT hZ (tw hw 50 rfl)) (notFace_of_selects (args := #[]) (mvT hZ (tw hw 52 rfl))) (mvT hZ (tw hw 52 rfl)) (mvT hZ (tw hw 51 rfl)) (by decide) (backOf (W := 0) (rm_cod l Z a0 hw [] x G1 h0 n0 O0 E_x Fc_x O2 P5) hZ (tw hw 53 rfl) (tw hw 2 rfl) (by decide) (by decide)) q205a q205c (g := (mkF m 1 #[.val (.ref x), .val (.ref v), .val (.int (Int32.ofNat cs.length)), .val (.int (0 : Int32))] [(.ref x)])) rfl (by rw [hml]; rfl) (Steps.refl _) (argsL := []) (rest := []) (lenOf pd_22 rfl) rfl (by show 2 * 0 + _ ≤ _; exact Nat.le_of_eq rfl) (hb hby d42_147_1) (fun _ _ => ⟨rfl, e0, (by decide : 0 + 0 ≤ _), (by decide : 0 + 0 ≤ _)⟩)
  dsimp only [Pt.U, Pt.locs, Pt.cells, Pt.slots] at X205 l205 y205 z205 st205 hQ205
  subst l205 y205 z205
  refine own_gos st205 ?_
  obtain ⟨rfl, Nq205, e205⟩ := hQ205
  have N205 := Fr.app N0 Nq205
  refine og (fun _ k => XS.iloadN X205.here hx rfl (hb hby d42_147_4) rfl k) ?_
  refine og (fun _ k => XS.icmpNo X205.here hx rfl (hb hby d42_147_5) rfl (teq (by decide : (0 : Int32) = (0 : Int32))).2 k) ?_
  try dsimp only [mkF]
  refine og (fun _ k => XS.aloadN X205.here hx rfl (hb hby d42_147_8) rfl rfl k) ?_
  obtain ⟨T206, X206, e206, st206⟩ := getF X205 hx hZ hown (host := "") (Or.inl (tw hw 20 rfl)) Via.refl e205 Fv_x (g := (mkF m 9 #[.val (.ref x), .val (.ref v), .val (.int (Int32.ofNat cs.length)), .val (.int (0 : Int32))] [(.ref x)])) rfl rfl (hb hby d42_147_9)
  refine own_go st206 ?_
  refine og (fun _ k => XS.iconst X206.here hx rfl (hb hby d42_147_12) k) ?_
  refine og (fun _ k => XS.aloadN X206.here hx rfl (hb hby d42_147_13) rfl rfl k) ?_
  refine og (fun _ k => XS.iloadN X206.here hx rfl (hb hby d42_147_14) rfl k) ?_
  try dsimp only [mkF]
  refine og (fun _ k => XS.iloadN X206.here hx rfl (hb hby d42_147_15) rfl k) ?_
  refine og (fun _ k => XS.ishl X206.here hx rfl (hb hby d42_147_16) rfl k) ?_
  show own_Go p e below (T206.setTop (mkF m 17 #[.val (.ref x), .val (.ref v), .val (.int (Int32.ofNat cs.length)), .val (.int (0 : Int32))] [(.int ((Int32.ofNat cs.length) <<< ((0 : Int32) &&& 31))), (.ref v), (.int (0 : Int32)), (.ref t)])) _
  rw [own_shl0]
  refine og (fun _ k => XS.aloadN X206.here hx rfl (hb hby d42_147_17) rfl rfl k) ?_
  obtain ⟨T207, X207, e207, st207⟩ := getF X206 hx hZ hown (host := "") (Or.inl (tw hw 20 rfl)) Via.refl e206 Fv_x (g := (mkF m 18 #[.val (.ref x), .val (.ref v), .val (.int (Int32.ofNat cs.length)), .val (.int (0 : Int32))] [(.ref x), (.int (Int32.ofNat cs.length)), (.ref v), (.int (0 : Int32)), (.ref t)])) rfl rfl (hb hby d42_147_18)
  refine own_go st207 ?_
  try dsimp only [mkF]
  obtain ⟨c208, A208, q208, S208, M208, Hs208, Gs208⟩ := id V_t
  refine og (fun _ k => X207.arraylength hx (by rw [e207]; exact A208.1) (State.isArrayOf_alike hZ.alike A208.2.1) (g := (mkF m 21 #[.val (.ref x), .val (.ref v), .val (.int (Int32.ofNat cs.length)), .val (.int (0 : Int32))] [(.ref t), (.int (Int32.ofNat cs.length)), (.ref v), (.int (0 : Int32)), (.ref t)])) rfl rfl (hb hby d42_147_21) _ k) ?_
  rw [len_of S208 M208]
  have ci209 := own_tn (i := 0) (by omega)
  have cj209 := own_tn (i := cs.length) (by omega)
  have cm209 := own_tn (i := ts.length) (by omega)
  have ca209 := own_tn (i := ts.length) (by omega)
  have cb209 := own_tn (i := 16) (by omega)
  have cl209 : ((own_sb0 cs) : List Value).length = 16 := (own_sb0l (by omega))
  obtain ⟨T209, h209, Lc209, X209, e209, N209, K209, Vc209, st209⟩ := cpA (sp := Int32.ofNat 0) (dp := Int32.ofNat cs.length) (nn := Int32.ofNat ts.length) X207 hx hZ hown (tw hw 286 rfl) (tw hw 105 rfl) (tw hw 103 rfl) (tw hw 104 rfl) e207 (z := Int32.ofNat ts.length) (z' := Int32.ofNat 16) V_t V_v (Or.inl ⟨rfl, rfl⟩) (own_nn0 (by omega)) (own_nn0 (by omega)) (own_nn0 (by omega)) (by omega) (by omega) (us := (own_lat ts)) (by rw [cm209, ci209]; exact (own_latr ts)) (by omega) N205 g_v (g := (mkF m 22 #[.val (.ref x), .val (.ref v), .val (.int (Int32.ofNat cs.length)), .val (.int (0 : Int32))] [(.int (Int32.ofNat ts.length)), (.int (Int32.ofNat cs.length)), (.ref v), (.int (0 : Int32)), (.ref t)])) rfl (by rw [hml]; rfl) rfl (hb hby d42_147_22) (by decide) (W := 0) (by show 2 * 0 + _ ≤ _; exact Nat.le_of_eq rfl) (by decide)
  refine own_go st209 ?_
  have Vt209 : Arv Z h209 v kv .byte (16 : Int32) (own_sb0 (cs ++ ts)) (.int (0 : Int32)) := by simp only [cj209, cm209] at Vc209; exact (own_ap0A hle) ▸ Vc209
  refine og (fun _ k => XS.goto X209.here hx rfl (pc0 := 25) (pc' := 43) rfl (hb hby d42_147_25) (by decide) (by decide) k) ?_
  have f210 := ((Keep.refl h0 [v]).trans K209 (allS (Or.inl (List.mem_of_getElem? (i := 0) rfl)) all0))
  refine own_fin (v := none) X209 (fun _ => rfl) hlk (fun fs hr => X209.returnOut hx hrt (hb hby d42_147_43) hr) (QQ := QInf Z v kv (16 : Int32) (own_sb0 (cs ++ ts)) h0 n0) ?_ (by decide) (by decide)
  rw [e209]
  exact ⟨rfl, N209, f210, Vt209⟩

theorem d42_147_28 : Dk k42_147 28 (.aload_n 0) 1 := own_k
theorem d42_147_29 : Dk k42_147 29 (.getfield 9) 3 := own_k
theorem d42_147_32 : Dk k42_147 32 (.iconst 0) 1 := own_k
theorem d42_147_33 : Dk k42_147 33 (.aload_n 1) 1 := own_k
theorem d42_147_34 : Dk k42_147 34 (.iload_n 2) 1 := own_k
theorem d42_147_35 : Dk k42_147 35 (.aload_n 0) 1 := own_k
theorem d42_147_36 : Dk k42_147 36 (.getfield 9) 3 := own_k
theorem d42_147_39 : Dk k42_147 39 .arraylength 1 := own_k
theorem d42_147_40 : Dk k42_147 40 (.invokestatic 106) 3 := own_k
theorem ef_rm_gb1 (m : MethodId) (x0 : Addr) (x1 : Addr) (x2 : Int32) (x3 : Int32) : entryFrame m #[(.ref x0), (.ref x1), (.int x2), (.int x3)] 4 = mkF m 0 #[.val (.ref x0), .val (.ref x1), .val (.int x2), .val (.int x3)] [] := by
   first | (simp [entryFrame, mkF, argsToLocals, Value.category]; done) | rfl
set_option maxRecDepth 65536 in
set_option maxHeartbeats 40000000 in
theorem rm_gb1 (l : Launch) (Z : State) (a0 : Array Value) (hw : ∀ d ∈ tables_1, d.before a0 Z = true) (ws : List Jvm.Cond) (x t : Addr) (kt : ClassId) (ts : List Int32) (v : Addr) (kv : ClassId) (cs : List Int32) (G1 : Int32) (G3 : Value) (h0 : Heap) (n0 : Nat) (O0 : Old Z n0 h0) (O2 : Sta Z Z.heap "java/lang/String" "COMPACT_STRINGS" "Z" (.int G1)) (P5 : ¬ (G1 = (0 : Int32))) (O4 : Sta Z Z.heap "jdk/internal/util/Preconditions" "SIOOBE_FORMATTER" "Ljava/util/function/BiFunction;" G3) (rG3 : G3.isRef = true) (OA : Sta Z Z.heap "java/lang/StringUTF16" "$assertionsDisabled" "Z" (.int (1 : Int32))) (OH : Sta Z Z.heap "java/lang/StringUTF16" "HI_BYTE_SHIFT" "I" (.int (0 : Int32))) (OL : Sta Z Z.heap "java/lang/StringUTF16" "LO_BYTE_SHIFT" "I" (.int (8 : Int32))) (E_x : Exa Z h0 x "java/lang/String") (Fv_x : Fld Z h0 x "java/lang/String" "value" "[B" (.ref t)) (Fc_x : Fld Z h0 x "java/lang/String" "coder" "B" (.int (0 : Int32))) (V_t : Arv Z h0 t kt .byte (Int32.ofNat ts.length) (own_lat ts) (.int (0 : Int32))) (hts : ∀ c ∈ ts, ¬ (255 : Int32) < c) (hot : own_Ok ts) (V_v : Arv Z h0 v kv .byte (32 : Int32) (own_sb1 cs) (.int (0 : Int32))) (g_v : n0 ≤ v) (htv : t ≠ v) (hle : cs.length + ts.length ≤ 16) :
    MetFree l (⟨"java/lang/String", "getBytes", "([BIB)V"⟩ : MethodName) (head1 (Jvm.Cond.code (⟨"java/lang/String", "getBytes", "([BIB)V"⟩ : MethodName) jdk_42_method_147_code 4 none :: ws) ⟨5, 0, 0, 76⟩) (fun aA U => aA = #[(.ref x), (.ref v), (.int (Int32.ofNat cs.length)), (.int (1 : Int32))] ∧ Z.Warmed39 U.vm ∧ U.heap = h0) (fun _ _ _ _ _ => True) (fun _ U oO U' => ∃ rV rL, oO = .returned rV ∧ QInf Z v kv (32 : Int32) (own_sb1 (cs ++ ts)) h0 n0 rV U'.heap rL ∧ FrameEnd U oO U' rL 0 0) := by
  refine MetFree.of_bodySF (plainFor_of_name pn_0) hisR ?_
  intro p e s m args below meth cC s₁ Bd hml0 hP hK
  obtain ⟨rfl, hZ, hh⟩ := hP
  have hx := Bd.exec
  have hby := Bd.bytes
  have hml : cC.maxLocals = 4 := hml0
  have hown : s.vm.findClass "java/lang/String" = some m.cls := findClass_of_methodNamed Bd.named
  have hnm := (name_of_methodNamed Bd.named Bd.method).1
  have hrt := Bd.returns
  have hlk : meth.locks = false := Bd.notSynchronized
  have X0 : Stand p l e ⟨5, 0, 0, 76⟩ s m #[(.ref x), (.ref v), (.int (Int32.ofNat cs.length)), (.int (1 : Int32))] below meth cC s₁ [] 0 0 := Stand.of_body Bd
  have e0 : s₁.heap = h0 := by rw [← hh, Bd.state]; rfl
  have N0 := Fr.nil n0
  have Z0 : n0 ≤ h0.size := O0.1 ▸ O0.2.1
  show own_Go p e below (s₁.setTop (entryFrame m #[(.ref x), (.ref v), (.int (Int32.ofNat cs.length)), (.int (1 : Int32))] 4)) (fun oO U' => ∃ rV rL, oO = .returned rV ∧ QInf Z v kv (32 : Int32) (own_sb1 (cs ++ ts)) h0 n0 rV U'.heap rL ∧ FrameEnd s oO U' rL 0 0)
  refine own_go (fun _ k => castTop (ef_rm_gb1 m x v _ _) k) ?_
  have hlt4 : ts.length ≤ 4000 := hot.2
  have hxv := Exa.neArv E_x V_v (tw hw 1 rfl)
  refine og (fun _ k => XS.aloadN X0.here hx rfl (hb hby d42_147_0) rfl rfl k) ?_
  obtain ⟨cq211, kq211, q211a, q211b, q211c⟩ := isOf hZ e0 E_x
  obtain ⟨v211, _, ⟨T211, L211, k211, n211⟩, -, X211, ⟨Lc211, hQ211, l211, y211, z211⟩, st211⟩ := X0.virtualBack hx (y := (⟨"java/lang/String", "coder", "()B"⟩ : MethodName)) (z := (⟨"java/lang/String", "coder", "()B"⟩ : MethodName)) hown (mvT hZ (tw hw 49 rfl)) (mvT hZ (tw hw 50 rfl)) (notFace_of_selects (args := #[]) (mvT hZ (tw hw 52 rfl))) (mvT hZ (tw hw 52 rfl)) (mvT hZ (tw hw 51 rfl)) (by decide) (backOf (W := 0) (rm_cod l Z a0 hw [] x G1 h0 n0 O0 E_x Fc_x O2 P5) hZ (tw hw 53 rfl) (tw hw 2 rfl) (by decide) (by decide)) q211a q211c (g := (mkF m 1 #[.val (.ref x), .val (.ref v), .val (.int (Int32.ofNat cs.length)), .val (.int (1 : Int32))] [(.ref x)])) rfl (by rw [hml]; rfl) (Steps.refl _) (argsL := []) (rest := []) (lenOf pd_22 rfl) rfl (by show 2 * 0 + _ ≤ _; exact Nat.le_of_eq rfl) (hb hby d42_147_1) (fun _ _ => ⟨rfl, e0, (by decide : 0 + 0 ≤ _), (by decide : 0 + 0 ≤ _)⟩)
  dsimp only [Pt.U, Pt.locs, Pt.cells, Pt.slots] at X211 l211 y211 z211 st211 hQ211
  subst l211 y211 z211
  refine own_gos st211 ?_
  obtain ⟨rfl, Nq211, e211⟩ := hQ211
  have N211 := Fr.app N0 Nq211
  refine og (fun _ k => XS.iloadN X211.here hx rfl (hb hby d42_147_4) rfl k) ?_
  refine og (fun _ k => XS.icmpYes X211.here hx rfl (pc0 := 5) (pc' := 28) rfl (hb hby d42_147_5) rfl (feq (by decide : ¬ ((0 : Int32) = (1 : Int32)))).2 (by decide) (by decide) k) ?_
  try dsimp only [mkF]
  refine og (fun _ k => XS.aloadN X211.here hx rfl (hb hby d42_147_28) rfl rfl k) ?_
  obtain ⟨T212, X212, e212, st212⟩ := getF X211 hx hZ hown (host := "") (Or.inl (tw hw 20 rfl)) Via.refl e211 Fv_x (g := (mkF m 29 #[.val (.ref x), .val (.ref v), .val (.int (Int32.ofNat cs.length)), .val (.int (1 : Int32))] [(.ref x)])) rfl rfl (hb hby d42_147_29)
  refine own_go st212 ?_
  refine og (fun _ k => XS.iconst X212.here hx rfl (hb hby d42_147_32) k) ?_
  refine og (fun _ k => XS.aloadN X212.here hx rfl (hb hby d42_147_33) rfl rfl k) ?_
  refine og (fun _ k => XS.iloadN X212.here hx rfl (hb hby d42_147_34) rfl k) ?_
  try dsimp only [mkF]
  refine og (fun _ k => XS.aloadN X212.here hx rfl (hb hby d42_147_35) rfl rfl k) ?_
  obtain ⟨T213, X213, e213, st213⟩ := getF X212 hx hZ hown (host := "") (Or.inl (tw hw 20 rfl)) Via.refl e212 Fv_x (g := (mkF m 36 #[.val (.ref x), .val (.ref v), .val (.int (Int32.ofNat cs.length)), .val (.int (1 : Int32))] [(.ref x), (.int (Int32.ofNat cs.length)), (.ref v), (.int (0 : Int32)), (.ref t)])) rfl rfl (hb hby d42_147_36)
  refine own_go st213 ?_
  obtain ⟨c214, A214, q214, S214, M214, Hs214, Gs214⟩ := id V_t
  refine og (fun _ k => X213.arraylength hx (by rw [e213]; exact A214.1) (State.isArrayOf_alike hZ.alike A214.2.1) (g := (mkF m 39 #[.val (.ref x), .val (.ref v), .val (.int (Int32.ofNat cs.length)), .val (.int (1 : Int32))] [(.ref t), (.int (Int32.ofNat cs.length)), (.ref v), (.int (0 : Int32)), (.ref t)])) rfl rfl (hb hby d42_147_39) _ k) ?_
  rw [len_of S214 M214]
  obtain ⟨v215, _, ⟨T215, L215, k215, n215⟩, -, X215, ⟨Lc215, hQ215, l215, y215, z215⟩, st215⟩ := Jvm.LawKit.callS X213 hx (y := (⟨"java/lang/StringLatin1", "inflate", "([BI[BII)V"⟩ : MethodName)) hown (mvT hZ (tw hw 290 rfl)) (mvT hZ (tw hw 240 rfl)) (mvT hZ (tw hw 129 rfl)) (mvT hZ (tw hw 241 rfl)) (by decide) (backOf (W := 0) (rm_linf l Z a0 hw [] t kt ts.length (own_lat ts) v kv 16 cs ts G3 h0 n0 O0 O4 rG3 OA OH OL V_t (show Arv Z _ v kv .byte (Int32.ofNat (2 * 16)) (own_wx (2 * 16) cs ts 0) (.int (0 : Int32)) from (own_wx0 (2 * 16) cs ts).symm ▸ V_v) hot hts (fun i hi => own_lgd2 hi) (Nat.le_refl _) hot.2 hle (by decide) g_v htv) hZ (tw hw 241 rfl) (tw hw 129 rfl) (by decide) (by decide)) (g := (mkF m 40 #[.val (.ref x), .val (.ref v), .val (.int (Int32.ofNat cs.length)), .val (.int (1 : Int32))] [(.int (Int32.ofNat ts.length)), (.int (Int32.ofNat cs.length)), (.ref v), (.int (0 : Int32)), (.ref t)])) rfl (by rw [hml]; rfl) (argsL := [(.ref t), (.int (0 : Int32)), (.ref v), (.int (Int32.ofNat cs.length)), (.int (Int32.ofNat ts.length))]) (rest := []) (lenOf pd_16 rfl) rfl (by show 2 * 0 + _ ≤ _; exact Nat.le_of_eq rfl) (hb hby d42_147_40) (fun _ _ => ⟨rfl, e213, (by decide : 0 + 0 ≤ _), (by decide : 0 + 0 ≤ _)⟩)
  dsimp only [Pt.U, Pt.locs, Pt.cells, Pt.slots] at X215 l215 y215 z215 st215 hQ215
  subst l215 y215 z215
  refine own_go st215 ?_
  obtain ⟨rfl, Nq215, K215, Vd215⟩ := hQ215
  have N215 := Fr.app N211 Nq215
  have f216 := ((Keep.refl h0 [v]).trans K215 (allS (Or.inl (List.mem_of_getElem? (i := 0) rfl)) all0))
  refine own_fin (v := none) X215 (fun _ => rfl) hlk (fun fs hr => X215.returnOut hx hrt (hb hby d42_147_43) hr) (QQ := QInf Z v kv (32 : Int32) (own_sb1 (cs ++ ts)) h0 n0) ?_ (by decide) (by decide)
  exact ⟨rfl, N215, f216, by have q := Vd215; rw [own_wxn] at q; exact q⟩

def QPut2 (Z : State) (v : Addr) (kv : ClassId) (cd : Int32) (cs : List Int32) (h0 : Heap) (n0 : Nat) (r : Option Value) (h : Heap) (L : List Loc) : Prop := r = none ∧ Fr n0 L ∧ Keep h0 h [v] ∧ Arv Z h v kv .byte (own_sbN cd) (own_sbv cd cs) (.int (0 : Int32))
abbrev k68_73 := jdk_68_method_73_code
theorem d68_73_0 : Dk k68_73 0 (.aload_n 0) 1 := own_k
theorem d68_73_1 : Dk k68_73 1 (.aload_n 2) 1 := own_k
theorem d68_73_2 : Dk k68_73 2 (.invokevirtual 397) 3 := own_k
theorem pd_23 : parseMethodDescriptor "(Ljava/lang/String;)V" = some ⟨[(.object "java/lang/String")], none⟩ := by decide +kernel
theorem d68_73_5 : Dk k68_73 5 (.aload_n 2) 1 := own_k
theorem d68_73_6 : Dk k68_73 6 (.aload_n 0) 1 := own_k
theorem d68_73_7 : Dk k68_73 7 (.getfield 15) 3 := own_k
theorem d68_73_10 : Dk k68_73 10 (.iload_n 1) 1 := own_k
theorem d68_73_11 : Dk k68_73 11 (.aload_n 0) 1 := own_k
theorem d68_73_12 : Dk k68_73 12 (.getfield 22) 3 := own_k
theorem d68_73_15 : Dk k68_73 15 (.invokevirtual 399) 3 := own_k
theorem pd_24 : parseMethodDescriptor "([BIB)V" = some ⟨[(.array .byte), .int, .byte], none⟩ := by decide +kernel
theorem d68_73_18 : Dk k68_73 18 .return_ 1 := own_k
theorem ef_rm_psa (m : MethodId) (x0 : Addr) (x1 : Int32) (x2 : Addr) : entryFrame m #[(.ref x0), (.int x1), (.ref x2)] 3 = mkF m 0 #[.val (.ref x0), .val (.int x1), .val (.ref x2)] [] := by
   first | (simp [entryFrame, mkF, argsToLocals, Value.category]; done) | rfl
set_option maxRecDepth 65536 in
set_option maxHeartbeats 40000000 in
theorem rm_psa (l : Launch) (Z : State) (a0 : Array Value) (hw : ∀ d ∈ tables_1, d.before a0 Z = true) (ws : List Jvm.Cond) (b v : Addr) (kv : ClassId) (cd : Int32) (cs : List Int32) (x t : Addr) (kt : ClassId) (ts : List Int32) (G1 : Int32) (G3 : Value) (h0 : Heap) (n0 : Nat) (O0 : Old Z n0 h0) (O2 : Sta Z Z.heap "java/lang/String" "COMPACT_STRINGS" "Z" (.int G1)) (P5 : ¬ (G1 = (0 : Int32))) (O4 : Sta Z Z.heap "jdk/internal/util/Preconditions" "SIOOBE_FORMATTER" "Ljava/util/function/BiFunction;" G3) (rG3 : G3.isRef = true) (OA : Sta Z Z.heap "java/lang/StringUTF16" "$assertionsDisabled" "Z" (.int (1 : Int32))) (OH : Sta Z Z.heap "java/lang/StringUTF16" "HI_BYTE_SHIFT" "I" (.int (0 : Int32))) (OL : Sta Z Z.heap "java/lang/StringUTF16" "LO_BYTE_SHIFT" "I" (.int (8 : Int32))) (E_b : Exa Z h0 b "java/lang/StringBuilder") (Fv_b : Fld Z h0 b "java/lang/AbstractStringBuilder" "value" "[B" (.ref v)) (Fc_b : Fld Z h0 b "java/lang/AbstractStringBuilder" "coder" "B" (.int cd)) (Fn_b : Fld Z h0 b "java/lang/AbstractStringBuilder" "count" "I" (.int (Int32.ofNat cs.length))) (Fm_b : Fld Z h0 b "java/lang/AbstractStringBuilder" "maybeLatin1" "Z" (.int (0 : Int32))) (V_v : Arv Z h0 v kv .byte (own_sbN cd) (own_sbv cd cs) (.int (0 : Int32))) (hcd : own_cdi cd cs) (g_b : n0 ≤ b) (g_v : n0 ≤ v) (E_x : Exa Z h0 x "java/lang/String") (Fv_x : Fld Z h0 x "java/lang/String" "value" "[B" (.ref t)) (Fc_x : Fld Z h0 x "java/lang/String" "coder" "B" (.int (0 : Int32))) (V_t : Arv Z h0 t kt .byte (Int32.ofNat ts.length) (own_lat ts) (.int (0 : Int32))) (hts : ∀ c ∈ ts, ¬ (255 : Int32) < c) (hot : own_Ok ts) (hxb : x ≠ b) (htv : t ≠ v) (hle : cs.length + ts.length ≤ 16) :
    MetFree l (⟨"java/lang/AbstractStringBuilder", "putStringAt", "(ILjava/lang/String;)V"⟩ : MethodName) (head1 (Jvm.Cond.code (⟨"java/lang/AbstractStringBuilder", "putStringAt", "(ILjava/lang/String;)V"⟩ : MethodName) jdk_68_method_73_code 3 none :: ws) ⟨6, 0, 0, 91⟩) (fun aA U => aA = #[(.ref b), (.int (Int32.ofNat cs.length)), (.ref x)] ∧ Z.Warmed39 U.vm ∧ U.heap = h0) (fun _ _ _ _ _ => True) (fun _ U oO U' => ∃ rV rL, oO = .returned rV ∧ QPut2 Z v kv cd (cs ++ ts) h0 n0 rV U'.heap rL ∧ FrameEnd U oO U' rL 0 0) := by
  refine MetFree.of_bodySF (plainFor_of_name pn_2) hisR ?_
  intro p e s m args below meth cC s₁ Bd hml0 hP hK
  obtain ⟨rfl, hZ, hh⟩ := hP
  have hx := Bd.exec
  have hby := Bd.bytes
  have hml : cC.maxLocals = 3 := hml0
  have hown : s.vm.findClass "java/lang/AbstractStringBuilder" = some m.cls := findClass_of_methodNamed Bd.named
  have hnm := (name_of_methodNamed Bd.named Bd.method).1
  have hrt := Bd.returns
  have hlk : meth.locks = false := Bd.notSynchronized
  have X0 : Stand p l e ⟨6, 0, 0, 91⟩ s m #[(.ref b), (.int (Int32.ofNat cs.length)), (.ref x)] below meth cC s₁ [] 0 0 := Stand.of_body Bd
  have e0 : s₁.heap = h0 := by rw [← hh, Bd.state]; rfl
  have N0 := Fr.nil n0
  have Z0 : n0 ≤ h0.size := O0.1 ▸ O0.2.1
  show own_Go p e below (s₁.setTop (entryFrame m #[(.ref b), (.int (Int32.ofNat cs.length)), (.ref x)] 3)) (fun oO U' => ∃ rV rL, oO = .returned rV ∧ QPut2 Z v kv cd (cs ++ ts) h0 n0 rV U'.heap rL ∧ FrameEnd s oO U' rL 0 0)
  refine own_go (fun _ k => castTop (ef_rm_psa m b _ x) k) ?_
  have hbv := Exa.neArv E_b V_v (tw hw 27 rfl)
  have hxv := Exa.neArv E_x V_v (tw hw 1 rfl)
  have hbt := Exa.neArv E_b V_t (tw hw 27 rfl)
  rcases id hcd with ⟨cd0, hall⟩ | ⟨cd0, hex⟩
  · subst cd0
    refine og (fun _ k => XS.aloadN X0.here hx rfl (hb hby d68_73_0) rfl rfl k) ?_
    refine og (fun _ k => XS.aloadN X0.here hx rfl (hb hby d68_73_1) rfl rfl k) ?_
    try dsimp only [mkF]
    obtain ⟨cq217, q217, q217'⟩ := E_b.cell
    obtain ⟨v217, _, ⟨T217, L217, k217, n217⟩, -, X217, ⟨Lc217, hQ217, l217, y217, z217⟩, st217⟩ := X0.privateBack hx (y := (⟨"java/lang/AbstractStringBuilder", "inflateIfNeededFor", "(Ljava/lang/String;)V"⟩ : MethodName)) hown (mvT hZ (tw hw 275 rfl)) (mvT hZ (tw hw 276 rfl)) (own_selQ hZ (tw hw 278 rfl) (tw hw 277 rfl) (tw hw 276 rfl) (by decide)) (Cond.privateMethod_at (mvP hZ (tw hw 277 rfl) (args := #[]))) (mvT hZ (tw hw 279 rfl)) (by decide) (backOf (W := 0) (rm_iin l Z a0 hw [] b v kv (0 : Int32) cs x t kt ts G1 G3 h0 n0 O0 O2 P5 O4 rG3 OA OH OL E_b Fv_b Fc_b Fn_b Fm_b V_v hcd g_b g_v E_x Fv_x Fc_x V_t hts hot hxb htv) hZ (tw hw 279 rfl) (tw hw 36 rfl) (by decide) (by decide)) (g := (mkF m 2 #[.val (.ref b), .val (.int (Int32.ofNat cs.length)), .val (.ref x)] [(.ref x), (.ref b)])) rfl (by rw [hml]; rfl) (Steps.refl _) (a := b) (by rw [e0]; exact q217) q217' (argsL := [(.ref x)]) (rest := []) (lenOf pd_23 rfl) rfl (by show 2 * 0 + _ ≤ _; exact Nat.le_of_eq rfl) (hb hby d68_73_2) (fun _ _ => ⟨rfl, e0, (by decide : 0 + 0 ≤ _), (by decide : 0 + 0 ≤ _)⟩)
    dsimp only [Pt.U, Pt.locs, Pt.cells, Pt.slots] at X217 l217 y217 z217 st217 hQ217
    subst l217 y217 z217
    refine own_gos st217 ?_
    obtain ⟨rfl, Nq217, e217⟩ := hQ217
    have N217 := Fr.app N0 Nq217
    refine og (fun _ k => XS.aloadN X217.here hx rfl (hb hby d68_73_5) rfl rfl k) ?_
    refine og (fun _ k => XS.aloadN X217.here hx rfl (hb hby d68_73_6) rfl rfl k) ?_
    obtain ⟨T218, X218, e218, st218⟩ := getF X217 hx hZ hown (host := "") (Or.inl (tw hw 40 rfl)) Via.refl e217 Fv_b (g := (mkF m 7 #[.val (.ref b), .val (.int (Int32.ofNat cs.length)), .val (.ref x)] [(.ref b), (.ref x)])) rfl rfl (hb hby d68_73_7)
    refine own_go st218 ?_
    refine og (fun _ k => XS.iloadN X218.here hx rfl (hb hby d68_73_10) rfl k) ?_
    try dsimp only [mkF]
    refine og (fun _ k => XS.aloadN X218.here hx rfl (hb hby d68_73_11) rfl rfl k) ?_
    obtain ⟨T219, X219, e219, st219⟩ := getF X218 hx hZ hown (host := "") (Or.inl (tw hw 42 rfl)) Via.refl e218 Fc_b (g := (mkF m 12 #[.val (.ref b), .val (.int (Int32.ofNat cs.length)), .val (.ref x)] [(.ref b), (.int (Int32.ofNat cs.length)), (.ref v), (.ref x)])) rfl rfl (hb hby d68_73_12)
    refine own_go st219 ?_
    obtain ⟨cq220, kq220, q220a, q220b, q220c⟩ := isOf hZ e219 E_x
    obtain ⟨v220, _, ⟨T220, L220, k220, n220⟩, -, X220, ⟨Lc220, hQ220, l220, y220, z220⟩, st220⟩ := X219.virtualBack hx (y := (⟨"java/lang/String", "getBytes", "([BIB)V"⟩ : MethodName)) (z := (⟨"java/lang/String", "getBytes", "([BIB)V"⟩ : MethodName)) hown (mvT hZ (tw hw 281 rfl)) (mvT hZ (tw hw 282 rfl)) (notFace_of_selects (args := #[]) (mvT hZ (tw hw 284 rfl))) (mvT hZ (tw hw 284 rfl)) (mvT hZ (tw hw 283 rfl)) (by decide) (backOf (W := 0) (rm_gb0 l Z a0 hw [] x t kt ts v kv cs G1 G3 h0 n0 O0 O2 P5 O4 rG3 OA OH OL E_x Fv_x Fc_x V_t hts hot V_v g_v htv hle) hZ (tw hw 285 rfl) (tw hw 2 rfl) (by decide) (by decide)) q220a q220c (g := (mkF m 15 #[.val (.ref b), .val (.int (Int32.ofNat cs.length)), .val (.ref x)] [(.int (0 : Int32)), (.int (Int32.ofNat cs.length)), (.ref v), (.ref x)])) rfl (by rw [hml]; rfl) (Steps.refl _) (argsL := [(.ref v), (.int (Int32.ofNat cs.length)), (.int (0 : Int32))]) (rest := []) (lenOf pd_24 rfl) rfl (by show 2 * 0 + _ ≤ _; exact Nat.le_of_eq rfl) (hb hby d68_73_15) (fun _ _ => ⟨rfl, e219, (by decide : 0 + 0 ≤ _), (by decide : 0 + 0 ≤ _)⟩)
    dsimp only [Pt.U, Pt.locs, Pt.cells, Pt.slots] at X220 l220 y220 z220 st220 hQ220
    subst l220 y220 z220
    refine own_gos st220 ?_
    obtain ⟨rfl, Nq220, K220, Vv220⟩ := hQ220
    have N220 := Fr.app N217 Nq220
    have f221 := ((Keep.refl h0 [v]).trans K220 (allS (Or.inl (List.mem_of_getElem? (i := 0) rfl)) all0))
    refine own_fin (v := none) X220 (fun _ => rfl) hlk (fun fs hr => X220.returnOut hx hrt (hb hby d68_73_18) hr) (QQ := QPut2 Z v kv (0 : Int32) (cs ++ ts) h0 n0) ?_ (by decide) (by decide)
    exact ⟨rfl, N220, f221, Vv220⟩
  · subst cd0
    refine og (fun _ k => XS.aloadN X0.here hx rfl (hb hby d68_73_0) rfl rfl k) ?_
    refine og (fun _ k => XS.aloadN X0.here hx rfl (hb hby d68_73_1) rfl rfl k) ?_
    try dsimp only [mkF]
    obtain ⟨cq222, q222, q222'⟩ := E_b.cell
    obtain ⟨v222, _, ⟨T222, L222, k222, n222⟩, -, X222, ⟨Lc222, hQ222, l222, y222, z222⟩, st222⟩ := X0.privateBack hx (y := (⟨"java/lang/AbstractStringBuilder", "inflateIfNeededFor", "(Ljava/lang/String;)V"⟩ : MethodName)) hown (mvT hZ (tw hw 275 rfl)) (mvT hZ (tw hw 276 rfl)) (own_selQ hZ (tw hw 278 rfl) (tw hw 277 rfl) (tw hw 276 rfl) (by decide)) (Cond.privateMethod_at (mvP hZ (tw hw 277 rfl) (args := #[]))) (mvT hZ (tw hw 279 rfl)) (by decide) (backOf (W := 0) (rm_iin l Z a0 hw [] b v kv (1 : Int32) cs x t kt ts G1 G3 h0 n0 O0 O2 P5 O4 rG3 OA OH OL E_b Fv_b Fc_b Fn_b Fm_b V_v hcd g_b g_v E_x Fv_x Fc_x V_t hts hot hxb htv) hZ (tw hw 279 rfl) (tw hw 36 rfl) (by decide) (by decide)) (g := (mkF m 2 #[.val (.ref b), .val (.int (Int32.ofNat cs.length)), .val (.ref x)] [(.ref x), (.ref b)])) rfl (by rw [hml]; rfl) (Steps.refl _) (a := b) (by rw [e0]; exact q222) q222' (argsL := [(.ref x)]) (rest := []) (lenOf pd_23 rfl) rfl (by show 2 * 0 + _ ≤ _; exact Nat.le_of_eq rfl) (hb hby d68_73_2) (fun _ _ => ⟨rfl, e0, (by decide : 0 + 0 ≤ _), (by decide : 0 + 0 ≤ _)⟩)
    dsimp only [Pt.U, Pt.locs, Pt.cells, Pt.slots] at X222 l222 y222 z222 st222 hQ222
    subst l222 y222 z222
    refine own_gos st222 ?_
    obtain ⟨rfl, Nq222, e222⟩ := hQ222
    have N222 := Fr.app N0 Nq222
    refine og (fun _ k => XS.aloadN X222.here hx rfl (hb hby d68_73_5) rfl rfl k) ?_
    refine og (fun _ k => XS.aloadN X222.here hx rfl (hb hby d68_73_6) rfl rfl k) ?_
    obtain ⟨T223, X223, e223, st223⟩ := getF X222 hx hZ hown (host := "") (Or.inl (tw hw 40 rfl)) Via.refl e222 Fv_b (g := (mkF m 7 #[.val (.ref b), .val (.int (Int32.ofNat cs.length)), .val (.ref x)] [(.ref b), (.ref x)])) rfl rfl (hb hby d68_73_7)
    refine own_go st223 ?_
    refine og (fun _ k => XS.iloadN X223.here hx rfl (hb hby d68_73_10) rfl k) ?_
    try dsimp only [mkF]
    refine og (fun _ k => XS.aloadN X223.here hx rfl (hb hby d68_73_11) rfl rfl k) ?_
    obtain ⟨T224, X224, e224, st224⟩ := getF X223 hx hZ hown (host := "") (Or.inl (tw hw 42 rfl)) Via.refl e223 Fc_b (g := (mkF m 12 #[.val (.ref b), .val (.int (Int32.ofNat cs.length)), .val (.ref x)] [(.ref b), (.int (Int32.ofNat cs.length)), (.ref v), (.ref x)])) rfl rfl (hb hby d68_73_12)
    refine own_go st224 ?_
    obtain ⟨cq225, kq225, q225a, q225b, q225c⟩ := isOf hZ e224 E_x
    obtain ⟨v225, _, ⟨T225, L225, k225, n225⟩, -, X225, ⟨Lc225, hQ225, l225, y225, z225⟩, st225⟩ := X224.virtualBack hx (y := (⟨"java/lang/String", "getBytes", "([BIB)V"⟩ : MethodName)) (z := (⟨"java/lang/String", "getBytes", "([BIB)V"⟩ : MethodName)) hown (mvT hZ (tw hw 281 rfl)) (mvT hZ (tw hw 282 rfl)) (notFace_of_selects (args := #[]) (mvT hZ (tw hw 284 rfl))) (mvT hZ (tw hw 284 rfl)) (mvT hZ (tw hw 283 rfl)) (by decide) (backOf (W := 0) (rm_gb1 l Z a0 hw [] x t kt ts v kv cs G1 G3 h0 n0 O0 O2 P5 O4 rG3 OA OH OL E_x Fv_x Fc_x V_t hts hot V_v g_v htv hle) hZ (tw hw 285 rfl) (tw hw 2 rfl) (by decide) (by decide)) q225a q225c (g := (mkF m 15 #[.val (.ref b), .val (.int (Int32.ofNat cs.length)), .val (.ref x)] [(.int (1 : Int32)), (.int (Int32.ofNat cs.length)), (.ref v), (.ref x)])) rfl (by rw [hml]; rfl) (Steps.refl _) (argsL := [(.ref v), (.int (Int32.ofNat cs.length)), (.int (1 : Int32))]) (rest := []) (lenOf pd_24 rfl) rfl (by show 2 * 0 + _ ≤ _; exact Nat.le_of_eq rfl) (hb hby d68_73_15) (fun _ _ => ⟨rfl, e224, (by decide : 0 + 0 ≤ _), (by decide : 0 + 0 ≤ _)⟩)
    dsimp only [Pt.U, Pt.locs, Pt.cells, Pt.slots] at X225 l225 y225 z225 st225 hQ225
    subst l225 y225 z225
    refine own_gos st225 ?_
    obtain ⟨rfl, Nq225, K225, Vv225⟩ := hQ225
    have N225 := Fr.app N222 Nq225
    have f226 := ((Keep.refl h0 [v]).trans K225 (allS (Or.inl (List.mem_of_getElem? (i := 0) rfl)) all0))
    refine own_fin (v := none) X225 (fun _ => rfl) hlk (fun fs hr => X225.returnOut hx hrt (hb hby d68_73_18) hr) (QQ := QPut2 Z v kv (1 : Int32) (cs ++ ts) h0 n0) ?_ (by decide) (by decide)
    exact ⟨rfl, N225, f226, Vv225⟩

abbrev k68_22 := jdk_68_method_22_code
theorem d68_22_0 : Dk k68_22 0 (.aload_n 1) 1 := own_k
theorem d68_22_1 : Dk k68_22 1 (.ifnonnull 8) 3 := own_k
theorem d68_22_9 : Dk k68_22 9 (.aload_n 1) 1 := own_k
theorem d68_22_10 : Dk k68_22 10 (.invokevirtual 32) 3 := own_k
theorem d68_22_13 : Dk k68_22 13 (.istore_n 2) 1 := own_k
theorem d68_22_14 : Dk k68_22 14 (.aload_n 0) 1 := own_k
theorem d68_22_15 : Dk k68_22 15 (.aload_n 0) 1 := own_k
theorem d68_22_16 : Dk k68_22 16 (.getfield 79) 3 := own_k
theorem d68_22_19 : Dk k68_22 19 (.iload_n 2) 1 := own_k
theorem d68_22_20 : Dk k68_22 20 .iadd 1 := own_k
theorem d68_22_21 : Dk k68_22 21 (.invokevirtual 100) 3 := own_k
theorem d68_22_24 : Dk k68_22 24 (.aload_n 0) 1 := own_k
theorem d68_22_25 : Dk k68_22 25 (.aload_n 0) 1 := own_k
theorem d68_22_26 : Dk k68_22 26 (.getfield 79) 3 := own_k
theorem d68_22_29 : Dk k68_22 29 (.aload_n 1) 1 := own_k
theorem d68_22_30 : Dk k68_22 30 (.invokevirtual 208) 3 := own_k
theorem pd_25 : parseMethodDescriptor "(ILjava/lang/String;)V" = some ⟨[.int, (.object "java/lang/String")], none⟩ := by decide +kernel
theorem d68_22_33 : Dk k68_22 33 (.aload_n 0) 1 := own_k
theorem d68_22_34 : Dk k68_22 34 .dup 1 := own_k
theorem d68_22_35 : Dk k68_22 35 (.getfield 79) 3 := own_k
theorem d68_22_38 : Dk k68_22 38 (.iload_n 2) 1 := own_k
theorem d68_22_39 : Dk k68_22 39 .iadd 1 := own_k
theorem d68_22_40 : Dk k68_22 40 (.putfield 79) 3 := own_k
theorem d68_22_43 : Dk k68_22 43 (.aload_n 0) 1 := own_k
theorem d68_22_44 : Dk k68_22 44 .areturn 1 := own_k
theorem ef_rm_aps (m : MethodId) (x0 : Addr) (x1 : Addr) : entryFrame m #[(.ref x0), (.ref x1)] 3 = mkF m 0 #[.val (.ref x0), .val (.ref x1), .unset] [] := by
   first | (simp [entryFrame, mkF, argsToLocals, Value.category]; done) | rfl
set_option maxRecDepth 65536 in
set_option maxHeartbeats 40000000 in
theorem rm_aps (l : Launch) (Z : State) (a0 : Array Value) (hw : ∀ d ∈ tables_1, d.before a0 Z = true) (ws : List Jvm.Cond) (b v : Addr) (kv : ClassId) (cd : Int32) (cs : List Int32) (x t : Addr) (kt : ClassId) (ts : List Int32) (G1 : Int32) (G3 : Value) (h0 : Heap) (n0 : Nat) (O0 : Old Z n0 h0) (O2 : Sta Z Z.heap "java/lang/String" "COMPACT_STRINGS" "Z" (.int G1)) (P5 : ¬ (G1 = (0 : Int32))) (O4 : Sta Z Z.heap "jdk/internal/util/Preconditions" "SIOOBE_FORMATTER" "Ljava/util/function/BiFunction;" G3) (rG3 : G3.isRef = true) (OA : Sta Z Z.heap "java/lang/StringUTF16" "$assertionsDisabled" "Z" (.int (1 : Int32))) (OH : Sta Z Z.heap "java/lang/StringUTF16" "HI_BYTE_SHIFT" "I" (.int (0 : Int32))) (OL : Sta Z Z.heap "java/lang/StringUTF16" "LO_BYTE_SHIFT" "I" (.int (8 : Int32))) (E_b : Exa Z h0 b "java/lang/StringBuilder") (Fv_b : Fld Z h0 b "java/lang/AbstractStringBuilder" "value" "[B" (.ref v)) (Fc_b : Fld Z h0 b "java/lang/AbstractStringBuilder" "coder" "B" (.int cd)) (Fn_b : Fld Z h0 b "java/lang/AbstractStringBuilder" "count" "I" (.int (Int32.ofNat cs.length))) (Fm_b : Fld Z h0 b "java/lang/AbstractStringBuilder" "maybeLatin1" "Z" (.int (0 : Int32))) (V_v : Arv Z h0 v kv .byte (own_sbN cd) (own_sbv cd cs) (.int (0 : Int32))) (hcd : own_cdi cd cs) (g_b : n0 ≤ b) (g_v : n0 ≤ v) (E_x : Exa Z h0 x "java/lang/String") (Fv_x : Fld Z h0 x "java/lang/String" "value" "[B" (.ref t)) (Fc_x : Fld Z h0 x "java/lang/String" "coder" "B" (.int (0 : Int32))) (V_t : Arv Z h0 t kt .byte (Int32.ofNat ts.length) (own_lat ts) (.int (0 : Int32))) (hts : ∀ c ∈ ts, ¬ (255 : Int32) < c) (hot : own_Ok ts) (hxb : x ≠ b) (htv : t ≠ v) (hle : cs.length + ts.length ≤ 16) :
    MetFree l (⟨"java/lang/AbstractStringBuilder", "append", "(Ljava/lang/String;)Ljava/lang/AbstractStringBuilder;"⟩ : MethodName) (head1 (Jvm.Cond.code (⟨"java/lang/AbstractStringBuilder", "append", "(Ljava/lang/String;)Ljava/lang/AbstractStringBuilder;"⟩ : MethodName) jdk_68_method_22_code 3 (some (.object "java/lang/AbstractStringBuilder")) :: ws) ⟨7, 0, 0, 105⟩) (fun aA U => aA = #[(.ref b), (.ref x)] ∧ Z.Warmed39 U.vm ∧ U.heap = h0) (fun _ _ _ _ _ => True) (fun _ U oO U' => ∃ rV rL, oO = .returned rV ∧ QSB Z (some (.ref b)) b v (cs ++ ts) h0 n0 rV U'.heap rL ∧ FrameEnd U oO U' rL 0 0) := by
  refine MetFree.of_bodySF (plainFor_of_name pn_2) hisR ?_
  intro p e s m args below meth cC s₁ Bd hml0 hP hK
  obtain ⟨rfl, hZ, hh⟩ := hP
  have hx := Bd.exec
  have hby := Bd.bytes
  have hml : cC.maxLocals = 3 := hml0
  have hown : s.vm.findClass "java/lang/AbstractStringBuilder" = some m.cls := findClass_of_methodNamed Bd.named
  have hnm := (name_of_methodNamed Bd.named Bd.method).1
  have hrt := Bd.returns
  have hlk : meth.locks = false := Bd.notSynchronized
  have X0 : Stand p l e ⟨7, 0, 0, 105⟩ s m #[(.ref b), (.ref x)] below meth cC s₁ [] 0 0 := Stand.of_body Bd
  have e0 : s₁.heap = h0 := by rw [← hh, Bd.state]; rfl
  have N0 := Fr.nil n0
  have Z0 : n0 ≤ h0.size := O0.1 ▸ O0.2.1
  show own_Go p e below (s₁.setTop (entryFrame m #[(.ref b), (.ref x)] 3)) (fun oO U' => ∃ rV rL, oO = .returned rV ∧ QSB Z (some (.ref b)) b v (cs ++ ts) h0 n0 rV U'.heap rL ∧ FrameEnd s oO U' rL 0 0)
  refine own_go (fun _ k => castTop (ef_rm_aps m b x) k) ?_
  have hbv := Exa.neArv E_b V_v (tw hw 27 rfl)
  have hxv := Exa.neArv E_x V_v (tw hw 1 rfl)
  have hbt := Exa.neArv E_b V_t (tw hw 27 rfl)
  refine og (fun _ k => XS.aloadN X0.here hx rfl (hb hby d68_22_0) rfl rfl k) ?_
  refine og (fun _ k => XS.ifnonnullYes X0.here hx rfl (pc0 := 1) (pc' := 9) rfl (hb hby d68_22_1) rfl (by decide) (by decide) k) ?_
  refine og (fun _ k => XS.aloadN X0.here hx rfl (hb hby d68_22_9) rfl rfl k) ?_
  obtain ⟨cq227, kq227, q227a, q227b, q227c⟩ := isOf hZ e0 E_x
  obtain ⟨v227, _, ⟨T227, L227, k227, n227⟩, -, X227, ⟨Lc227, hQ227, l227, y227, z227⟩, st227⟩ := X0.virtualBack hx (y := (⟨"java/lang/String", "length", "()I"⟩ : MethodName)) (z := (⟨"java/lang/String", "length", "()I"⟩ : MethodName)) hown (mvT hZ (tw hw 269 rfl)) (mvT hZ (tw hw 45 rfl)) (notFace_of_selects (args := #[]) (mvT hZ (tw hw 47 rfl))) (mvT hZ (tw hw 47 rfl)) (mvT hZ (tw hw 46 rfl)) (by decide) (StrChars.Road.lenW (W := 0) hZ (own_wLen hw) (kI := 4) (tw hw 1 rfl) E_x Fv_x Fc_x V_t (Or.inl ⟨rfl, rfl, rfl, hts⟩) (hot.1) (O2.ext O0.2) P5 hot.2 (by decide) (by decide)) q227a q227c (g := (mkF m 10 #[.val (.ref b), .val (.ref x), .unset] [(.ref x)])) rfl (by rw [hml]; rfl) (Steps.refl _) (argsL := []) (rest := []) (lenOf pd_9 rfl) rfl (by show 2 * 0 + _ ≤ _; exact Nat.le_of_eq rfl) (hb hby d68_22_10) (fun _ _ => ⟨rfl, e0, (by decide : 0 + 0 ≤ _), (by decide : 0 + 0 ≤ _)⟩)
  dsimp only [Pt.U, Pt.locs, Pt.cells, Pt.slots] at X227 l227 y227 z227 st227 hQ227
  subst l227 y227 z227
  refine own_gos st227 ?_
  obtain ⟨rfl, rfl, e227⟩ := hQ227
  have Nq227 : Fr n0 ([] : List Loc) := Fr.nil n0
  have N227 := Fr.app N0 Nq227
  try dsimp only [mkF]
  refine og (fun _ k => XS.istoreN X227.here hx rfl (hb hby d68_22_13) rfl (l' := #[.val (.ref b), .val (.ref x), .val (.int (Int32.ofNat ts.length))]) rfl k) ?_
  refine og (fun _ k => XS.aloadN X227.here hx rfl (hb hby d68_22_14) rfl rfl k) ?_
  refine og (fun _ k => XS.aloadN X227.here hx rfl (hb hby d68_22_15) rfl rfl k) ?_
  obtain ⟨T228, X228, e228, st228⟩ := getF X227 hx hZ hown (host := "") (Or.inl (tw hw 81 rfl)) Via.refl e227 Fn_b (g := (mkF m 16 #[.val (.ref b), .val (.ref x), .val (.int (Int32.ofNat ts.length))] [(.ref b), (.ref b)])) rfl rfl (hb hby d68_22_16)
  refine own_go st228 ?_
  refine og (fun _ k => XS.iloadN X228.here hx rfl (hb hby d68_22_19) rfl k) ?_
  try dsimp only [mkF]
  refine og (fun _ k => XS.iadd X228.here hx rfl (hb hby d68_22_20) rfl k) ?_
  show own_Go p e below (T228.setTop (mkF m 21 #[.val (.ref b), .val (.ref x), .val (.int (Int32.ofNat ts.length))] [(.int ((Int32.ofNat cs.length) + (Int32.ofNat ts.length))), (.ref b)])) _
  rw [own_ofadd]
  obtain ⟨cq229, q229, q229'⟩ := E_b.cell
  obtain ⟨v229, _, ⟨T229, L229, k229, n229⟩, -, X229, ⟨Lc229, hQ229, l229, y229, z229⟩, st229⟩ := X228.privateBack hx (y := (⟨"java/lang/AbstractStringBuilder", "ensureCapacityInternal", "(I)V"⟩ : MethodName)) hown (mvT hZ (tw hw 173 rfl)) (mvT hZ (tw hw 174 rfl)) (own_selQ hZ (tw hw 176 rfl) (tw hw 175 rfl) (tw hw 174 rfl) (by decide)) (Cond.privateMethod_at (mvP hZ (tw hw 175 rfl) (args := #[]))) (mvT hZ (tw hw 177 rfl)) (by decide) (backOf (W := 0) (rm_ens l Z a0 hw [] b v kv cd cs (cs.length + ts.length) G1 G3 h0 n0 O0 O2 P5 O4 rG3 OA OH OL E_b Fv_b Fc_b Fn_b Fm_b V_v hcd g_b g_v hle) hZ (tw hw 177 rfl) (tw hw 36 rfl) (by decide) (by decide)) (g := (mkF m 21 #[.val (.ref b), .val (.ref x), .val (.int (Int32.ofNat ts.length))] [(.int (Int32.ofNat (cs.length + ts.length))), (.ref b)])) rfl (by rw [hml]; rfl) (Steps.refl _) (a := b) (by rw [e228]; exact q229) q229' (argsL := [(.int (Int32.ofNat (cs.length + ts.length)))]) (rest := []) (lenOf pd_8 rfl) rfl (by show 2 * 0 + _ ≤ _; exact Nat.le_of_eq rfl) (hb hby d68_22_21) (fun _ _ => ⟨rfl, e228, (by decide : 0 + 0 ≤ _), (by decide : 0 + 0 ≤ _)⟩)
  dsimp only [Pt.U, Pt.locs, Pt.cells, Pt.slots] at X229 l229 y229 z229 st229 hQ229
  subst l229 y229 z229
  refine own_gos st229 ?_
  obtain ⟨rfl, Nq229, e229⟩ := hQ229
  have N229 := Fr.app N227 Nq229
  refine og (fun _ k => XS.aloadN X229.here hx rfl (hb hby d68_22_24) rfl rfl k) ?_
  refine og (fun _ k => XS.aloadN X229.here hx rfl (hb hby d68_22_25) rfl rfl k) ?_
  try dsimp only [mkF]
  obtain ⟨T230, X230, e230, st230⟩ := getF X229 hx hZ hown (host := "") (Or.inl (tw hw 81 rfl)) Via.refl e229 Fn_b (g := (mkF m 26 #[.val (.ref b), .val (.ref x), .val (.int (Int32.ofNat ts.length))] [(.ref b), (.ref b)])) rfl rfl (hb hby d68_22_26)
  refine own_go st230 ?_
  refine og (fun _ k => XS.aloadN X230.here hx rfl (hb hby d68_22_29) rfl rfl k) ?_
  obtain ⟨cq231, q231, q231'⟩ := E_b.cell
  obtain ⟨v231, _, ⟨T231, L231, k231, n231⟩, -, X231, ⟨Lc231, hQ231, l231, y231, z231⟩, st231⟩ := X230.privateBack hx (y := (⟨"java/lang/AbstractStringBuilder", "putStringAt", "(ILjava/lang/String;)V"⟩ : MethodName)) hown (mvT hZ (tw hw 270 rfl)) (mvT hZ (tw hw 271 rfl)) (own_selQ hZ (tw hw 273 rfl) (tw hw 272 rfl) (tw hw 271 rfl) (by decide)) (Cond.privateMethod_at (mvP hZ (tw hw 272 rfl) (args := #[]))) (mvT hZ (tw hw 274 rfl)) (by decide) (backOf (W := 0) (rm_psa l Z a0 hw [] b v kv cd cs x t kt ts G1 G3 h0 n0 O0 O2 P5 O4 rG3 OA OH OL E_b Fv_b Fc_b Fn_b Fm_b V_v hcd g_b g_v E_x Fv_x Fc_x V_t hts hot hxb htv hle) hZ (tw hw 274 rfl) (tw hw 36 rfl) (by decide) (by decide)) (g := (mkF m 30 #[.val (.ref b), .val (.ref x), .val (.int (Int32.ofNat ts.length))] [(.ref x), (.int (Int32.ofNat cs.length)), (.ref b)])) rfl (by rw [hml]; rfl) (Steps.refl _) (a := b) (by rw [e230]; exact q231) q231' (argsL := [(.int (Int32.ofNat cs.length)), (.ref x)]) (rest := []) (lenOf pd_25 rfl) rfl (by show 2 * 0 + _ ≤ _; exact Nat.le_of_eq rfl) (hb hby d68_22_30) (fun _ _ => ⟨rfl, e230, (by decide : 0 + 0 ≤ _), (by decide : 0 + 0 ≤ _)⟩)
  dsimp only [Pt.U, Pt.locs, Pt.cells, Pt.slots] at X231 l231 y231 z231 st231 hQ231
  subst l231 y231 z231
  refine own_gos st231 ?_
  obtain ⟨rfl, Nq231, K231, Vv231⟩ := hQ231
  have N231 := Fr.app N229 Nq231
  refine og (fun _ k => XS.aloadN X231.here hx rfl (hb hby d68_22_33) rfl rfl k) ?_
  refine og (fun _ k => XS.dup X231.here hx rfl (hb hby d68_22_34) rfl rfl k) ?_
  try dsimp only [mkF]
  have f232 := (Fn_b.keep K231 (ninS hbv nin0))
  obtain ⟨T233, X233, e233, st233⟩ := getF X231 hx hZ hown (host := "") (Or.inl (tw hw 81 rfl)) Via.refl (rfl : T231.heap = T231.heap) f232 (g := (mkF m 35 #[.val (.ref b), .val (.ref x), .val (.int (Int32.ofNat ts.length))] [(.ref b), (.ref b)])) rfl rfl (hb hby d68_22_35)
  refine own_go st233 ?_
  refine og (fun _ k => XS.iloadN X233.here hx rfl (hb hby d68_22_38) rfl k) ?_
  refine og (fun _ k => XS.iadd X233.here hx rfl (hb hby d68_22_39) rfl k) ?_
  obtain ⟨T234, h234, X234, e234, W234, st234⟩ := putF X233 hx hZ hown (host := "") (Or.inl (tw hw 81 rfl)) Via.refl e233 f232 (E_b.keep K231) (Or.inl (tw hw 82 rfl)) (tw hw 27 rfl) (ty := .int) (by decide) rfl rfl (g := (mkF m 40 #[.val (.ref b), .val (.ref x), .val (.int (Int32.ofNat ts.length))] [(.int ((Int32.ofNat cs.length) + (Int32.ofNat ts.length))), (.ref b)])) rfl rfl (hb hby d68_22_40)
  refine own_go st234 ?_
  have N234 := Fr.snoc X234 N231 g_b
  have Fw234 := f232.same W234
  refine og (fun _ k => XS.aloadN X234.here hx rfl (hb hby d68_22_43) rfl rfl k) ?_
  try dsimp only [mkF]
  have f235 := (((Keep.refl h0 [b, v]).trans K231 (allS (Or.inl (List.mem_of_getElem? (i := 1) rfl)) all0)).wr W234 (Or.inl (List.mem_of_getElem? (i := 0) rfl)))
  have f236 := ((Fv_b.keep K231 (ninS hbv nin0)).other W234 (Or.inr (slot_ne (Or.inl (tw hw 41 rfl)) (Or.inl (tw hw 82 rfl)) (by decide) (t := (.array .byte)) (t' := .int) (by decide) (by decide))))
  have f237 := ((Fc_b.keep K231 (ninS hbv nin0)).other W234 (Or.inr (slot_ne (Or.inl (tw hw 43 rfl)) (Or.inl (tw hw 82 rfl)) (by decide) (t := .byte) (t' := .int) (by decide) (by decide))))
  have f238 := ((Fm_b.keep K231 (ninS hbv nin0)).other W234 (Or.inr (slot_ne (Or.inl (tw hw 258 rfl)) (Or.inl (tw hw 82 rfl)) (by decide) (t := .boolean) (t' := .int) (by decide) (by decide))))
  have f239 := (Vv231.other W234 (Ne.symm hbv))
  refine own_fin (v := (some (.ref b))) X234 (fun h => by rw [hrt] at h; cases h) hlk (fun fs hr => retR X234 hx hrt (by rfl) rfl rfl (hb hby d68_22_44) hr) (QQ := QSB Z (some (.ref b)) b v (cs ++ ts) h0 n0) ?_ (by decide) (by decide)
  rw [e234]
  exact ⟨v, _, cd, rfl, N234, f235, Or.inl rfl, f236, f237, (own_lenA cs ts ▸ Fw234), f238, f239, own_cdiA hcd hts⟩

abbrev k67_7 := jdk_67_method_7_code
theorem d67_7_0 : Dk k67_7 0 (.aload_n 0) 1 := own_k
theorem d67_7_1 : Dk k67_7 1 (.aload_n 1) 1 := own_k
theorem d67_7_2 : Dk k67_7 2 (.invokespecial 29) 3 := own_k
theorem pd_26 : parseMethodDescriptor "(Ljava/lang/String;)Ljava/lang/AbstractStringBuilder;" = some ⟨[(.object "java/lang/String")], some (.object "java/lang/AbstractStringBuilder")⟩ := by decide +kernel
theorem d67_7_5 : Dk k67_7 5 .pop 1 := own_k
theorem d67_7_6 : Dk k67_7 6 (.aload_n 0) 1 := own_k
theorem d67_7_7 : Dk k67_7 7 .areturn 1 := own_k
theorem ef_rm_apS (m : MethodId) (x0 : Addr) (x1 : Addr) : entryFrame m #[(.ref x0), (.ref x1)] 2 = mkF m 0 #[.val (.ref x0), .val (.ref x1)] [] := by
   first | (simp [entryFrame, mkF, argsToLocals, Value.category]; done) | rfl
set_option maxRecDepth 65536 in
set_option maxHeartbeats 40000000 in
theorem rm_apS (l : Launch) (Z : State) (a0 : Array Value) (hw : ∀ d ∈ tables_1, d.before a0 Z = true) (ws : List Jvm.Cond) (b v : Addr) (kv : ClassId) (cd : Int32) (cs : List Int32) (x t : Addr) (kt : ClassId) (ts : List Int32) (G1 : Int32) (G3 : Value) (h0 : Heap) (n0 : Nat) (O0 : Old Z n0 h0) (O2 : Sta Z Z.heap "java/lang/String" "COMPACT_STRINGS" "Z" (.int G1)) (P5 : ¬ (G1 = (0 : Int32))) (O4 : Sta Z Z.heap "jdk/internal/util/Preconditions" "SIOOBE_FORMATTER" "Ljava/util/function/BiFunction;" G3) (rG3 : G3.isRef = true) (OA : Sta Z Z.heap "java/lang/StringUTF16" "$assertionsDisabled" "Z" (.int (1 : Int32))) (OH : Sta Z Z.heap "java/lang/StringUTF16" "HI_BYTE_SHIFT" "I" (.int (0 : Int32))) (OL : Sta Z Z.heap "java/lang/StringUTF16" "LO_BYTE_SHIFT" "I" (.int (8 : Int32))) (E_b : Exa Z h0 b "java/lang/StringBuilder") (Fv_b : Fld Z h0 b "java/lang/AbstractStringBuilder" "value" "[B" (.ref v)) (Fc_b : Fld Z h0 b "java/lang/AbstractStringBuilder" "coder" "B" (.int cd)) (Fn_b : Fld Z h0 b "java/lang/AbstractStringBuilder" "count" "I" (.int (Int32.ofNat cs.length))) (Fm_b : Fld Z h0 b "java/lang/AbstractStringBuilder" "maybeLatin1" "Z" (.int (0 : Int32))) (V_v : Arv Z h0 v kv .byte (own_sbN cd) (own_sbv cd cs) (.int (0 : Int32))) (hcd : own_cdi cd cs) (g_b : n0 ≤ b) (g_v : n0 ≤ v) (E_x : Exa Z h0 x "java/lang/String") (Fv_x : Fld Z h0 x "java/lang/String" "value" "[B" (.ref t)) (Fc_x : Fld Z h0 x "java/lang/String" "coder" "B" (.int (0 : Int32))) (V_t : Arv Z h0 t kt .byte (Int32.ofNat ts.length) (own_lat ts) (.int (0 : Int32))) (hts : ∀ c ∈ ts, ¬ (255 : Int32) < c) (hot : own_Ok ts) (hxb : x ≠ b) (htv : t ≠ v) (hle : cs.length + ts.length ≤ 16) :
    MetFree l (⟨"java/lang/StringBuilder", "append", "(Ljava/lang/String;)Ljava/lang/StringBuilder;"⟩ : MethodName) (head1 (Jvm.Cond.code (⟨"java/lang/StringBuilder", "append", "(Ljava/lang/String;)Ljava/lang/StringBuilder;"⟩ : MethodName) jdk_67_method_7_code 2 (some (.object "java/lang/StringBuilder")) :: ws) ⟨8, 0, 0, 119⟩) (fun aA U => aA = #[(.ref b), (.ref x)] ∧ Z.Warmed39 U.vm ∧ U.heap = h0) (fun _ _ _ _ _ => True) (fun _ U oO U' => ∃ rV rL, oO = .returned rV ∧ QSB Z (some (.ref b)) b v (cs ++ ts) h0 n0 rV U'.heap rL ∧ FrameEnd U oO U' rL 0 0) := by
  refine MetFree.of_bodySF (plainFor_of_name pn_3) hisR ?_
  intro p e s m args below meth cC s₁ Bd hml0 hP hK
  obtain ⟨rfl, hZ, hh⟩ := hP
  have hx := Bd.exec
  have hby := Bd.bytes
  have hml : cC.maxLocals = 2 := hml0
  have hown : s.vm.findClass "java/lang/StringBuilder" = some m.cls := findClass_of_methodNamed Bd.named
  have hnm := (name_of_methodNamed Bd.named Bd.method).1
  have hrt := Bd.returns
  have hlk : meth.locks = false := Bd.notSynchronized
  have X0 : Stand p l e ⟨8, 0, 0, 119⟩ s m #[(.ref b), (.ref x)] below meth cC s₁ [] 0 0 := Stand.of_body Bd
  have e0 : s₁.heap = h0 := by rw [← hh, Bd.state]; rfl
  have N0 := Fr.nil n0
  have Z0 : n0 ≤ h0.size := O0.1 ▸ O0.2.1
  show own_Go p e below (s₁.setTop (entryFrame m #[(.ref b), (.ref x)] 2)) (fun oO U' => ∃ rV rL, oO = .returned rV ∧ QSB Z (some (.ref b)) b v (cs ++ ts) h0 n0 rV U'.heap rL ∧ FrameEnd s oO U' rL 0 0)
  refine own_go (fun _ k => castTop (ef_rm_apS m b x) k) ?_
  have hbv := Exa.neArv E_b V_v (tw hw 27 rfl)
  have hxv := Exa.neArv E_x V_v (tw hw 1 rfl)
  have hbt := Exa.neArv E_b V_t (tw hw 27 rfl)
  refine og (fun _ k => XS.aloadN X0.here hx rfl (hb hby d67_7_0) rfl rfl k) ?_
  refine og (fun _ k => XS.aloadN X0.here hx rfl (hb hby d67_7_1) rfl rfl k) ?_
  obtain ⟨v240, _, ⟨T240, L240, k240, n240⟩, -, X240, ⟨Lc240, hQ240, l240, y240, z240⟩, st240⟩ := superBack X0 hx hZ (y := (⟨"java/lang/AbstractStringBuilder", "append", "(Ljava/lang/String;)Ljava/lang/AbstractStringBuilder;"⟩ : MethodName)) hown (tw hw 265 rfl) (own_same (tw hw 266 rfl) (tw hw 70 rfl) rfl (by decide)) (tw hw 266 rfl) (tw hw 79 rfl) (by decide) (backOf (W := 0) (rm_aps l Z a0 hw [] b v kv cd cs x t kt ts G1 G3 h0 n0 O0 O2 P5 O4 rG3 OA OH OL E_b Fv_b Fc_b Fn_b Fm_b V_v hcd g_b g_v E_x Fv_x Fc_x V_t hts hot hxb htv hle) hZ (tw hw 268 rfl) (tw hw 36 rfl) (by decide) (by decide)) e0 (Ins.self E_b) (g := (mkF m 2 #[.val (.ref b), .val (.ref x)] [(.ref x), (.ref b)])) rfl (by rw [hml]; rfl) (tw hw 268 rfl) (argsL := [(.ref x)]) (rest := []) (lenOf pd_26 rfl) rfl (by show 2 * 0 + _ ≤ _; exact Nat.le_of_eq rfl) (hb hby d67_7_2) (fun _ _ => ⟨rfl, e0, (by decide : 0 + 0 ≤ _), (by decide : 0 + 0 ≤ _)⟩)
  dsimp only [Pt.U, Pt.locs, Pt.cells, Pt.slots] at X240 l240 y240 z240 st240 hQ240
  subst l240 y240 z240
  refine own_gos st240 ?_
  obtain ⟨v240, kv240, cd240, rfl, Nq240, K240, hor240, Fv240, Fc240, Fn240, Fm240, Vv240, hcd240⟩ := hQ240
  have gv240 : n0 ≤ v240 := hor240.elim (fun q => q ▸ g_v) (fun q => Nat.le_trans (Nat.le_trans Z0 (Keep.refl h0 [b, v]).1) q)
  have N240 := Fr.app N0 Nq240
  refine og (fun _ k => XS.pop X240.here hx rfl (hb hby d67_7_5) rfl rfl k) ?_
  try dsimp only [mkF]
  refine og (fun _ k => XS.aloadN X240.here hx rfl (hb hby d67_7_6) rfl rfl k) ?_
  have f241 := ((Keep.refl h0 [b, v]).trans K240 (allS (Or.inl (List.mem_of_getElem? (i := 0) rfl)) (allS (Or.inl (List.mem_of_getElem? (i := 1) rfl)) all0)))
  refine own_fin (v := (some (.ref b))) X240 (fun h => by rw [hrt] at h; cases h) hlk (fun fs hr => retR X240 hx hrt (by rfl) rfl rfl (hb hby d67_7_7) hr) (QQ := QSB Z (some (.ref b)) b v (cs ++ ts) h0 n0) ?_ (by decide) (by decide)
  exact ⟨v240, _, _, rfl, N240, f241, hor240, Fv240, Fc240, Fn240, Fm240, Vv240, hcd240⟩

theorem own_minN {a b : Nat} (h : b ≤ a) (ha : a < 2147483648) : Int32.ofNat b = if Int32.ofNat b < Int32.ofNat a then Int32.ofNat b else Int32.ofNat a := by
  by_cases q : b < a
  · rw [if_pos ((own_lti (by omega) ha).mpr q)]
  · have e : b = a := by omega
    rw [e, if_neg (fun z => by have := (own_lti ha ha).mp z; omega)]
theorem own_neN {a b : Nat} (h : b < a) (ha : a < 2147483648) : ¬ Int32.ofNat b = Int32.ofNat a := fun q => by
  have e := congrArg Int32.toInt q
  rw [own_ti (by omega), own_ti ha] at e; omega
abbrev k65_131 := jdk_65_method_131_code
theorem d65_131_0 : Dk k65_131 0 (.iload_n 1) 1 := own_k
theorem d65_131_1 : Dk k65_131 1 (.iload_n 0) 1 := own_k
theorem d65_131_2 : Dk k65_131 2 (.if_icmp .ge 35) 3 := own_k
theorem d65_131_37 : Dk k65_131 37 .return_ 1 := own_k
theorem pn_6 : plainName "java/util/Arrays" = true := by first | (simp [plainName, overriddenIn]; done) | decide +kernel
theorem ef_rm_ckl (m : MethodId) (x0 : Int32) (x1 : Int32) : entryFrame m #[(.int x0), (.int x1)] 2 = mkF m 0 #[.val (.int x0), .val (.int x1)] [] := by
   first | (simp [entryFrame, mkF, argsToLocals, Value.category]; done) | rfl
set_option maxRecDepth 65536 in
set_option maxHeartbeats 40000000 in
theorem rm_ckl (l : Launch) (Z : State) (a0 : Array Value) (hw : ∀ d ∈ tables_1, d.before a0 Z = true) (ws : List Jvm.Cond) (p1 p2 : Int32) (h0 : Heap) (n0 : Nat) (O0 : Old Z n0 h0) (q1 : ¬ p2 < p1) :
    MetFree l (⟨"java/util/Arrays", "checkLength", "(II)V"⟩ : MethodName) (head1 (Jvm.Cond.code (⟨"java/util/Arrays", "checkLength", "(II)V"⟩ : MethodName) jdk_65_method_131_code 2 none :: ws) ⟨0, 0, 0, 0⟩) (fun aA U => aA = #[(.int p1), (.int p2)] ∧ Z.Warmed39 U.vm ∧ U.heap = h0) (fun _ _ _ _ _ => True) (fun _ U oO U' => ∃ rV rL, oO = .returned rV ∧ QPure (none) h0 n0 rV U'.heap rL ∧ FrameEnd U oO U' rL 0 0) := by
  refine MetFree.of_bodySF (plainFor_of_name pn_6) hisR ?_
  intro p e s m args below meth cC s₁ Bd hml0 hP hK
  obtain ⟨rfl, hZ, hh⟩ := hP
  have hx := Bd.exec
  have hby := Bd.bytes
  have hml : cC.maxLocals = 2 := hml0
  have hown : s.vm.findClass "java/util/Arrays" = some m.cls := findClass_of_methodNamed Bd.named
  have hnm := (name_of_methodNamed Bd.named Bd.method).1
  have hrt := Bd.returns
  have hlk : meth.locks = false := Bd.notSynchronized
  have X0 : Stand p l e ⟨0, 0, 0, 0⟩ s m #[(.int p1), (.int p2)] below meth cC s₁ [] 0 0 := Stand.of_body Bd
  have e0 : s₁.heap = h0 := by rw [← hh, Bd.state]; rfl
  have N0 := Fr.nil n0
  have Z0 : n0 ≤ h0.size := O0.1 ▸ O0.2.1
  show own_Go p e below (s₁.setTop (entryFrame m #[(.int p1), (.int p2)] 2)) (fun oO U' => ∃ rV rL, oO = .returned rV ∧ QPure (none) h0 n0 rV U'.heap rL ∧ FrameEnd s oO U' rL 0 0)
  refine own_go (fun _ k => castTop (ef_rm_ckl m p1 p2) k) ?_
  refine og (fun _ k => XS.iloadN X0.here hx rfl (hb hby d65_131_0) rfl k) ?_
  refine og (fun _ k => XS.iloadN X0.here hx rfl (hb hby d65_131_1) rfl k) ?_
  refine og (fun _ k => XS.icmpYes X0.here hx rfl (pc0 := 2) (pc' := 37) rfl (hb hby d65_131_2) rfl (flt q1).2.1 (by decide) (by decide) k) ?_
  refine own_fin (v := none) X0 (fun _ => rfl) hlk (fun fs hr => X0.returnOut hx hrt (hb hby d65_131_37) hr) (QQ := QPure (none) h0 n0) ?_ (by decide) (by decide)
  rw [e0]
  exact ⟨rfl, N0, rfl⟩

abbrev k29_69 := jdk_29_method_69_code
theorem d29_69_0 : Dk k29_69 0 (.iload_n 0) 1 := own_k
theorem d29_69_1 : Dk k29_69 1 (.iload_n 1) 1 := own_k
theorem d29_69_2 : Dk k29_69 2 (.if_icmp .gt 7) 3 := own_k
theorem d29_69_9 : Dk k29_69 9 (.iload_n 1) 1 := own_k
theorem d29_69_10 : Dk k29_69 10 .ireturn 1 := own_k
theorem d29_69_5 : Dk k29_69 5 (.iload_n 0) 1 := own_k
theorem d29_69_6 : Dk k29_69 6 (.goto 4) 3 := own_k
theorem ef_rm_min (m : MethodId) (x0 : Int32) (x1 : Int32) : entryFrame m #[(.int x0), (.int x1)] 2 = mkF m 0 #[.val (.int x0), .val (.int x1)] [] := by
   first | (simp [entryFrame, mkF, argsToLocals, Value.category]; done) | rfl
set_option maxRecDepth 65536 in
set_option maxHeartbeats 40000000 in
theorem rm_min (l : Launch) (Z : State) (a0 : Array Value) (hw : ∀ d ∈ tables_1, d.before a0 Z = true) (ws : List Jvm.Cond) (p1 p2 r : Int32) (h0 : Heap) (n0 : Nat) (O0 : Old Z n0 h0) (hr0 : r = if p2 < p1 then p2 else p1) :
    MetFree l (⟨"java/lang/Math", "min", "(II)I"⟩ : MethodName) (head1 (Jvm.Cond.code (⟨"java/lang/Math", "min", "(II)I"⟩ : MethodName) jdk_29_method_69_code 2 (some .int) :: ws) ⟨0, 0, 0, 0⟩) (fun aA U => aA = #[(.int p1), (.int p2)] ∧ Z.Warmed39 U.vm ∧ U.heap = h0) (fun _ _ _ _ _ => True) (fun _ U oO U' => ∃ rV rL, oO = .returned rV ∧ QPure (some (.int r)) h0 n0 rV U'.heap rL ∧ FrameEnd U oO U' rL 0 0) := by
  refine MetFree.of_bodySF (Jvm.Free.JP.mathPlain rfl (by decide +kernel)) hisR ?_
  intro p e s m args below meth cC s₁ Bd hml0 hP hK
  obtain ⟨rfl, hZ, hh⟩ := hP
  have hx := Bd.exec
  have hby := Bd.bytes
  have hml : cC.maxLocals = 2 := hml0
  have hown : s.vm.findClass "java/lang/Math" = some m.cls := findClass_of_methodNamed Bd.named
  have hnm := (name_of_methodNamed Bd.named Bd.method).1
  have hrt := Bd.returns
  have hlk : meth.locks = false := Bd.notSynchronized
  have X0 : Stand p l e ⟨0, 0, 0, 0⟩ s m #[(.int p1), (.int p2)] below meth cC s₁ [] 0 0 := Stand.of_body Bd
  have e0 : s₁.heap = h0 := by rw [← hh, Bd.state]; rfl
  have N0 := Fr.nil n0
  have Z0 : n0 ≤ h0.size := O0.1 ▸ O0.2.1
  show own_Go p e below (s₁.setTop (entryFrame m #[(.int p1), (.int p2)] 2)) (fun oO U' => ∃ rV rL, oO = .returned rV ∧ QPure (some (.int r)) h0 n0 rV U'.heap rL ∧ FrameEnd s oO U' rL 0 0)
  refine own_go (fun _ k => castTop (ef_rm_min m p1 p2) k) ?_
  refine og (fun _ k => XS.iloadN X0.here hx rfl (hb hby d29_69_0) rfl k) ?_
  refine og (fun _ k => XS.iloadN X0.here hx rfl (hb hby d29_69_1) rfl k) ?_
  by_cases hc242 : p2 < p1
  · skip
    refine og (fun _ k => XS.icmpYes X0.here hx rfl (pc0 := 2) (pc' := 9) rfl (hb hby d29_69_2) rfl (tlt hc242).2.2.1 (by decide) (by decide) k) ?_
    refine og (fun _ k => XS.iloadN X0.here hx rfl (hb hby d29_69_9) rfl k) ?_
    try dsimp only [mkF]
    refine own_fin (v := (some (.int p2))) X0 (fun h => by rw [hrt] at h; cases h) hlk (fun fs hr => retI X0 hx hrt (hb hby d29_69_10) hr) (QQ := QPure (some (.int r)) h0 n0) ?_ (by decide) (by decide)
    rw [e0]
    exact ⟨by rw [hr0, if_pos hc242], N0, rfl⟩
  · skip
    refine og (fun _ k => XS.icmpNo X0.here hx rfl (hb hby d29_69_2) rfl (flt hc242).2.2.1 k) ?_
    refine og (fun _ k => XS.iloadN X0.here hx rfl (hb hby d29_69_5) rfl k) ?_
    try dsimp only [mkF]
    refine og (fun _ k => XS.goto X0.here hx rfl (pc0 := 6) (pc' := 10) rfl (hb hby d29_69_6) (by decide) (by decide) k) ?_
    refine own_fin (v := (some (.int p1))) X0 (fun h => by rw [hrt] at h; cases h) hlk (fun fs hr => retI X0 hx hrt (hb hby d29_69_10) hr) (QQ := QPure (some (.int r)) h0 n0) ?_ (by decide) (by decide)
    rw [e0]
    exact ⟨by rw [hr0, if_neg hc242], N0, rfl⟩

abbrev k29_65 := jdk_29_method_65_code
theorem d29_65_0 : Dk k29_65 0 (.iload_n 0) 1 := own_k
theorem d29_65_1 : Dk k29_65 1 (.iload_n 1) 1 := own_k
theorem d29_65_2 : Dk k29_65 2 (.if_icmp .lt 7) 3 := own_k
theorem d29_65_9 : Dk k29_65 9 (.iload_n 1) 1 := own_k
theorem d29_65_10 : Dk k29_65 10 .ireturn 1 := own_k
theorem d29_65_5 : Dk k29_65 5 (.iload_n 0) 1 := own_k
theorem d29_65_6 : Dk k29_65 6 (.goto 4) 3 := own_k
theorem ef_rm_max (m : MethodId) (x0 : Int32) (x1 : Int32) : entryFrame m #[(.int x0), (.int x1)] 2 = mkF m 0 #[.val (.int x0), .val (.int x1)] [] := by
   first | (simp [entryFrame, mkF, argsToLocals, Value.category]; done) | rfl
set_option maxRecDepth 65536 in
set_option maxHeartbeats 40000000 in
theorem rm_max (l : Launch) (Z : State) (a0 : Array Value) (hw : ∀ d ∈ tables_1, d.before a0 Z = true) (ws : List Jvm.Cond) (p1 p2 r : Int32) (h0 : Heap) (n0 : Nat) (O0 : Old Z n0 h0) (hr0 : r = if p1 < p2 then p2 else p1) :
    MetFree l (⟨"java/lang/Math", "max", "(II)I"⟩ : MethodName) (head1 (Jvm.Cond.code (⟨"java/lang/Math", "max", "(II)I"⟩ : MethodName) jdk_29_method_65_code 2 (some .int) :: ws) ⟨0, 0, 0, 0⟩) (fun aA U => aA = #[(.int p1), (.int p2)] ∧ Z.Warmed39 U.vm ∧ U.heap = h0) (fun _ _ _ _ _ => True) (fun _ U oO U' => ∃ rV rL, oO = .returned rV ∧ QPure (some (.int r)) h0 n0 rV U'.heap rL ∧ FrameEnd U oO U' rL 0 0) := by
  refine MetFree.of_bodySF (Jvm.Free.JP.mathPlain rfl (by decide +kernel)) hisR ?_
  intro p e s m args below meth cC s₁ Bd hml0 hP hK
  obtain ⟨rfl, hZ, hh⟩ := hP
  have hx := Bd.exec
  have hby := Bd.bytes
  have hml : cC.maxLocals = 2 := hml0
  have hown : s.vm.findClass "java/lang/Math" = some m.cls := findClass_of_methodNamed Bd.named
  have hnm := (name_of_methodNamed Bd.named Bd.method).1
  have hrt := Bd.returns
  have hlk : meth.locks = false := Bd.notSynchronized
  have X0 : Stand p l e ⟨0, 0, 0, 0⟩ s m #[(.int p1), (.int p2)] below meth cC s₁ [] 0 0 := Stand.of_body Bd
  have e0 : s₁.heap = h0 := by rw [← hh, Bd.state]; rfl
  have N0 := Fr.nil n0
  have Z0 : n0 ≤ h0.size := O0.1 ▸ O0.2.1
  show own_Go p e below (s₁.setTop (entryFrame m #[(.int p1), (.int p2)] 2)) (fun oO U' => ∃ rV rL, oO = .returned rV ∧ QPure (some (.int r)) h0 n0 rV U'.heap rL ∧ FrameEnd s oO U' rL 0 0)
  refine own_go (fun _ k => castTop (ef_rm_max m p1 p2) k) ?_
  refine og (fun _ k => XS.iloadN X0.here hx rfl (hb hby d29_65_0) rfl k) ?_
  refine og (fun _ k => XS.iloadN X0.here hx rfl (hb hby d29_65_1) rfl k) ?_
  by_cases hc243 : p1 < p2
  · skip
    refine og (fun _ k => XS.icmpYes X0.here hx rfl (pc0 := 2) (pc' := 9) rfl (hb hby d29_65_2) rfl (tlt hc243).1 (by decide) (by decide) k) ?_
    refine og (fun _ k => XS.iloadN X0.here hx rfl (hb hby d29_65_9) rfl k) ?_
    try dsimp only [mkF]
    refine own_fin (v := (some (.int p2))) X0 (fun h => by rw [hrt] at h; cases h) hlk (fun fs hr => retI X0 hx hrt (hb hby d29_65_10) hr) (QQ := QPure (some (.int r)) h0 n0) ?_ (by decide) (by decide)
    rw [e0]
    exact ⟨by rw [hr0, if_pos hc243], N0, rfl⟩
  · skip
    refine og (fun _ k => XS.icmpNo X0.here hx rfl (hb hby d29_65_2) rfl (flt hc243).1 k) ?_
    refine og (fun _ k => XS.iloadN X0.here hx rfl (hb hby d29_65_5) rfl k) ?_
    try dsimp only [mkF]
    refine og (fun _ k => XS.goto X0.here hx rfl (pc0 := 6) (pc' := 10) rfl (hb hby d29_65_6) (by decide) (by decide) k) ?_
    refine own_fin (v := (some (.int p1))) X0 (fun h => by rw [hrt] at h; cases h) hlk (fun fs hr => retI X0 hx hrt (hb hby d29_65_10) hr) (QQ := QPure (some (.int r)) h0 n0) ?_ (by decide) (by decide)
    rw [e0]
    exact ⟨by rw [hr0, if_neg hc243], N0, rfl⟩

abbrev k65_133 := jdk_65_method_133_code
theorem d65_133_0 : Dk k65_133 0 (.iload_n 1) 1 := own_k
theorem d65_133_1 : Dk k65_133 1 (.iload_n 2) 1 := own_k
theorem d65_133_2 : Dk k65_133 2 (.invokestatic 343) 3 := own_k
theorem d65_133_5 : Dk k65_133 5 (.iload_n 2) 1 := own_k
theorem d65_133_6 : Dk k65_133 6 (.iload_n 1) 1 := own_k
theorem d65_133_7 : Dk k65_133 7 .isub 1 := own_k
theorem d65_133_8 : Dk k65_133 8 (.istore_n 3) 1 := own_k
theorem d65_133_9 : Dk k65_133 9 (.iload_n 3) 1 := own_k
theorem d65_133_10 : Dk k65_133 10 (.newarray .byte) 2 := own_k
theorem d65_133_12 : Dk k65_133 12 (.astore 4) 2 := own_k
theorem d65_133_14 : Dk k65_133 14 (.aload_n 0) 1 := own_k
theorem d65_133_15 : Dk k65_133 15 (.iload_n 1) 1 := own_k
theorem d65_133_16 : Dk k65_133 16 (.aload 4) 2 := own_k
theorem d65_133_18 : Dk k65_133 18 (.iconst 0) 1 := own_k
theorem d65_133_19 : Dk k65_133 19 (.aload_n 0) 1 := own_k
theorem d65_133_20 : Dk k65_133 20 .arraylength 1 := own_k
theorem d65_133_21 : Dk k65_133 21 (.iload_n 1) 1 := own_k
theorem d65_133_22 : Dk k65_133 22 .isub 1 := own_k
theorem d65_133_23 : Dk k65_133 23 (.iload_n 3) 1 := own_k
theorem d65_133_24 : Dk k65_133 24 (.invokestatic 304) 3 := own_k
theorem pd_27 : parseMethodDescriptor "(II)I" = some ⟨[.int, .int], some .int⟩ := by decide +kernel
theorem d65_133_27 : Dk k65_133 27 (.invokestatic 150) 3 := own_k
theorem d65_133_30 : Dk k65_133 30 (.aload 4) 2 := own_k
theorem d65_133_32 : Dk k65_133 32 .areturn 1 := own_k
theorem ef_rm_corb (m : MethodId) (x0 : Addr) (x1 : Int32) (x2 : Int32) : entryFrame m #[(.ref x0), (.int x1), (.int x2)] 5 = mkF m 0 #[.val (.ref x0), .val (.int x1), .val (.int x2), .unset, .unset] [] := by
   first | (simp [entryFrame, mkF, argsToLocals, Value.category]; done) | rfl
set_option maxRecDepth 65536 in
set_option maxHeartbeats 40000000 in
theorem rm_corb (l : Launch) (Z : State) (a0 : Array Value) (hw : ∀ d ∈ tables_1, d.before a0 Z = true) (ws : List Jvm.Cond) (a : Addr) (ka : ClassId) (Na : Nat) (vs : List Value) (mm : Nat) (us : List Value) (h0 : Heap) (n0 : Nat) (O0 : Old Z n0 h0) (V_a : Arv Z h0 a ka .byte (Int32.ofNat Na) vs (.int (0 : Int32))) (hm : mm < Na) (hNa : Na ≤ 4000) (hm32 : mm ≤ 32) (hus : us = (List.range mm).map fun i => vs.getD (0 + i) (.int (0 : Int32))) :
    MetFree l (⟨"java/util/Arrays", "copyOfRangeByte", "([BII)[B"⟩ : MethodName) (head1 (Jvm.Cond.code (⟨"java/util/Arrays", "copyOfRangeByte", "([BII)[B"⟩ : MethodName) jdk_65_method_133_code 5 (some (.array .byte)) :: ws) ⟨1, 1, 32, 18⟩) (fun aA U => aA = #[(.ref a), (.int (0 : Int32)), (.int (Int32.ofNat mm))] ∧ Z.Warmed39 U.vm ∧ U.heap = h0) (fun _ _ _ _ _ => True) (fun _ U oO U' => ∃ rV rL, oO = .returned rV ∧ QNew Z (Int32.ofNat mm) us h0 n0 rV U'.heap rL ∧ FrameEnd U oO U' rL 1 32) := by
  refine MetFree.of_bodySF (plainFor_of_name pn_6) hisR ?_
  intro p e s m args below meth cC s₁ Bd hml0 hP hK
  obtain ⟨rfl, hZ, hh⟩ := hP
  have hx := Bd.exec
  have hby := Bd.bytes
  have hml : cC.maxLocals = 5 := hml0
  have hown : s.vm.findClass "java/util/Arrays" = some m.cls := findClass_of_methodNamed Bd.named
  have hnm := (name_of_methodNamed Bd.named Bd.method).1
  have hrt := Bd.returns
  have hlk : meth.locks = false := Bd.notSynchronized
  have X0 : Stand p l e ⟨1, 1, 32, 18⟩ s m #[(.ref a), (.int (0 : Int32)), (.int (Int32.ofNat mm))] below meth cC s₁ [] 0 0 := Stand.of_body Bd
  have e0 : s₁.heap = h0 := by rw [← hh, Bd.state]; rfl
  have N0 := Fr.nil n0
  have Z0 : n0 ≤ h0.size := O0.1 ▸ O0.2.1
  show own_Go p e below (s₁.setTop (entryFrame m #[(.ref a), (.int (0 : Int32)), (.int (Int32.ofNat mm))] 5)) (fun oO U' => ∃ rV rL, oO = .returned rV ∧ QNew Z (Int32.ofNat mm) us h0 n0 rV U'.heap rL ∧ FrameEnd s oO U' rL 1 32)
  refine own_go (fun _ k => castTop (ef_rm_corb m a _ _) k) ?_
  have hul : us.length = mm := by rw [hus, List.length_map, List.length_range]
  refine og (fun _ k => XS.iloadN X0.here hx rfl (hb hby d65_133_0) rfl k) ?_
  refine og (fun _ k => XS.iloadN X0.here hx rfl (hb hby d65_133_1) rfl k) ?_
  obtain ⟨v244, _, ⟨T244, L244, k244, n244⟩, -, X244, ⟨Lc244, hQ244, l244, y244, z244⟩, st244⟩ := Jvm.LawKit.callS X0 hx (y := (⟨"java/util/Arrays", "checkLength", "(II)V"⟩ : MethodName)) hown (mvT hZ (tw hw 95 rfl)) (mvT hZ (tw hw 96 rfl)) (mvT hZ (tw hw 90 rfl)) (mvT hZ (tw hw 97 rfl)) (by decide) (backOf (W := 0) (rm_ckl l Z a0 hw [] (0 : Int32) (Int32.ofNat mm) h0 n0 O0 (own_nn0 (by omega))) hZ (tw hw 97 rfl) (tw hw 90 rfl) (by decide) (by decide)) (g := (mkF m 2 #[.val (.ref a), .val (.int (0 : Int32)), .val (.int (Int32.ofNat mm)), .unset, .unset] [(.int (Int32.ofNat mm)), (.int (0 : Int32))])) rfl (by rw [hml]; rfl) (argsL := [(.int (0 : Int32)), (.int (Int32.ofNat mm))]) (rest := []) (lenOf pd_13 rfl) rfl (by show 2 * 0 + _ ≤ _; exact Nat.le_of_eq rfl) (hb hby d65_133_2) (fun _ _ => ⟨rfl, e0, (by decide : 0 + 0 ≤ _), (by decide : 0 + 0 ≤ _)⟩)
  dsimp only [Pt.U, Pt.locs, Pt.cells, Pt.slots] at X244 l244 y244 z244 st244 hQ244
  subst l244 y244 z244
  refine own_go st244 ?_
  obtain ⟨rfl, Nq244, e244⟩ := hQ244
  have N244 := Fr.app N0 Nq244
  refine og (fun _ k => XS.iloadN X244.here hx rfl (hb hby d65_133_5) rfl k) ?_
  try dsimp only [mkF]
  refine og (fun _ k => XS.iloadN X244.here hx rfl (hb hby d65_133_6) rfl k) ?_
  refine og (fun _ k => XS.isub X244.here hx rfl (hb hby d65_133_7) rfl k) ?_
  show own_Go p e below (T244.setTop (mkF m 8 #[.val (.ref a), .val (.int (0 : Int32)), .val (.int (Int32.ofNat mm)), .unset, .unset] [(.int ((Int32.ofNat mm) - (0 : Int32)))])) _
  rw [Int32.sub_zero]
  refine og (fun _ k => XS.istoreN X244.here hx rfl (hb hby d65_133_8) rfl (l' := #[.val (.ref a), .val (.int (0 : Int32)), .val (.int (Int32.ofNat mm)), .val (.int (Int32.ofNat mm)), .unset]) rfl k) ?_
  refine og (fun _ k => XS.iloadN X244.here hx rfl (hb hby d65_133_9) rfl k) ?_
  try dsimp only [mkF]
  obtain ⟨T245, h245, k245, X245, e245, E245, A245, st245⟩ := newP X244 hx hZ (tw hw 15 rfl) e244 (g := (mkF m 10 #[.val (.ref a), .val (.int (0 : Int32)), .val (.int (Int32.ofNat mm)), .val (.int (Int32.ofNat mm)), .unset] [(.int (Int32.ofNat mm))])) rfl (hb hby d65_133_10) rfl (own_nn0 (by omega)) (cap := 32) (by rw [own_tn (by omega)]; exact hm32) (by decide) (by decide) (by decide)
  obtain ⟨b245, g245⟩ : ∃ z, z = h0.size := ⟨_, rfl⟩
  rw [← g245] at A245 st245
  refine own_go st245 ?_
  have V245 : Arv Z h245 b245 k245 .byte (Int32.ofNat mm) (List.replicate ((Int32.ofNat mm)).toNatClampNeg (.int (0 : Int32))) (.int (0 : Int32)) := (Arv.new A245 (own_nn0 (by omega))).pad (pad_rep [] (.int (0 : Int32)) _)
  have Vb0 : Arv Z h245 b245 k245 .byte (Int32.ofNat mm) (List.replicate mm (.int (0 : Int32))) (.int (0 : Int32)) := by have q := V245; rw [own_tn (by omega)] at q; exact q
  refine og (fun _ k => XS.astore X245.here hx rfl (hb hby d65_133_12) rfl rfl (l' := #[.val (.ref a), .val (.int (0 : Int32)), .val (.int (Int32.ofNat mm)), .val (.int (Int32.ofNat mm)), .val (.ref b245)]) rfl k) ?_
  refine og (fun _ k => XS.aloadN X245.here hx rfl (hb hby d65_133_14) rfl rfl k) ?_
  refine og (fun _ k => XS.iloadN X245.here hx rfl (hb hby d65_133_15) rfl k) ?_
  refine og (fun _ k => XS.aload X245.here hx rfl (hb hby d65_133_16) rfl rfl k) ?_
  try dsimp only [mkF]
  refine og (fun _ k => XS.iconst X245.here hx rfl (hb hby d65_133_18) k) ?_
  refine og (fun _ k => XS.aloadN X245.here hx rfl (hb hby d65_133_19) rfl rfl k) ?_
  obtain ⟨c246, A246, q246, S246, M246, Hs246, Gs246⟩ := id (V_a.ext E245)
  refine og (fun _ k => X245.arraylength hx (by rw [e245]; exact A246.1) (State.isArrayOf_alike hZ.alike A246.2.1) (g := (mkF m 20 #[.val (.ref a), .val (.int (0 : Int32)), .val (.int (Int32.ofNat mm)), .val (.int (Int32.ofNat mm)), .val (.ref b245)] [(.ref a), (.int (0 : Int32)), (.ref b245), (.int (0 : Int32)), (.ref a)])) rfl rfl (hb hby d65_133_20) _ k) ?_
  rw [len_of S246 M246]
  refine og (fun _ k => XS.iloadN X245.here hx rfl (hb hby d65_133_21) rfl k) ?_
  refine og (fun _ k => XS.isub X245.here hx rfl (hb hby d65_133_22) rfl k) ?_
  try dsimp only [mkF]
  show own_Go p e below (T245.setTop (mkF m 23 #[.val (.ref a), .val (.int (0 : Int32)), .val (.int (Int32.ofNat mm)), .val (.int (Int32.ofNat mm)), .val (.ref b245)] [(.int ((Int32.ofNat Na) - (0 : Int32))), (.int (0 : Int32)), (.ref b245), (.int (0 : Int32)), (.ref a)])) _
  rw [Int32.sub_zero]
  refine og (fun _ k => XS.iloadN X245.here hx rfl (hb hby d65_133_23) rfl k) ?_
  obtain ⟨v247, _, ⟨T247, L247, k247, n247⟩, -, X247, ⟨Lc247, hQ247, l247, y247, z247⟩, st247⟩ := Jvm.LawKit.callS X245 hx (y := (⟨"java/lang/Math", "min", "(II)I"⟩ : MethodName)) hown (mvT hZ (tw hw 98 rfl)) (mvT hZ (tw hw 99 rfl)) (mvT hZ (tw hw 100 rfl)) (mvT hZ (tw hw 101 rfl)) (by decide) (backOf (W := 4) (rm_min l Z a0 hw [] (Int32.ofNat Na) (Int32.ofNat mm) (Int32.ofNat mm) h245 n0 (O0.ext E245) (own_minN (Nat.le_of_lt hm) (by omega))) hZ (tw hw 101 rfl) (tw hw 100 rfl) (by decide) (by decide)) (g := (mkF m 24 #[.val (.ref a), .val (.int (0 : Int32)), .val (.int (Int32.ofNat mm)), .val (.int (Int32.ofNat mm)), .val (.ref b245)] [(.int (Int32.ofNat mm)), (.int (Int32.ofNat Na)), (.int (0 : Int32)), (.ref b245), (.int (0 : Int32)), (.ref a)])) rfl (by rw [hml]; rfl) (argsL := [(.int (Int32.ofNat Na)), (.int (Int32.ofNat mm))]) (rest := [(.int (0 : Int32)), (.ref b245), (.int (0 : Int32)), (.ref a)]) (lenOf pd_27 rfl) rfl (by show 2 * 0 + _ ≤ _; exact Nat.le_of_eq rfl) (hb hby d65_133_24) (fun _ _ => ⟨rfl, e245, (by decide : 1 + 0 ≤ _), (by decide : 32 + 0 ≤ _)⟩)
  dsimp only [Pt.U, Pt.locs, Pt.cells, Pt.slots] at X247 l247 y247 z247 st247 hQ247
  subst l247 y247 z247
  refine own_go st247 ?_
  obtain ⟨rfl, Nq247, e247⟩ := hQ247
  have N247 := Fr.app N244 Nq247
  have ci248 := own_tn (i := 0) (by omega)
  have cj248 := own_tn (i := 0) (by omega)
  have cm248 := own_tn (i := mm) (by omega)
  have ca248 := own_tn (i := Na) (by omega)
  have cb248 := own_tn (i := mm) (by omega)
  have cl248 : ((List.replicate mm (.int (0 : Int32))) : List Value).length = mm := List.length_replicate
  obtain ⟨T248, h248, Lc248, X248, e248, N248, K248, Vc248, st248⟩ := cpA (sp := Int32.ofNat 0) (dp := Int32.ofNat 0) (nn := Int32.ofNat mm) X247 hx hZ hown (tw hw 102 rfl) (tw hw 105 rfl) (tw hw 103 rfl) (tw hw 104 rfl) e247 (z := Int32.ofNat Na) (z' := Int32.ofNat mm) (V_a.ext E245) Vb0 (Or.inl ⟨rfl, rfl⟩) (own_nn0 (by omega)) (own_nn0 (by omega)) (own_nn0 (by omega)) (by omega) (by omega) (us := us) (by rw [cm248, ci248]; exact hus) (by omega) N247 (Nat.le_trans Z0 (Nat.le_of_eq g245.symm)) (g := (mkF m 27 #[.val (.ref a), .val (.int (0 : Int32)), .val (.int (Int32.ofNat mm)), .val (.int (Int32.ofNat mm)), .val (.ref b245)] [(.int (Int32.ofNat mm)), (.int (0 : Int32)), (.ref b245), (.int (0 : Int32)), (.ref a)])) rfl (by rw [hml]; rfl) rfl (hb hby d65_133_27) (by decide) (W := 0) (by show 2 * 0 + _ ≤ _; exact Nat.le_of_eq rfl) (by decide)
  refine own_go st248 ?_
  have Vt248 : Arv Z h248 b245 k245 .byte (Int32.ofNat mm) us (.int (0 : Int32)) := by simp only [cj248, cm248] at Vc248; exact (own_cpR hul) ▸ Vc248
  refine og (fun _ k => XS.aload X248.here hx rfl (hb hby d65_133_30) rfl rfl k) ?_
  try dsimp only [mkF]
  have f249 := (((Keep.refl h0 []).ext E245).trans K248 (allS (Or.inr (Nat.le_of_eq g245.symm)) all0))
  refine own_fin (v := (some (.ref b245))) X248 (fun h => by rw [hrt] at h; cases h) hlk (fun fs hr => retR X248 hx hrt (by rfl) rfl rfl (hb hby d65_133_32) hr) (QQ := QNew Z (Int32.ofNat mm) us h0 n0) ?_ (by decide) (by decide)
  rw [e248]
  exact ⟨b245, _, rfl, N248, f249, (Nat.le_of_eq g245.symm), Vt248⟩

abbrev k65_132 := jdk_65_method_132_code
theorem d65_132_0 : Dk k65_132 0 (.iload_n 1) 1 := own_k
theorem d65_132_1 : Dk k65_132 1 (.ifCond .ne 9) 3 := own_k
theorem d65_132_4 : Dk k65_132 4 (.iload_n 2) 1 := own_k
theorem d65_132_5 : Dk k65_132 5 (.aload_n 0) 1 := own_k
theorem d65_132_6 : Dk k65_132 6 .arraylength 1 := own_k
theorem d65_132_7 : Dk k65_132 7 (.if_icmp .eq 10) 3 := own_k
theorem d65_132_10 : Dk k65_132 10 (.aload_n 0) 1 := own_k
theorem d65_132_11 : Dk k65_132 11 (.iload_n 1) 1 := own_k
theorem d65_132_12 : Dk k65_132 12 (.iload_n 2) 1 := own_k
theorem d65_132_13 : Dk k65_132 13 (.invokestatic 339) 3 := own_k
theorem pd_28 : parseMethodDescriptor "([BII)[B" = some ⟨[(.array .byte), .int, .int], some (.array .byte)⟩ := by decide +kernel
theorem d65_132_16 : Dk k65_132 16 .areturn 1 := own_k
theorem ef_rm_cor (m : MethodId) (x0 : Addr) (x1 : Int32) (x2 : Int32) : entryFrame m #[(.ref x0), (.int x1), (.int x2)] 3 = mkF m 0 #[.val (.ref x0), .val (.int x1), .val (.int x2)] [] := by
   first | (simp [entryFrame, mkF, argsToLocals, Value.category]; done) | rfl
set_option maxRecDepth 65536 in
set_option maxHeartbeats 40000000 in
theorem rm_cor (l : Launch) (Z : State) (a0 : Array Value) (hw : ∀ d ∈ tables_1, d.before a0 Z = true) (ws : List Jvm.Cond) (a : Addr) (ka : ClassId) (Na : Nat) (vs : List Value) (mm : Nat) (us : List Value) (h0 : Heap) (n0 : Nat) (O0 : Old Z n0 h0) (V_a : Arv Z h0 a ka .byte (Int32.ofNat Na) vs (.int (0 : Int32))) (hm : mm < Na) (hNa : Na ≤ 4000) (hm32 : mm ≤ 32) (hus : us = (List.range mm).map fun i => vs.getD (0 + i) (.int (0 : Int32))) :
    MetFree l (⟨"java/util/Arrays", "copyOfRange", "([BII)[B"⟩ : MethodName) (head1 (Jvm.Cond.code (⟨"java/util/Arrays", "copyOfRange", "([BII)[B"⟩ : MethodName) jdk_65_method_132_code 3 (some (.array .byte)) :: ws) ⟨2, 1, 32, 34⟩) (fun aA U => aA = #[(.ref a), (.int (0 : Int32)), (.int (Int32.ofNat mm))] ∧ Z.Warmed39 U.vm ∧ U.heap = h0) (fun _ _ _ _ _ => True) (fun _ U oO U' => ∃ rV rL, oO = .returned rV ∧ QNew Z (Int32.ofNat mm) us h0 n0 rV U'.heap rL ∧ FrameEnd U oO U' rL 1 32) := by
  refine MetFree.of_bodySF (plainFor_of_name pn_6) hisR ?_
  intro p e s m args below meth cC s₁ Bd hml0 hP hK
  obtain ⟨rfl, hZ, hh⟩ := hP
  have hx := Bd.exec
  have hby := Bd.bytes
  have hml : cC.maxLocals = 3 := hml0
  have hown : s.vm.findClass "java/util/Arrays" = some m.cls := findClass_of_methodNamed Bd.named
  have hnm := (name_of_methodNamed Bd.named Bd.method).1
  have hrt := Bd.returns
  have hlk : meth.locks = false := Bd.notSynchronized
  have X0 : Stand p l e ⟨2, 1, 32, 34⟩ s m #[(.ref a), (.int (0 : Int32)), (.int (Int32.ofNat mm))] below meth cC s₁ [] 0 0 := Stand.of_body Bd
  have e0 : s₁.heap = h0 := by rw [← hh, Bd.state]; rfl
  have N0 := Fr.nil n0
  have Z0 : n0 ≤ h0.size := O0.1 ▸ O0.2.1
  show own_Go p e below (s₁.setTop (entryFrame m #[(.ref a), (.int (0 : Int32)), (.int (Int32.ofNat mm))] 3)) (fun oO U' => ∃ rV rL, oO = .returned rV ∧ QNew Z (Int32.ofNat mm) us h0 n0 rV U'.heap rL ∧ FrameEnd s oO U' rL 1 32)
  refine own_go (fun _ k => castTop (ef_rm_cor m a _ _) k) ?_
  refine og (fun _ k => XS.iloadN X0.here hx rfl (hb hby d65_132_0) rfl k) ?_
  refine og (fun _ k => XS.ifNo X0.here hx rfl (hb hby d65_132_1) rfl ((if0 _ _).trans (teq (by decide : (0 : Int32) = (0 : Int32))).2) k) ?_
  refine og (fun _ k => XS.iloadN X0.here hx rfl (hb hby d65_132_4) rfl k) ?_
  refine og (fun _ k => XS.aloadN X0.here hx rfl (hb hby d65_132_5) rfl rfl k) ?_
  try dsimp only [mkF]
  obtain ⟨c250, A250, q250, S250, M250, Hs250, Gs250⟩ := id V_a
  refine og (fun _ k => X0.arraylength hx (by rw [e0]; exact A250.1) (State.isArrayOf_alike hZ.alike A250.2.1) (g := (mkF m 6 #[.val (.ref a), .val (.int (0 : Int32)), .val (.int (Int32.ofNat mm))] [(.ref a), (.int (Int32.ofNat mm))])) rfl rfl (hb hby d65_132_6) _ k) ?_
  rw [len_of S250 M250]
  refine og (fun _ k => XS.icmpNo X0.here hx rfl (hb hby d65_132_7) rfl (feq (own_neN hm (by omega))).1 k) ?_
  refine og (fun _ k => XS.aloadN X0.here hx rfl (hb hby d65_132_10) rfl rfl k) ?_
  refine og (fun _ k => XS.iloadN X0.here hx rfl (hb hby d65_132_11) rfl k) ?_
  refine og (fun _ k => XS.iloadN X0.here hx rfl (hb hby d65_132_12) rfl k) ?_
  try dsimp only [mkF]
  obtain ⟨v251, _, ⟨T251, L251, k251, n251⟩, -, X251, ⟨Lc251, hQ251, l251, y251, z251⟩, st251⟩ := Jvm.LawKit.callS X0 hx (y := (⟨"java/util/Arrays", "copyOfRangeByte", "([BII)[B"⟩ : MethodName)) hown (mvT hZ (tw hw 92 rfl)) (mvT hZ (tw hw 93 rfl)) (mvT hZ (tw hw 90 rfl)) (mvT hZ (tw hw 94 rfl)) (by decide) (backOf (W := 0) (rm_corb l Z a0 hw [] a ka Na vs mm us h0 n0 O0 V_a hm hNa hm32 hus) hZ (tw hw 94 rfl) (tw hw 90 rfl) (by decide) (by decide)) (g := (mkF m 13 #[.val (.ref a), .val (.int (0 : Int32)), .val (.int (Int32.ofNat mm))] [(.int (Int32.ofNat mm)), (.int (0 : Int32)), (.ref a)])) rfl (by rw [hml]; rfl) (argsL := [(.ref a), (.int (0 : Int32)), (.int (Int32.ofNat mm))]) (rest := []) (lenOf pd_28 rfl) rfl (by show 2 * 0 + _ ≤ _; exact Nat.le_of_eq rfl) (hb hby d65_132_13) (fun _ _ => ⟨rfl, e0, (by decide : 0 + 1 ≤ _), (by decide : 0 + 32 ≤ _)⟩)
  dsimp only [Pt.U, Pt.locs, Pt.cells, Pt.slots] at X251 l251 y251 z251 st251 hQ251
  subst l251 y251 z251
  refine own_go st251 ?_
  obtain ⟨t251, kt251, rfl, Nq251, K251, tg251, Vt251⟩ := hQ251
  have N251 := Fr.app N0 Nq251
  have f252 := ((Keep.refl h0 []).trans K251 all0)
  refine own_fin (v := (some (.ref t251))) X251 (fun h => by rw [hrt] at h; cases h) hlk (fun fs hr => retR X251 hx hrt (by rfl) rfl rfl (hb hby d65_132_16) hr) (QQ := QNew Z (Int32.ofNat mm) us h0 n0) ?_ (by decide) (by decide)
  exact ⟨t251, _, rfl, N251, f252, tg251, Vt251⟩

abbrev k42_150 := jdk_42_method_150_code
theorem d42_150_0 : Dk k42_150 0 (.aload_n 0) 1 := own_k
theorem d42_150_1 : Dk k42_150 1 (.invokespecial 1) 3 := own_k
theorem d42_150_4 : Dk k42_150 4 (.aload_n 1) 1 := own_k
theorem d42_150_5 : Dk k42_150 5 (.invokevirtual 552) 3 := own_k
theorem pd_29 : parseMethodDescriptor "()[B" = some ⟨[], some (.array .byte)⟩ := by decide +kernel
theorem d42_150_8 : Dk k42_150 8 (.astore_n 3) 1 := own_k
theorem d42_150_9 : Dk k42_150 9 (.aload_n 1) 1 := own_k
theorem d42_150_10 : Dk k42_150 10 (.invokevirtual 549) 3 := own_k
theorem d42_150_13 : Dk k42_150 13 (.istore 4) 2 := own_k
theorem d42_150_15 : Dk k42_150 15 (.aload_n 1) 1 := own_k
theorem d42_150_16 : Dk k42_150 16 (.invokevirtual 1047) 3 := own_k
theorem d42_150_19 : Dk k42_150 19 (.ifCond .eq 22) 3 := own_k
theorem d42_150_22 : Dk k42_150 22 (.aload_n 0) 1 := own_k
theorem d42_150_23 : Dk k42_150 23 (.iconst 0) 1 := own_k
theorem d42_150_24 : Dk k42_150 24 (.putfield 15) 3 := own_k
theorem d42_150_27 : Dk k42_150 27 (.aload_n 0) 1 := own_k
theorem d42_150_28 : Dk k42_150 28 (.aload_n 3) 1 := own_k
theorem d42_150_29 : Dk k42_150 29 (.iconst 0) 1 := own_k
theorem d42_150_30 : Dk k42_150 30 (.iload 4) 2 := own_k
theorem d42_150_32 : Dk k42_150 32 (.invokestatic 54) 3 := own_k
theorem d42_150_35 : Dk k42_150 35 (.putfield 9) 3 := own_k
theorem d42_150_38 : Dk k42_150 38 (.goto 59) 3 := own_k
theorem d42_150_97 : Dk k42_150 97 .return_ 1 := own_k
theorem d42_150_41 : Dk k42_150 41 (.getstatic 38) 3 := own_k
theorem d42_150_44 : Dk k42_150 44 (.ifCond .eq 35) 3 := own_k
theorem d42_150_47 : Dk k42_150 47 (.aload_n 1) 1 := own_k
theorem d42_150_48 : Dk k42_150 48 (.getfield 1048) 3 := own_k
theorem d42_150_51 : Dk k42_150 51 (.ifCond .eq 28) 3 := own_k
theorem d42_150_79 : Dk k42_150 79 (.aload_n 0) 1 := own_k
theorem d42_150_80 : Dk k42_150 80 (.iconst 1) 1 := own_k
theorem d42_150_81 : Dk k42_150 81 (.putfield 15) 3 := own_k
theorem d42_150_84 : Dk k42_150 84 (.aload_n 0) 1 := own_k
theorem d42_150_85 : Dk k42_150 85 (.aload_n 3) 1 := own_k
theorem d42_150_86 : Dk k42_150 86 (.iconst 0) 1 := own_k
theorem d42_150_87 : Dk k42_150 87 (.iload 4) 2 := own_k
theorem d42_150_89 : Dk k42_150 89 (.iconst 1) 1 := own_k
theorem d42_150_90 : Dk k42_150 90 .ishl 1 := own_k
theorem d42_150_91 : Dk k42_150 91 (.invokestatic 54) 3 := own_k
theorem d42_150_94 : Dk k42_150 94 (.putfield 9) 3 := own_k
theorem ef_rm_sia (m : MethodId) (x0 : Addr) (x1 : Addr) : entryFrame m #[(.ref x0), (.ref x1), .null] 5 = mkF m 0 #[.val (.ref x0), .val (.ref x1), .val .null, .unset, .unset] [] := by
   first | (simp [entryFrame, mkF, argsToLocals, Value.category]; done) | rfl
set_option maxRecDepth 65536 in
set_option maxHeartbeats 40000000 in
theorem rm_sia (l : Launch) (Z : State) (a0 : Array Value) (hw : ∀ d ∈ tables_1, d.before a0 Z = true) (ws : List Jvm.Cond) (x b v : Addr) (kv : ClassId) (cd : Int32) (cs : List Int32) (G1 : Int32) (G3 : Value) (h0 : Heap) (n0 : Nat) (O0 : Old Z n0 h0) (O2 : Sta Z Z.heap "java/lang/String" "COMPACT_STRINGS" "Z" (.int G1)) (P5 : ¬ (G1 = (0 : Int32))) (O4 : Sta Z Z.heap "jdk/internal/util/Preconditions" "SIOOBE_FORMATTER" "Ljava/util/function/BiFunction;" G3) (rG3 : G3.isRef = true) (OA : Sta Z Z.heap "java/lang/StringUTF16" "$assertionsDisabled" "Z" (.int (1 : Int32))) (OH : Sta Z Z.heap "java/lang/StringUTF16" "HI_BYTE_SHIFT" "I" (.int (0 : Int32))) (OL : Sta Z Z.heap "java/lang/StringUTF16" "LO_BYTE_SHIFT" "I" (.int (8 : Int32))) (E_x : Exa Z h0 x "java/lang/String") (Fv_x : Fld Z h0 x "java/lang/String" "value" "[B" .null) (Fc_x : Fld Z h0 x "java/lang/String" "coder" "B" (.int (0 : Int32))) (g_x : n0 ≤ x) (E_b : Exa Z h0 b "java/lang/StringBuilder") (Fv_b : Fld Z h0 b "java/lang/AbstractStringBuilder" "value" "[B" (.ref v)) (Fc_b : Fld Z h0 b "java/lang/AbstractStringBuilder" "coder" "B" (.int cd)) (Fn_b : Fld Z h0 b "java/lang/AbstractStringBuilder" "count" "I" (.int (Int32.ofNat cs.length))) (Fm_b : Fld Z h0 b "java/lang/AbstractStringBuilder" "maybeLatin1" "Z" (.int (0 : Int32))) (V_v : Arv Z h0 v kv .byte (own_sbN cd) (own_sbv cd cs) (.int (0 : Int32))) (hcd : own_cdi cd cs) (g_b : n0 ≤ b) (g_v : n0 ≤ v) (hxb : x ≠ b) (hl16 : cs.length < 16) :
    MetFree l (⟨"java/lang/String", "<init>", "(Ljava/lang/AbstractStringBuilder;Ljava/lang/Void;)V"⟩ : MethodName) (head1 (Jvm.Cond.code (⟨"java/lang/String", "<init>", "(Ljava/lang/AbstractStringBuilder;Ljava/lang/Void;)V"⟩ : MethodName) jdk_42_method_150_code 5 none :: ws) ⟨3, 1, 32, 49⟩) (fun aA U => aA = #[(.ref x), (.ref b), .null] ∧ Z.Warmed39 U.vm ∧ U.heap = h0) (fun _ _ _ _ _ => True) (fun _ U oO U' => ∃ rV rL, oO = .returned rV ∧ QSt Z x cs h0 n0 rV U'.heap rL ∧ FrameEnd U oO U' rL 1 32) := by
  refine MetFree.of_bodySF (plainFor_of_name pn_0) hisR ?_
  intro p e s m args below meth cC s₁ Bd hml0 hP hK
  obtain ⟨rfl, hZ, hh⟩ := hP
  have hx := Bd.exec
  have hby := Bd.bytes
  have hml : cC.maxLocals = 5 := hml0
  have hown : s.vm.findClass "java/lang/String" = some m.cls := findClass_of_methodNamed Bd.named
  have hnm := (name_of_methodNamed Bd.named Bd.method).1
  have hrt := Bd.returns
  have hlk : meth.locks = false := Bd.notSynchronized
  have X0 : Stand p l e ⟨3, 1, 32, 49⟩ s m #[(.ref x), (.ref b), .null] below meth cC s₁ [] 0 0 := Stand.of_body Bd
  have e0 : s₁.heap = h0 := by rw [← hh, Bd.state]; rfl
  have N0 := Fr.nil n0
  have Z0 : n0 ≤ h0.size := O0.1 ▸ O0.2.1
  show own_Go p e below (s₁.setTop (entryFrame m #[(.ref x), (.ref b), .null] 5)) (fun oO U' => ∃ rV rL, oO = .returned rV ∧ QSt Z x cs h0 n0 rV U'.heap rL ∧ FrameEnd s oO U' rL 1 32)
  refine own_go (fun _ k => castTop (ef_rm_sia m x b) k) ?_
  have hbv := Exa.neArv E_b V_v (tw hw 27 rfl)
  have hxv := Exa.neArv E_x V_v (tw hw 1 rfl)
  rcases id hcd with ⟨cd0, hall⟩ | ⟨cd0, hex⟩
  · subst cd0
    refine og (fun _ k => XS.aloadN X0.here hx rfl (hb hby d42_150_0) rfl rfl k) ?_
    obtain ⟨T253, X253, e253, st253⟩ := initO X0 hx hZ hown (tw hw 11 rfl) (tw hw 12 rfl) (tw hw 13 rfl) e0 (g := (mkF m 1 #[.val (.ref x), .val (.ref b), .val .null, .unset, .unset] [(.ref x)])) rfl (by rw [hml]; rfl) rfl (hb hby d42_150_1) (by decide) (W := 0) (by show 2 * 0 + _ ≤ _; exact Nat.le_of_eq rfl) (by decide)
    refine own_go st253 ?_
    try dsimp only [mkF]
    refine og (fun _ k => XS.aloadN X253.here hx rfl (hb hby d42_150_4) rfl rfl k) ?_
    obtain ⟨cq254, kq254, q254a, q254b, q254c⟩ := isOf hZ e253 E_b
    obtain ⟨v254, _, ⟨T254, L254, k254, n254⟩, -, X254, ⟨Lc254, hQ254, l254, y254, z254⟩, st254⟩ := X253.virtualBack hx (y := (⟨"java/lang/AbstractStringBuilder", "getValue", "()[B"⟩ : MethodName)) (z := (⟨"java/lang/AbstractStringBuilder", "getValue", "()[B"⟩ : MethodName)) hown (mvT hZ (tw hw 67 rfl)) (mvT hZ (tw hw 68 rfl)) (notFace_of_selects (args := #[]) (mvT hZ (tw hw 70 rfl))) (mvT hZ (tw hw 70 rfl)) (mvT hZ (tw hw 69 rfl)) (by decide) (backOf (W := 0) (rm_gv l Z a0 hw [] b v h0 n0 O0 E_b Fv_b) hZ (tw hw 71 rfl) (tw hw 36 rfl) (by decide) (by decide)) q254a q254c (g := (mkF m 5 #[.val (.ref x), .val (.ref b), .val .null, .unset, .unset] [(.ref b)])) rfl (by rw [hml]; rfl) (Steps.refl _) (argsL := []) (rest := []) (lenOf pd_29 rfl) rfl (by show 2 * 0 + _ ≤ _; exact Nat.le_of_eq rfl) (hb hby d42_150_5) (fun _ _ => ⟨rfl, e253, (by decide : 0 + 0 ≤ _), (by decide : 0 + 0 ≤ _)⟩)
    dsimp only [Pt.U, Pt.locs, Pt.cells, Pt.slots] at X254 l254 y254 z254 st254 hQ254
    subst l254 y254 z254
    refine own_gos st254 ?_
    obtain ⟨rfl, Nq254, e254⟩ := hQ254
    have N254 := Fr.app N0 Nq254
    refine og (fun _ k => XS.astoreN X254.here hx rfl (hb hby d42_150_8) rfl rfl (l' := #[.val (.ref x), .val (.ref b), .val .null, .val (.ref v), .unset]) rfl k) ?_
    refine og (fun _ k => XS.aloadN X254.here hx rfl (hb hby d42_150_9) rfl rfl k) ?_
    obtain ⟨cq255, kq255, q255a, q255b, q255c⟩ := isOf hZ e254 E_b
    obtain ⟨v255, _, ⟨T255, L255, k255, n255⟩, -, X255, ⟨Lc255, hQ255, l255, y255, z255⟩, st255⟩ := X254.virtualBack hx (y := (⟨"java/lang/AbstractStringBuilder", "length", "()I"⟩ : MethodName)) (z := (⟨"java/lang/StringBuilder", "length", "()I"⟩ : MethodName)) hown (mvT hZ (tw hw 72 rfl)) (mvT hZ (tw hw 73 rfl)) (own_nf (args := #[]) (mvT hZ (tw hw 70 rfl)) rfl) (mvT hZ (tw hw 75 rfl)) (mvT hZ (tw hw 76 rfl)) (by decide) (backOf (W := 0) (rm_sl l Z a0 hw [] b (Int32.ofNat cs.length) h0 n0 O0 E_b Fn_b) hZ (tw hw 77 rfl) (tw hw 28 rfl) (by decide) (by decide)) q255a q255c (g := (mkF m 10 #[.val (.ref x), .val (.ref b), .val .null, .val (.ref v), .unset] [(.ref b)])) rfl (by rw [hml]; rfl) (Steps.refl _) (argsL := []) (rest := []) (lenOf pd_9 rfl) rfl (by show 2 * 0 + _ ≤ _; exact Nat.le_of_eq rfl) (hb hby d42_150_10) (fun _ _ => ⟨rfl, e254, (by decide : 0 + 0 ≤ _), (by decide : 0 + 0 ≤ _)⟩)
    dsimp only [Pt.U, Pt.locs, Pt.cells, Pt.slots] at X255 l255 y255 z255 st255 hQ255
    subst l255 y255 z255
    refine own_gos st255 ?_
    obtain ⟨rfl, Nq255, e255⟩ := hQ255
    have N255 := Fr.app N254 Nq255
    try dsimp only [mkF]
    refine og (fun _ k => XS.istore X255.here hx rfl (hb hby d42_150_13) rfl (l' := #[.val (.ref x), .val (.ref b), .val .null, .val (.ref v), .val (.int (Int32.ofNat cs.length))]) rfl k) ?_
    refine og (fun _ k => XS.aloadN X255.here hx rfl (hb hby d42_150_15) rfl rfl k) ?_
    obtain ⟨cq256, kq256, q256a, q256b, q256c⟩ := isOf hZ e255 E_b
    obtain ⟨v256, _, ⟨T256, L256, k256, n256⟩, -, X256, ⟨Lc256, hQ256, l256, y256, z256⟩, st256⟩ := X255.virtualBack hx (y := (⟨"java/lang/AbstractStringBuilder", "isLatin1", "()Z"⟩ : MethodName)) (z := (⟨"java/lang/AbstractStringBuilder", "isLatin1", "()Z"⟩ : MethodName)) hown (mvT hZ (tw hw 83 rfl)) (mvT hZ (tw hw 84 rfl)) (notFace_of_selects (args := #[]) (mvT hZ (tw hw 86 rfl))) (mvT hZ (tw hw 86 rfl)) (mvT hZ (tw hw 85 rfl)) (by decide) (backOf (W := 0) (rm_bl0 l Z a0 hw [] b G1 h0 n0 O0 E_b Fc_b O2 P5) hZ (tw hw 87 rfl) (tw hw 36 rfl) (by decide) (by decide)) q256a q256c (g := (mkF m 16 #[.val (.ref x), .val (.ref b), .val .null, .val (.ref v), .val (.int (Int32.ofNat cs.length))] [(.ref b)])) rfl (by rw [hml]; rfl) (Steps.refl _) (argsL := []) (rest := []) (lenOf pd_17 rfl) rfl (by show 2 * 0 + _ ≤ _; exact Nat.le_of_eq rfl) (hb hby d42_150_16) (fun _ _ => ⟨rfl, e255, (by decide : 0 + 0 ≤ _), (by decide : 0 + 0 ≤ _)⟩)
    dsimp only [Pt.U, Pt.locs, Pt.cells, Pt.slots] at X256 l256 y256 z256 st256 hQ256
    subst l256 y256 z256
    refine own_gos st256 ?_
    obtain ⟨rfl, Nq256, e256⟩ := hQ256
    have N256 := Fr.app N255 Nq256
    refine og (fun _ k => XS.ifNo X256.here hx rfl (hb hby d42_150_19) rfl ((if0 _ _).trans (feq (by decide : ¬ ((1 : Int32) = (0 : Int32)))).1) k) ?_
    refine og (fun _ k => XS.aloadN X256.here hx rfl (hb hby d42_150_22) rfl rfl k) ?_
    try dsimp only [mkF]
    refine og (fun _ k => XS.iconst X256.here hx rfl (hb hby d42_150_23) k) ?_
    obtain ⟨T257, h257, X257, e257, W257, st257⟩ := putFN X256 hx hZ hown (tw hw 21 rfl) Via.refl e256 Fc_x E_x (Or.inr ⟨(tw hw 17 rfl), rfl, hnm⟩) (tw hw 1 rfl) (ty := .byte) (v' := (.int (0 : Int32))) (by decide) rfl rfl (g := (mkF m 24 #[.val (.ref x), .val (.ref b), .val .null, .val (.ref v), .val (.int (Int32.ofNat cs.length))] [(.int (0 : Int32)), (.ref x)])) rfl rfl (hb hby d42_150_24)
    refine own_go st257 ?_
    have N257 := Fr.snoc X257 N256 g_x
    have Fw257 := Fc_x.same W257
    refine og (fun _ k => XS.aloadN X257.here hx rfl (hb hby d42_150_27) rfl rfl k) ?_
    refine og (fun _ k => XS.aloadN X257.here hx rfl (hb hby d42_150_28) rfl rfl k) ?_
    refine og (fun _ k => XS.iconst X257.here hx rfl (hb hby d42_150_29) k) ?_
    try dsimp only [mkF]
    refine og (fun _ k => XS.iload X257.here hx rfl (hb hby d42_150_30) rfl k) ?_
    have f258 := (V_v.other W257 (Ne.symm hxv))
    obtain ⟨v259, _, ⟨T259, L259, k259, n259⟩, -, X259, ⟨Lc259, hQ259, l259, y259, z259⟩, st259⟩ := Jvm.LawKit.callS X257 hx (y := (⟨"java/util/Arrays", "copyOfRange", "([BII)[B"⟩ : MethodName)) hown (mvT hZ (tw hw 88 rfl)) (mvT hZ (tw hw 89 rfl)) (mvT hZ (tw hw 90 rfl)) (mvT hZ (tw hw 91 rfl)) (by decide) (backOf (W := 1) (rm_cor l Z a0 hw [] v kv 16 (own_sb0 cs) cs.length (own_lat cs) h257 n0 (O0.wr W257 g_x) f258 hl16 (by decide) (by omega) (own_take0 (by omega)).symm) hZ (tw hw 91 rfl) (tw hw 90 rfl) (by decide) (by decide)) (g := (mkF m 32 #[.val (.ref x), .val (.ref b), .val .null, .val (.ref v), .val (.int (Int32.ofNat cs.length))] [(.int (Int32.ofNat cs.length)), (.int (0 : Int32)), (.ref v), (.ref x)])) rfl (by rw [hml]; rfl) (argsL := [(.ref v), (.int (0 : Int32)), (.int (Int32.ofNat cs.length))]) (rest := [(.ref x)]) (lenOf pd_28 rfl) rfl (by show 2 * 0 + _ ≤ _; exact Nat.le_of_eq rfl) (hb hby d42_150_32) (fun _ _ => ⟨rfl, e257, (by decide : 0 + 1 ≤ _), (by decide : 0 + 32 ≤ _)⟩)
    dsimp only [Pt.U, Pt.locs, Pt.cells, Pt.slots] at X259 l259 y259 z259 st259 hQ259
    subst l259 y259 z259
    refine own_go st259 ?_
    obtain ⟨t259, kt259, rfl, Nq259, K259, tg259, Vt259⟩ := hQ259
    have N259 := Fr.app N257 Nq259
    have f260 := ((Fv_x.other W257 (Or.inr (slot_ne (Or.inr (tw hw 16 rfl)) (Or.inr (tw hw 17 rfl)) (by decide) (t := (.array .byte)) (t' := .byte) (by decide) (by decide)))).keep K259 nin0)
    have f261 := ((E_x.wr W257).keep K259)
    obtain ⟨T262, h262, X262, e262, W262, st262⟩ := putF X259 hx hZ hown (host := "") (Or.inl (tw hw 20 rfl)) Via.refl (rfl : T259.heap = T259.heap) f260 f261 (Or.inr ⟨(tw hw 16 rfl), rfl, hnm⟩) (tw hw 1 rfl) (ty := (.array .byte)) (by decide) rfl rfl (g := (mkF m 35 #[.val (.ref x), .val (.ref b), .val .null, .val (.ref v), .val (.int (Int32.ofNat cs.length))] [(.ref t259), (.ref x)])) rfl rfl (hb hby d42_150_35)
    refine own_go st262 ?_
    have N262 := Fr.snoc X262 N259 g_x
    have Fw262 := f260.same W262
    refine og (fun _ k => XS.goto X262.here hx rfl (pc0 := 38) (pc' := 97) rfl (hb hby d42_150_38) (by decide) (by decide) k) ?_
    have f263 := ((((Keep.refl h0 [x]).wr W257 (Or.inl (List.mem_of_getElem? (i := 0) rfl))).trans K259 all0).wr W262 (Or.inl (List.mem_of_getElem? (i := 0) rfl)))
    have f264 := ((Fw257.keep K259 nin0).other W262 (Or.inr (slot_ne (Or.inr (tw hw 17 rfl)) (Or.inr (tw hw 16 rfl)) (by decide) (t := .byte) (t' := (.array .byte)) (by decide) (by decide))))
    have ne265 : x ≠ t259 := Nat.ne_of_lt (Nat.lt_of_lt_of_le (Nat.lt_of_lt_of_le E_x.lt (Keep.of_wr W257).1) tg259)
    have f266 := (Vt259.other W262 (Ne.symm ne265))
    refine own_fin (v := none) X262 (fun _ => rfl) hlk (fun fs hr => X262.returnOut hx hrt (hb hby d42_150_97) hr) (QQ := QSt Z x cs h0 n0) ?_ (by decide) (by decide)
    rw [e262]
    exact ⟨t259, _, _, _, _, rfl, N262, f263, Fw262, f264, f266, Or.inl ⟨rfl, rfl, rfl, hall⟩⟩
  · subst cd0
    refine og (fun _ k => XS.aloadN X0.here hx rfl (hb hby d42_150_0) rfl rfl k) ?_
    obtain ⟨T267, X267, e267, st267⟩ := initO X0 hx hZ hown (tw hw 11 rfl) (tw hw 12 rfl) (tw hw 13 rfl) e0 (g := (mkF m 1 #[.val (.ref x), .val (.ref b), .val .null, .unset, .unset] [(.ref x)])) rfl (by rw [hml]; rfl) rfl (hb hby d42_150_1) (by decide) (W := 0) (by show 2 * 0 + _ ≤ _; exact Nat.le_of_eq rfl) (by decide)
    refine own_go st267 ?_
    try dsimp only [mkF]
    refine og (fun _ k => XS.aloadN X267.here hx rfl (hb hby d42_150_4) rfl rfl k) ?_
    obtain ⟨cq268, kq268, q268a, q268b, q268c⟩ := isOf hZ e267 E_b
    obtain ⟨v268, _, ⟨T268, L268, k268, n268⟩, -, X268, ⟨Lc268, hQ268, l268, y268, z268⟩, st268⟩ := X267.virtualBack hx (y := (⟨"java/lang/AbstractStringBuilder", "getValue", "()[B"⟩ : MethodName)) (z := (⟨"java/lang/AbstractStringBuilder", "getValue", "()[B"⟩ : MethodName)) hown (mvT hZ (tw hw 67 rfl)) (mvT hZ (tw hw 68 rfl)) (notFace_of_selects (args := #[]) (mvT hZ (tw hw 70 rfl))) (mvT hZ (tw hw 70 rfl)) (mvT hZ (tw hw 69 rfl)) (by decide) (backOf (W := 0) (rm_gv l Z a0 hw [] b v h0 n0 O0 E_b Fv_b) hZ (tw hw 71 rfl) (tw hw 36 rfl) (by decide) (by decide)) q268a q268c (g := (mkF m 5 #[.val (.ref x), .val (.ref b), .val .null, .unset, .unset] [(.ref b)])) rfl (by rw [hml]; rfl) (Steps.refl _) (argsL := []) (rest := []) (lenOf pd_29 rfl) rfl (by show 2 * 0 + _ ≤ _; exact Nat.le_of_eq rfl) (hb hby d42_150_5) (fun _ _ => ⟨rfl, e267, (by decide : 0 + 0 ≤ _), (by decide : 0 + 0 ≤ _)⟩)
    dsimp only [Pt.U, Pt.locs, Pt.cells, Pt.slots] at X268 l268 y268 z268 st268 hQ268
    subst l268 y268 z268
    refine own_gos st268 ?_
    obtain ⟨rfl, Nq268, e268⟩ := hQ268
    have N268 := Fr.app N0 Nq268
    refine og (fun _ k => XS.astoreN X268.here hx rfl (hb hby d42_150_8) rfl rfl (l' := #[.val (.ref x), .val (.ref b), .val .null, .val (.ref v), .unset]) rfl k) ?_
    refine og (fun _ k => XS.aloadN X268.here hx rfl (hb hby d42_150_9) rfl rfl k) ?_
    obtain ⟨cq269, kq269, q269a, q269b, q269c⟩ := isOf hZ e268 E_b
    obtain ⟨v269, _, ⟨T269, L269, k269, n269⟩, -, X269, ⟨Lc269, hQ269, l269, y269, z269⟩, st269⟩ := X268.virtualBack hx (y := (⟨"java/lang/AbstractStringBuilder", "length", "()I"⟩ : MethodName)) (z := (⟨"java/lang/StringBuilder", "length", "()I"⟩ : MethodName)) hown (mvT hZ (tw hw 72 rfl)) (mvT hZ (tw hw 73 rfl)) (own_nf (args := #[]) (mvT hZ (tw hw 70 rfl)) rfl) (mvT hZ (tw hw 75 rfl)) (mvT hZ (tw hw 76 rfl)) (by decide) (backOf (W := 0) (rm_sl l Z a0 hw [] b (Int32.ofNat cs.length) h0 n0 O0 E_b Fn_b) hZ (tw hw 77 rfl) (tw hw 28 rfl) (by decide) (by decide)) q269a q269c (g := (mkF m 10 #[.val (.ref x), .val (.ref b), .val .null, .val (.ref v), .unset] [(.ref b)])) rfl (by rw [hml]; rfl) (Steps.refl _) (argsL := []) (rest := []) (lenOf pd_9 rfl) rfl (by show 2 * 0 + _ ≤ _; exact Nat.le_of_eq rfl) (hb hby d42_150_10) (fun _ _ => ⟨rfl, e268, (by decide : 0 + 0 ≤ _), (by decide : 0 + 0 ≤ _)⟩)
    dsimp only [Pt.U, Pt.locs, Pt.cells, Pt.slots] at X269 l269 y269 z269 st269 hQ269
    subst l269 y269 z269
    refine own_gos st269 ?_
    obtain ⟨rfl, Nq269, e269⟩ := hQ269
    have N269 := Fr.app N268 Nq269
    try dsimp only [mkF]
    refine og (fun _ k => XS.istore X269.here hx rfl (hb hby d42_150_13) rfl (l' := #[.val (.ref x), .val (.ref b), .val .null, .val (.ref v), .val (.int (Int32.ofNat cs.length))]) rfl k) ?_
    refine og (fun _ k => XS.aloadN X269.here hx rfl (hb hby d42_150_15) rfl rfl k) ?_
    obtain ⟨cq270, kq270, q270a, q270b, q270c⟩ := isOf hZ e269 E_b
    obtain ⟨v270, _, ⟨T270, L270, k270, n270⟩, -, X270, ⟨Lc270, hQ270, l270, y270, z270⟩, st270⟩ := X269.virtualBack hx (y := (⟨"java/lang/AbstractStringBuilder", "isLatin1", "()Z"⟩ : MethodName)) (z := (⟨"java/lang/AbstractStringBuilder", "isLatin1", "()Z"⟩ : MethodName)) hown (mvT hZ (tw hw 83 rfl)) (mvT hZ (tw hw 84 rfl)) (notFace_of_selects (args := #[]) (mvT hZ (tw hw 86 rfl))) (mvT hZ (tw hw 86 rfl)) (mvT hZ (tw hw 85 rfl)) (by decide) (backOf (W := 0) (rm_bl1 l Z a0 hw [] b G1 h0 n0 O0 E_b Fc_b O2 P5) hZ (tw hw 87 rfl) (tw hw 36 rfl) (by decide) (by decide)) q270a q270c (g := (mkF m 16 #[.val (.ref x), .val (.ref b), .val .null, .val (.ref v), .val (.int (Int32.ofNat cs.length))] [(.ref b)])) rfl (by rw [hml]; rfl) (Steps.refl _) (argsL := []) (rest := []) (lenOf pd_17 rfl) rfl (by show 2 * 0 + _ ≤ _; exact Nat.le_of_eq rfl) (hb hby d42_150_16) (fun _ _ => ⟨rfl, e269, (by decide : 0 + 0 ≤ _), (by decide : 0 + 0 ≤ _)⟩)
    dsimp only [Pt.U, Pt.locs, Pt.cells, Pt.slots] at X270 l270 y270 z270 st270 hQ270
    subst l270 y270 z270
    refine own_gos st270 ?_
    obtain ⟨rfl, Nq270, e270⟩ := hQ270
    have N270 := Fr.app N269 Nq270
    refine og (fun _ k => XS.ifYes X270.here hx rfl (pc0 := 19) (pc' := 41) rfl (hb hby d42_150_19) rfl ((if0 _ _).trans (teq (by decide : (0 : Int32) = (0 : Int32))).1) (by decide) (by decide) k) ?_
    obtain ⟨T271, X271, e271, st271⟩ := getS2 X270 hx hZ hown (host := "") (Or.inl (tw hw 54 rfl)) Via.refl e270 (O2.ext O0.2) (g := (mkF m 41 #[.val (.ref x), .val (.ref b), .val .null, .val (.ref v), .val (.int (Int32.ofNat cs.length))] [])) rfl (hb hby d42_150_41)
    refine own_go st271 ?_
    try dsimp only [mkF]
    refine og (fun _ k => XS.ifNo X271.here hx rfl (hb hby d42_150_44) rfl ((if0 _ _).trans (feq P5).1) k) ?_
    refine og (fun _ k => XS.aloadN X271.here hx rfl (hb hby d42_150_47) rfl rfl k) ?_
    obtain ⟨T272, X272, e272, st272⟩ := getF X271 hx hZ hown (host := "") (Or.inl (tw hw 257 rfl)) Via.refl e271 Fm_b (g := (mkF m 48 #[.val (.ref x), .val (.ref b), .val .null, .val (.ref v), .val (.int (Int32.ofNat cs.length))] [(.ref b)])) rfl rfl (hb hby d42_150_48)
    refine own_go st272 ?_
    refine og (fun _ k => XS.ifYes X272.here hx rfl (pc0 := 51) (pc' := 79) rfl (hb hby d42_150_51) rfl ((if0 _ _).trans (teq (by decide : (0 : Int32) = (0 : Int32))).1) (by decide) (by decide) k) ?_
    refine og (fun _ k => XS.aloadN X272.here hx rfl (hb hby d42_150_79) rfl rfl k) ?_
    try dsimp only [mkF]
    refine og (fun _ k => XS.iconst X272.here hx rfl (hb hby d42_150_80) k) ?_
    obtain ⟨T273, h273, X273, e273, W273, st273⟩ := putFN X272 hx hZ hown (tw hw 21 rfl) Via.refl e272 Fc_x E_x (Or.inr ⟨(tw hw 17 rfl), rfl, hnm⟩) (tw hw 1 rfl) (ty := .byte) (v' := (.int (1 : Int32))) (by decide) rfl rfl (g := (mkF m 81 #[.val (.ref x), .val (.ref b), .val .null, .val (.ref v), .val (.int (Int32.ofNat cs.length))] [(.int (1 : Int32)), (.ref x)])) rfl rfl (hb hby d42_150_81)
    refine own_go st273 ?_
    have N273 := Fr.snoc X273 N270 g_x
    have Fw273 := Fc_x.same W273
    refine og (fun _ k => XS.aloadN X273.here hx rfl (hb hby d42_150_84) rfl rfl k) ?_
    refine og (fun _ k => XS.aloadN X273.here hx rfl (hb hby d42_150_85) rfl rfl k) ?_
    refine og (fun _ k => XS.iconst X273.here hx rfl (hb hby d42_150_86) k) ?_
    try dsimp only [mkF]
    refine og (fun _ k => XS.iload X273.here hx rfl (hb hby d42_150_87) rfl k) ?_
    refine og (fun _ k => XS.iconst X273.here hx rfl (hb hby d42_150_89) k) ?_
    refine og (fun _ k => XS.ishl X273.here hx rfl (hb hby d42_150_90) rfl k) ?_
    show own_Go p e below (T273.setTop (mkF m 91 #[.val (.ref x), .val (.ref b), .val .null, .val (.ref v), .val (.int (Int32.ofNat cs.length))] [(.int ((Int32.ofNat cs.length) <<< ((1 : Int32) &&& 31))), (.int (0 : Int32)), (.ref v), (.ref x)])) _
    rw [own_shl1 (by omega : cs.length ≤ 4000)]
    have f274 := (V_v.other W273 (Ne.symm hxv))
    obtain ⟨v275, _, ⟨T275, L275, k275, n275⟩, -, X275, ⟨Lc275, hQ275, l275, y275, z275⟩, st275⟩ := Jvm.LawKit.callS X273 hx (y := (⟨"java/util/Arrays", "copyOfRange", "([BII)[B"⟩ : MethodName)) hown (mvT hZ (tw hw 88 rfl)) (mvT hZ (tw hw 89 rfl)) (mvT hZ (tw hw 90 rfl)) (mvT hZ (tw hw 91 rfl)) (by decide) (backOf (W := 1) (rm_cor l Z a0 hw [] v kv 32 (own_sb1 cs) (2 * cs.length) (StrChars.Road.wideBytes cs) h273 n0 (O0.wr W273 g_x) f274 (by omega) (by decide) (by omega) (own_take1 (by omega)).symm) hZ (tw hw 91 rfl) (tw hw 90 rfl) (by decide) (by decide)) (g := (mkF m 91 #[.val (.ref x), .val (.ref b), .val .null, .val (.ref v), .val (.int (Int32.ofNat cs.length))] [(.int (Int32.ofNat (2 * cs.length))), (.int (0 : Int32)), (.ref v), (.ref x)])) rfl (by rw [hml]; rfl) (argsL := [(.ref v), (.int (0 : Int32)), (.int (Int32.ofNat (2 * cs.length)))]) (rest := [(.ref x)]) (lenOf pd_28 rfl) rfl (by show 2 * 0 + _ ≤ _; exact Nat.le_of_eq rfl) (hb hby d42_150_91) (fun _ _ => ⟨rfl, e273, (by decide : 0 + 1 ≤ _), (by decide : 0 + 32 ≤ _)⟩)
    dsimp only [Pt.U, Pt.locs, Pt.cells, Pt.slots] at X275 l275 y275 z275 st275 hQ275
    subst l275 y275 z275
    refine own_go st275 ?_
    obtain ⟨t275, kt275, rfl, Nq275, K275, tg275, Vt275⟩ := hQ275
    have N275 := Fr.app N273 Nq275
    try dsimp only [mkF]
    have f276 := ((Fv_x.other W273 (Or.inr (slot_ne (Or.inr (tw hw 16 rfl)) (Or.inr (tw hw 17 rfl)) (by decide) (t := (.array .byte)) (t' := .byte) (by decide) (by decide)))).keep K275 nin0)
    have f277 := ((E_x.wr W273).keep K275)
    obtain ⟨T278, h278, X278, e278, W278, st278⟩ := putF X275 hx hZ hown (host := "") (Or.inl (tw hw 20 rfl)) Via.refl (rfl : T275.heap = T275.heap) f276 f277 (Or.inr ⟨(tw hw 16 rfl), rfl, hnm⟩) (tw hw 1 rfl) (ty := (.array .byte)) (by decide) rfl rfl (g := (mkF m 94 #[.val (.ref x), .val (.ref b), .val .null, .val (.ref v), .val (.int (Int32.ofNat cs.length))] [(.ref t275), (.ref x)])) rfl rfl (hb hby d42_150_94)
    refine own_go st278 ?_
    have N278 := Fr.snoc X278 N275 g_x
    have Fw278 := f276.same W278
    have f279 := ((((Keep.refl h0 [x]).wr W273 (Or.inl (List.mem_of_getElem? (i := 0) rfl))).trans K275 all0).wr W278 (Or.inl (List.mem_of_getElem? (i := 0) rfl)))
    have f280 := ((Fw273.keep K275 nin0).other W278 (Or.inr (slot_ne (Or.inr (tw hw 17 rfl)) (Or.inr (tw hw 16 rfl)) (by decide) (t := .byte) (t' := (.array .byte)) (by decide) (by decide))))
    have ne281 : x ≠ t275 := Nat.ne_of_lt (Nat.lt_of_lt_of_le (Nat.lt_of_lt_of_le E_x.lt (Keep.of_wr W273).1) tg275)
    have f282 := (Vt275.other W278 (Ne.symm ne281))
    refine own_fin (v := none) X278 (fun _ => rfl) hlk (fun fs hr => X278.returnOut hx hrt (hb hby d42_150_97) hr) (QQ := QSt Z x cs h0 n0) ?_ (by decide) (by decide)
    rw [e278]
    exact ⟨t275, _, _, _, _, rfl, N278, f279, Fw278, f280, f282, (hex.elim fun c hc => Or.inr ⟨rfl, rfl, rfl, c, hc.1, hc.2⟩)⟩

abbrev k42_53 := jdk_42_method_53_code
theorem d42_53_0 : Dk k42_53 0 (.aload_n 0) 1 := own_k
theorem d42_53_1 : Dk k42_53 1 (.aload_n 1) 1 := own_k
theorem d42_53_2 : Dk k42_53 2 .aconst_null 1 := own_k
theorem d42_53_3 : Dk k42_53 3 (.invokespecial 489) 3 := own_k
theorem pd_30 : parseMethodDescriptor "(Ljava/lang/AbstractStringBuilder;Ljava/lang/Void;)V" = some ⟨[(.object "java/lang/AbstractStringBuilder"), (.object "java/lang/Void")], none⟩ := by decide +kernel
theorem d42_53_6 : Dk k42_53 6 .return_ 1 := own_k
theorem ef_rm_sis (m : MethodId) (x0 : Addr) (x1 : Addr) : entryFrame m #[(.ref x0), (.ref x1)] 2 = mkF m 0 #[.val (.ref x0), .val (.ref x1)] [] := by
   first | (simp [entryFrame, mkF, argsToLocals, Value.category]; done) | rfl
set_option maxRecDepth 65536 in
set_option maxHeartbeats 40000000 in
theorem rm_sis (l : Launch) (Z : State) (a0 : Array Value) (hw : ∀ d ∈ tables_1, d.before a0 Z = true) (ws : List Jvm.Cond) (x b v : Addr) (kv : ClassId) (cd : Int32) (cs : List Int32) (G1 : Int32) (G3 : Value) (h0 : Heap) (n0 : Nat) (O0 : Old Z n0 h0) (O2 : Sta Z Z.heap "java/lang/String" "COMPACT_STRINGS" "Z" (.int G1)) (P5 : ¬ (G1 = (0 : Int32))) (O4 : Sta Z Z.heap "jdk/internal/util/Preconditions" "SIOOBE_FORMATTER" "Ljava/util/function/BiFunction;" G3) (rG3 : G3.isRef = true) (OA : Sta Z Z.heap "java/lang/StringUTF16" "$assertionsDisabled" "Z" (.int (1 : Int32))) (OH : Sta Z Z.heap "java/lang/StringUTF16" "HI_BYTE_SHIFT" "I" (.int (0 : Int32))) (OL : Sta Z Z.heap "java/lang/StringUTF16" "LO_BYTE_SHIFT" "I" (.int (8 : Int32))) (E_x : Exa Z h0 x "java/lang/String") (Fv_x : Fld Z h0 x "java/lang/String" "value" "[B" .null) (Fc_x : Fld Z h0 x "java/lang/String" "coder" "B" (.int (0 : Int32))) (g_x : n0 ≤ x) (E_b : Exa Z h0 b "java/lang/StringBuilder") (Fv_b : Fld Z h0 b "java/lang/AbstractStringBuilder" "value" "[B" (.ref v)) (Fc_b : Fld Z h0 b "java/lang/AbstractStringBuilder" "coder" "B" (.int cd)) (Fn_b : Fld Z h0 b "java/lang/AbstractStringBuilder" "count" "I" (.int (Int32.ofNat cs.length))) (Fm_b : Fld Z h0 b "java/lang/AbstractStringBuilder" "maybeLatin1" "Z" (.int (0 : Int32))) (V_v : Arv Z h0 v kv .byte (own_sbN cd) (own_sbv cd cs) (.int (0 : Int32))) (hcd : own_cdi cd cs) (g_b : n0 ≤ b) (g_v : n0 ≤ v) (hxb : x ≠ b) (hl16 : cs.length < 16) :
    MetFree l (⟨"java/lang/String", "<init>", "(Ljava/lang/StringBuilder;)V"⟩ : MethodName) (head1 (Jvm.Cond.code (⟨"java/lang/String", "<init>", "(Ljava/lang/StringBuilder;)V"⟩ : MethodName) jdk_42_method_53_code 2 none :: ws) ⟨4, 1, 32, 65⟩) (fun aA U => aA = #[(.ref x), (.ref b)] ∧ Z.Warmed39 U.vm ∧ U.heap = h0) (fun _ _ _ _ _ => True) (fun _ U oO U' => ∃ rV rL, oO = .returned rV ∧ QSt Z x cs h0 n0 rV U'.heap rL ∧ FrameEnd U oO U' rL 1 32) := by
  refine MetFree.of_bodySF (plainFor_of_name pn_0) hisR ?_
  intro p e s m args below meth cC s₁ Bd hml0 hP hK
  obtain ⟨rfl, hZ, hh⟩ := hP
  have hx := Bd.exec
  have hby := Bd.bytes
  have hml : cC.maxLocals = 2 := hml0
  have hown : s.vm.findClass "java/lang/String" = some m.cls := findClass_of_methodNamed Bd.named
  have hnm := (name_of_methodNamed Bd.named Bd.method).1
  have hrt := Bd.returns
  have hlk : meth.locks = false := Bd.notSynchronized
  have X0 : Stand p l e ⟨4, 1, 32, 65⟩ s m #[(.ref x), (.ref b)] below meth cC s₁ [] 0 0 := Stand.of_body Bd
  have e0 : s₁.heap = h0 := by rw [← hh, Bd.state]; rfl
  have N0 := Fr.nil n0
  have Z0 : n0 ≤ h0.size := O0.1 ▸ O0.2.1
  show own_Go p e below (s₁.setTop (entryFrame m #[(.ref x), (.ref b)] 2)) (fun oO U' => ∃ rV rL, oO = .returned rV ∧ QSt Z x cs h0 n0 rV U'.heap rL ∧ FrameEnd s oO U' rL 1 32)
  refine own_go (fun _ k => castTop (ef_rm_sis m x b) k) ?_
  have hbv := Exa.neArv E_b V_v (tw hw 27 rfl)
  have hxv := Exa.neArv E_x V_v (tw hw 1 rfl)
  refine og (fun _ k => XS.aloadN X0.here hx rfl (hb hby d42_53_0) rfl rfl k) ?_
  refine og (fun _ k => XS.aloadN X0.here hx rfl (hb hby d42_53_1) rfl rfl k) ?_
  refine og (fun _ k => XS.aconstNull X0.here hx rfl (hb hby d42_53_2) k) ?_
  obtain ⟨v283, _, ⟨T283, L283, k283, n283⟩, -, X283, ⟨Lc283, hQ283, l283, y283, z283⟩, st283⟩ := X0.specialBack hx (y := (⟨"java/lang/String", "<init>", "(Ljava/lang/AbstractStringBuilder;Ljava/lang/Void;)V"⟩ : MethodName)) rfl hown (mvT hZ (tw hw 64 rfl)) (mvT hZ (tw hw 65 rfl)) (mvT hZ (tw hw 66 rfl)) (by decide) (backOf (W := 0) (rm_sia l Z a0 hw [] x b v kv cd cs G1 G3 h0 n0 O0 O2 P5 O4 rG3 OA OH OL E_x Fv_x Fc_x g_x E_b Fv_b Fc_b Fn_b Fm_b V_v hcd g_b g_v hxb hl16) hZ (tw hw 66 rfl) (tw hw 2 rfl) (by decide) (by decide)) (g := (mkF m 3 #[.val (.ref x), .val (.ref b)] [.null, (.ref b), (.ref x)])) rfl (by rw [hml]; rfl) (Steps.refl _) (a := x) (argsL := [(.ref b), .null]) (rest := []) (lenOf pd_30 rfl) rfl (by show 2 * 0 + _ ≤ _; exact Nat.le_of_eq rfl) (hb hby d42_53_3) (fun _ _ => ⟨rfl, e0, (by decide : 0 + 1 ≤ _), (by decide : 0 + 32 ≤ _)⟩)
  dsimp only [Pt.U, Pt.locs, Pt.cells, Pt.slots] at X283 l283 y283 z283 st283 hQ283
  subst l283 y283 z283
  refine own_gos st283 ?_
  obtain ⟨t283, kt283, cd283, N2283, vs283, rfl, Nq283, K283, Fv283, Fc283, Vt283, hC283⟩ := hQ283
  have N283 := Fr.app N0 Nq283
  try dsimp only [mkF]
  have f284 := ((Keep.refl h0 [x]).trans K283 (allS (Or.inl (List.mem_of_getElem? (i := 0) rfl)) all0))
  refine own_fin (v := none) X283 (fun _ => rfl) hlk (fun fs hr => X283.returnOut hx hrt (hb hby d42_53_6) hr) (QQ := QSt Z x cs h0 n0) ?_ (by decide) (by decide)
  exact ⟨t283, _, _, _, _, rfl, N283, f284, Fv283, Fc283, Vt283, hC283⟩

abbrev k67_42 := jdk_67_method_42_code
theorem d67_42_0 : Dk k67_42 0 (.new 18) 3 := own_k
theorem d67_42_3 : Dk k67_42 3 .dup 1 := own_k
theorem d67_42_4 : Dk k67_42 4 (.aload_n 0) 1 := own_k
theorem d67_42_5 : Dk k67_42 5 (.invokespecial 137) 3 := own_k
theorem pd_31 : parseMethodDescriptor "(Ljava/lang/StringBuilder;)V" = some ⟨[(.object "java/lang/StringBuilder")], none⟩ := by decide +kernel
theorem d67_42_8 : Dk k67_42 8 .areturn 1 := own_k
theorem ef_rm_tos (m : MethodId) (x0 : Addr) : entryFrame m #[(.ref x0)] 1 = mkF m 0 #[.val (.ref x0)] [] := by
   first | (simp [entryFrame, mkF, argsToLocals, Value.category]; done) | rfl
set_option maxRecDepth 65536 in
set_option maxHeartbeats 40000000 in
theorem rm_tos (l : Launch) (Z : State) (a0 : Array Value) (hw : ∀ d ∈ tables_1, d.before a0 Z = true) (ws : List Jvm.Cond) (b v : Addr) (kv : ClassId) (cd : Int32) (cs : List Int32) (G1 : Int32) (G3 : Value) (h0 : Heap) (n0 : Nat) (O0 : Old Z n0 h0) (O2 : Sta Z Z.heap "java/lang/String" "COMPACT_STRINGS" "Z" (.int G1)) (P5 : ¬ (G1 = (0 : Int32))) (O4 : Sta Z Z.heap "jdk/internal/util/Preconditions" "SIOOBE_FORMATTER" "Ljava/util/function/BiFunction;" G3) (rG3 : G3.isRef = true) (OA : Sta Z Z.heap "java/lang/StringUTF16" "$assertionsDisabled" "Z" (.int (1 : Int32))) (OH : Sta Z Z.heap "java/lang/StringUTF16" "HI_BYTE_SHIFT" "I" (.int (0 : Int32))) (OL : Sta Z Z.heap "java/lang/StringUTF16" "LO_BYTE_SHIFT" "I" (.int (8 : Int32))) (E_b : Exa Z h0 b "java/lang/StringBuilder") (Fv_b : Fld Z h0 b "java/lang/AbstractStringBuilder" "value" "[B" (.ref v)) (Fc_b : Fld Z h0 b "java/lang/AbstractStringBuilder" "coder" "B" (.int cd)) (Fn_b : Fld Z h0 b "java/lang/AbstractStringBuilder" "count" "I" (.int (Int32.ofNat cs.length))) (Fm_b : Fld Z h0 b "java/lang/AbstractStringBuilder" "maybeLatin1" "Z" (.int (0 : Int32))) (V_v : Arv Z h0 v kv .byte (own_sbN cd) (own_sbv cd cs) (.int (0 : Int32))) (hcd : own_cdi cd cs) (g_b : n0 ≤ b) (g_v : n0 ≤ v) (hl16 : cs.length < 16) :
    MetFree l (⟨"java/lang/StringBuilder", "toString", "()Ljava/lang/String;"⟩ : MethodName) (head1 (Jvm.Cond.code (⟨"java/lang/StringBuilder", "toString", "()Ljava/lang/String;"⟩ : MethodName) jdk_67_method_42_code 1 (some (.object "java/lang/String")) :: ws) ⟨5, 2, 36, 79⟩) (fun aA U => aA = #[(.ref b)] ∧ Z.Warmed39 U.vm ∧ U.heap = h0) (fun _ _ _ _ _ => True) (fun _ U oO U' => ∃ rV rL, oO = .returned rV ∧ QStrN Z cs h0 n0 rV U'.heap rL ∧ FrameEnd U oO U' rL 2 36) := by
  refine MetFree.of_bodySF (plainFor_of_name pn_3) hisR ?_
  intro p e s m args below meth cC s₁ Bd hml0 hP hK
  obtain ⟨rfl, hZ, hh⟩ := hP
  have hx := Bd.exec
  have hby := Bd.bytes
  have hml : cC.maxLocals = 1 := hml0
  have hown : s.vm.findClass "java/lang/StringBuilder" = some m.cls := findClass_of_methodNamed Bd.named
  have hnm := (name_of_methodNamed Bd.named Bd.method).1
  have hrt := Bd.returns
  have hlk : meth.locks = false := Bd.notSynchronized
  have X0 : Stand p l e ⟨5, 2, 36, 79⟩ s m #[(.ref b)] below meth cC s₁ [] 0 0 := Stand.of_body Bd
  have e0 : s₁.heap = h0 := by rw [← hh, Bd.state]; rfl
  have N0 := Fr.nil n0
  have Z0 : n0 ≤ h0.size := O0.1 ▸ O0.2.1
  show own_Go p e below (s₁.setTop (entryFrame m #[(.ref b)] 1)) (fun oO U' => ∃ rV rL, oO = .returned rV ∧ QStrN Z cs h0 n0 rV U'.heap rL ∧ FrameEnd s oO U' rL 2 36)
  refine own_go (fun _ k => castTop (ef_rm_tos m b) k) ?_
  have hbv := Exa.neArv E_b V_v (tw hw 27 rfl)
  obtain ⟨T285, h285, X285, e285, E285, A285, D285, U285, st285⟩ := newO X0 hx hZ hown (tw hw 60 rfl) (tw hw 1 rfl) (tw hw 2 rfl) e0 (g := (mkF m 0 #[.val (.ref b)] [])) rfl (hb hby d67_42_0) (by decide) (by decide)
  obtain ⟨b285, g285⟩ : ∃ z, z = h0.size := ⟨_, rfl⟩
  rw [← g285] at A285 D285 U285 st285
  refine own_go st285 ?_
  have F285_value : Fld Z h285 b285 "java/lang/String" "value" "[B" .null := D285 (Or.inr (tw hw 16 rfl)) (ty := (.array .byte)) (by decide)
  have F285_coder : Fld Z h285 b285 "java/lang/String" "coder" "B" (.int (0 : Int32)) := D285 (Or.inr (tw hw 17 rfl)) (ty := .byte) (by decide)
  refine og (fun _ k => XS.dup X285.here hx rfl (hb hby d67_42_3) rfl rfl k) ?_
  refine og (fun _ k => XS.aloadN X285.here hx rfl (hb hby d67_42_4) rfl rfl k) ?_
  have ne286 : b ≠ b285 := Nat.ne_of_lt (Nat.lt_of_lt_of_le E_b.lt (Nat.le_of_eq g285.symm))
  obtain ⟨v287, _, ⟨T287, L287, k287, n287⟩, -, X287, ⟨Lc287, hQ287, l287, y287, z287⟩, st287⟩ := X285.specialBack hx (y := (⟨"java/lang/String", "<init>", "(Ljava/lang/StringBuilder;)V"⟩ : MethodName)) rfl hown (mvT hZ (tw hw 61 rfl)) (mvT hZ (tw hw 62 rfl)) (mvT hZ (tw hw 63 rfl)) (by decide) (backOf (W := 1) (rm_sis l Z a0 hw [] b285 b v kv cd cs G1 G3 h285 n0 (O0.ext E285) O2 P5 O4 rG3 OA OH OL A285 F285_value F285_coder (Nat.le_trans Z0 (Nat.le_of_eq g285.symm)) (E_b.ext E285) (Fv_b.ext E285) (Fc_b.ext E285) (Fn_b.ext E285) (Fm_b.ext E285) (V_v.ext E285) hcd g_b g_v (Ne.symm ne286) hl16) hZ (tw hw 63 rfl) (tw hw 2 rfl) (by decide) (by decide)) (g := (mkF m 5 #[.val (.ref b)] [(.ref b), (.ref b285), (.ref b285)])) rfl (by rw [hml]; rfl) (Steps.refl _) (a := b285) (argsL := [(.ref b)]) (rest := [(.ref b285)]) (lenOf pd_31 rfl) rfl (by show 2 * 0 + _ ≤ _; exact Nat.le_of_eq rfl) (hb hby d67_42_5) (fun _ _ => ⟨rfl, e285, (by decide : 1 + 1 ≤ _), (by decide : 4 + 32 ≤ _)⟩)
  dsimp only [Pt.U, Pt.locs, Pt.cells, Pt.slots] at X287 l287 y287 z287 st287 hQ287
  subst l287 y287 z287
  refine own_gos st287 ?_
  obtain ⟨t287, kt287, cd287, N2287, vs287, rfl, Nq287, K287, Fv287, Fc287, Vt287, hC287⟩ := hQ287
  have N287 := Fr.app N0 Nq287
  try dsimp only [mkF]
  have f288 := (((Keep.refl h0 []).ext E285).trans K287 (allS (Or.inr (Nat.le_of_eq g285.symm)) all0))
  refine own_fin (v := (some (.ref b285))) X287 (fun h => by rw [hrt] at h; cases h) hlk (fun fs hr => retR X287 hx hrt (by rfl) rfl rfl (hb hby d67_42_8) hr) (QQ := QStrN Z cs h0 n0) ?_ (by decide) (by decide)
  exact ⟨b285, t287, _, _, _, _, rfl, N287, f288, (Nat.le_of_eq g285.symm), (A285.keep K287), Fv287, Fc287, Vt287, hC287⟩

theorem own_lc {c : Int32} (h0 : ¬ c < 0) (h1 : ¬ (255 : Int32) < c) : nar .char ((StrChars.lo8 c &&& (255 : Int32)).toUInt32.toUInt16.toUInt32.toInt32) = c := by
  have h2 : ¬ (65535 : Int32) < c := by
    rw [Int32.lt_iff_toInt_lt] at h1 ⊢
    have e1 : (255 : Int32).toInt = 255 := rfl
    have e2 : (65535 : Int32).toInt = 65535 := rfl
    omega
  rw [StrChars.lo8_mask h0 h1]
  show nar .char (nar .char c) = c
  rw [own_nc h0 h2, own_nc h0 h2]
abbrev k42_154 := jdk_42_method_154_code
theorem d42_154_0 : Dk k42_154 0 (.getstatic 38) 3 := own_k
theorem d42_154_3 : Dk k42_154 3 (.ifCond .eq 14) 3 := own_k
theorem d42_154_6 : Dk k42_154 6 (.aload_n 0) 1 := own_k
theorem d42_154_7 : Dk k42_154 7 (.getfield 15) 3 := own_k
theorem d42_154_10 : Dk k42_154 10 (.ifCond .ne 7) 3 := own_k
theorem d42_154_13 : Dk k42_154 13 (.iconst 1) 1 := own_k
theorem d42_154_14 : Dk k42_154 14 (.goto 4) 3 := own_k
theorem d42_154_18 : Dk k42_154 18 .ireturn 1 := own_k
theorem ef_rm_lat (m : MethodId) (x0 : Addr) : entryFrame m #[(.ref x0)] 1 = mkF m 0 #[.val (.ref x0)] [] := by
   first | (simp [entryFrame, mkF, argsToLocals, Value.category]; done) | rfl
set_option maxRecDepth 65536 in
set_option maxHeartbeats 40000000 in
theorem rm_lat (l : Launch) (Z : State) (a0 : Array Value) (hw : ∀ d ∈ tables_1, d.before a0 Z = true) (ws : List Jvm.Cond) (a1 : Addr) (G1 : Int32) (h0 : Heap) (n0 : Nat) (O0 : Old Z n0 h0) (E_a : Exa Z h0 a1 "java/lang/String") (F_c : Fld Z h0 a1 "java/lang/String" "coder" "B" (.int (0 : Int32))) (O2 : Sta Z Z.heap "java/lang/String" "COMPACT_STRINGS" "Z" (.int G1)) (P5 : ¬ (G1 = (0 : Int32))) :
    MetFree l (⟨"java/lang/String", "isLatin1", "()Z"⟩ : MethodName) (head1 (Jvm.Cond.code (⟨"java/lang/String", "isLatin1", "()Z"⟩ : MethodName) jdk_42_method_154_code 1 (some .boolean) :: ws) ⟨0, 0, 0, 0⟩) (fun aA U => aA = #[(.ref a1)] ∧ Z.Warmed39 U.vm ∧ U.heap = h0) (fun _ _ _ _ _ => True) (fun _ U oO U' => ∃ rV rL, oO = .returned rV ∧ QPure (some (.int (1 : Int32))) h0 n0 rV U'.heap rL ∧ FrameEnd U oO U' rL 0 0) := by
  refine MetFree.of_bodySF (plainFor_of_name pn_0) hisR ?_
  intro p e s m args below meth cC s₁ Bd hml0 hP hK
  obtain ⟨rfl, hZ, hh⟩ := hP
  have hx := Bd.exec
  have hby := Bd.bytes
  have hml : cC.maxLocals = 1 := hml0
  have hown : s.vm.findClass "java/lang/String" = some m.cls := findClass_of_methodNamed Bd.named
  have hnm := (name_of_methodNamed Bd.named Bd.method).1
  have hrt := Bd.returns
  have hlk : meth.locks = false := Bd.notSynchronized
  have X0 : Stand p l e ⟨0, 0, 0, 0⟩ s m #[(.ref a1)] below meth cC s₁ [] 0 0 := Stand.of_body Bd
  have e0 : s₁.heap = h0 := by rw [← hh, Bd.state]; rfl
  have N0 := Fr.nil n0
  have Z0 : n0 ≤ h0.size := O0.1 ▸ O0.2.1
  show own_Go p e below (s₁.setTop (entryFrame m #[(.ref a1)] 1)) (fun oO U' => ∃ rV rL, oO = .returned rV ∧ QPure (some (.int (1 : Int32))) h0 n0 rV U'.heap rL ∧ FrameEnd s oO U' rL 0 0)
  refine own_go (fun _ k => castTop (ef_rm_lat m a1) k) ?_
  obtain ⟨T289, X289, e289, st289⟩ := getS2 X0 hx hZ hown (host := "") (Or.inl (tw hw 54 rfl)) Via.refl e0 (O2.ext O0.2) (g := (mkF m 0 #[.val (.ref a1)] [])) rfl (hb hby d42_154_0)
  refine own_go st289 ?_
  refine og (fun _ k => XS.ifNo X289.here hx rfl (hb hby d42_154_3) rfl ((if0 _ _).trans (feq P5).1) k) ?_
  refine og (fun _ k => XS.aloadN X289.here hx rfl (hb hby d42_154_6) rfl rfl k) ?_
  obtain ⟨T290, X290, e290, st290⟩ := getF X289 hx hZ hown (host := "") (Or.inl (tw hw 21 rfl)) Via.refl e289 F_c (g := (mkF m 7 #[.val (.ref a1)] [(.ref a1)])) rfl rfl (hb hby d42_154_7)
  refine own_go st290 ?_
  try dsimp only [mkF]
  refine og (fun _ k => XS.ifNo X290.here hx rfl (hb hby d42_154_10) rfl ((if0 _ _).trans (teq (by decide : (0 : Int32) = (0 : Int32))).2) k) ?_
  refine og (fun _ k => XS.iconst X290.here hx rfl (hb hby d42_154_13) k) ?_
  refine og (fun _ k => XS.goto X290.here hx rfl (pc0 := 14) (pc' := 18) rfl (hb hby d42_154_14) (by decide) (by decide) k) ?_
  refine own_fin (v := (some (.int (nar .boolean (1 : Int32))))) X290 (fun h => by rw [hrt] at h; cases h) hlk (fun fs hr => retN X290 hx (t := .boolean) hrt (by simp) (hb hby d42_154_18) hr) (QQ := QPure (some (.int (1 : Int32))) h0 n0) ?_ (by decide) (by decide)
  rw [e290]
  exact ⟨rfl, N0, rfl⟩

theorem d42_154_17 : Dk k42_154 17 (.iconst 0) 1 := own_k
theorem ef_rm_lat1 (m : MethodId) (x0 : Addr) : entryFrame m #[(.ref x0)] 1 = mkF m 0 #[.val (.ref x0)] [] := by
   first | (simp [entryFrame, mkF, argsToLocals, Value.category]; done) | rfl
set_option maxRecDepth 65536 in
set_option maxHeartbeats 40000000 in
theorem rm_lat1 (l : Launch) (Z : State) (a0 : Array Value) (hw : ∀ d ∈ tables_1, d.before a0 Z = true) (ws : List Jvm.Cond) (a1 : Addr) (G1 : Int32) (h0 : Heap) (n0 : Nat) (O0 : Old Z n0 h0) (E_a : Exa Z h0 a1 "java/lang/String") (F_c : Fld Z h0 a1 "java/lang/String" "coder" "B" (.int (1 : Int32))) (O2 : Sta Z Z.heap "java/lang/String" "COMPACT_STRINGS" "Z" (.int G1)) (P5 : ¬ (G1 = (0 : Int32))) :
    MetFree l (⟨"java/lang/String", "isLatin1", "()Z"⟩ : MethodName) (head1 (Jvm.Cond.code (⟨"java/lang/String", "isLatin1", "()Z"⟩ : MethodName) jdk_42_method_154_code 1 (some .boolean) :: ws) ⟨0, 0, 0, 0⟩) (fun aA U => aA = #[(.ref a1)] ∧ Z.Warmed39 U.vm ∧ U.heap = h0) (fun _ _ _ _ _ => True) (fun _ U oO U' => ∃ rV rL, oO = .returned rV ∧ QPure (some (.int (0 : Int32))) h0 n0 rV U'.heap rL ∧ FrameEnd U oO U' rL 0 0) := by
  refine MetFree.of_bodySF (plainFor_of_name pn_0) hisR ?_
  intro p e s m args below meth cC s₁ Bd hml0 hP hK
  obtain ⟨rfl, hZ, hh⟩ := hP
  have hx := Bd.exec
  have hby := Bd.bytes
  have hml : cC.maxLocals = 1 := hml0
  have hown : s.vm.findClass "java/lang/String" = some m.cls := findClass_of_methodNamed Bd.named
  have hnm := (name_of_methodNamed Bd.named Bd.method).1
  have hrt := Bd.returns
  have hlk : meth.locks = false := Bd.notSynchronized
  have X0 : Stand p l e ⟨0, 0, 0, 0⟩ s m #[(.ref a1)] below meth cC s₁ [] 0 0 := Stand.of_body Bd
  have e0 : s₁.heap = h0 := by rw [← hh, Bd.state]; rfl
  have N0 := Fr.nil n0
  have Z0 : n0 ≤ h0.size := O0.1 ▸ O0.2.1
  show own_Go p e below (s₁.setTop (entryFrame m #[(.ref a1)] 1)) (fun oO U' => ∃ rV rL, oO = .returned rV ∧ QPure (some (.int (0 : Int32))) h0 n0 rV U'.heap rL ∧ FrameEnd s oO U' rL 0 0)
  refine own_go (fun _ k => castTop (ef_rm_lat1 m a1) k) ?_
  obtain ⟨T291, X291, e291, st291⟩ := getS2 X0 hx hZ hown (host := "") (Or.inl (tw hw 54 rfl)) Via.refl e0 (O2.ext O0.2) (g := (mkF m 0 #[.val (.ref a1)] [])) rfl (hb hby d42_154_0)
  refine own_go st291 ?_
  refine og (fun _ k => XS.ifNo X291.here hx rfl (hb hby d42_154_3) rfl ((if0 _ _).trans (feq P5).1) k) ?_
  refine og (fun _ k => XS.aloadN X291.here hx rfl (hb hby d42_154_6) rfl rfl k) ?_
  obtain ⟨T292, X292, e292, st292⟩ := getF X291 hx hZ hown (host := "") (Or.inl (tw hw 21 rfl)) Via.refl e291 F_c (g := (mkF m 7 #[.val (.ref a1)] [(.ref a1)])) rfl rfl (hb hby d42_154_7)
  refine own_go st292 ?_
  try dsimp only [mkF]
  refine og (fun _ k => XS.ifYes X292.here hx rfl (pc0 := 10) (pc' := 17) rfl (hb hby d42_154_10) rfl ((if0 _ _).trans (feq (by decide : ¬ ((1 : Int32) = (0 : Int32)))).2) (by decide) (by decide) k) ?_
  refine og (fun _ k => XS.iconst X292.here hx rfl (hb hby d42_154_17) k) ?_
  refine own_fin (v := (some (.int (nar .boolean (0 : Int32))))) X292 (fun h => by rw [hrt] at h; cases h) hlk (fun fs hr => retN X292 hx (t := .boolean) hrt (by simp) (hb hby d42_154_18) hr) (QQ := QPure (some (.int (0 : Int32))) h0 n0) ?_ (by decide) (by decide)
  rw [e292]
  exact ⟨rfl, N0, rfl⟩

abbrev k43_2 := jdk_43_method_2_code
theorem d43_2_0 : Dk k43_2 0 (.iload_n 1) 1 := own_k
theorem d43_2_1 : Dk k43_2 1 (.aload_n 0) 1 := own_k
theorem d43_2_2 : Dk k43_2 2 .arraylength 1 := own_k
theorem d43_2_3 : Dk k43_2 3 (.invokestatic 9) 3 := own_k
theorem d43_2_6 : Dk k43_2 6 (.aload_n 0) 1 := own_k
theorem d43_2_7 : Dk k43_2 7 (.iload_n 1) 1 := own_k
theorem d43_2_8 : Dk k43_2 8 .baload 1 := own_k
theorem d43_2_9 : Dk k43_2 9 (.sipush 255) 3 := own_k
theorem d43_2_12 : Dk k43_2 12 .iand 1 := own_k
theorem d43_2_13 : Dk k43_2 13 .i2c 1 := own_k
theorem d43_2_14 : Dk k43_2 14 .ireturn 1 := own_k
theorem ef_rm_lca (m : MethodId) (x0 : Addr) (x1 : Int32) : entryFrame m #[(.ref x0), (.int x1)] 2 = mkF m 0 #[.val (.ref x0), .val (.int x1)] [] := by
   first | (simp [entryFrame, mkF, argsToLocals, Value.category]; done) | rfl
set_option maxRecDepth 65536 in
set_option maxHeartbeats 40000000 in
theorem rm_lca (l : Launch) (Z : State) (a0 : Array Value) (hw : ∀ d ∈ tables_1, d.before a0 Z = true) (ws : List Jvm.Cond) (t : Addr) (k : ClassId) (cs : List Int32) (i : Nat) (G3 : Value) (h0 : Heap) (n0 : Nat) (O0 : Old Z n0 h0) (O4 : Sta Z Z.heap "jdk/internal/util/Preconditions" "SIOOBE_FORMATTER" "Ljava/util/function/BiFunction;" G3) (rG3 : G3.isRef = true) (V_t : Arv Z h0 t k .byte (Int32.ofNat cs.length) (own_lat cs) (.int (0 : Int32))) (hok : own_Ok cs) (ha : ∀ c ∈ cs, ¬ (255 : Int32) < c) (hi : i < cs.length) :
    MetFree l (⟨"java/lang/StringLatin1", "charAt", "([BI)C"⟩ : MethodName) (head1 (Jvm.Cond.code (⟨"java/lang/StringLatin1", "charAt", "([BI)C"⟩ : MethodName) jdk_43_method_2_code 2 (some .char) :: ws) ⟨2, 0, 0, 27⟩) (fun aA U => aA = #[(.ref t), (.int (Int32.ofNat i))] ∧ Z.Warmed39 U.vm ∧ U.heap = h0) (fun _ _ _ _ _ => True) (fun _ U oO U' => ∃ rV rL, oO = .returned rV ∧ QPure (some (.int (cs.getD i 0))) h0 n0 rV U'.heap rL ∧ FrameEnd U oO U' rL 0 0) := by
  refine MetFree.of_bodySF (plainFor_of_name pn_4) hisR ?_
  intro p e s m args below meth cC s₁ Bd hml0 hP hK
  obtain ⟨rfl, hZ, hh⟩ := hP
  have hx := Bd.exec
  have hby := Bd.bytes
  have hml : cC.maxLocals = 2 := hml0
  have hown : s.vm.findClass "java/lang/StringLatin1" = some m.cls := findClass_of_methodNamed Bd.named
  have hnm := (name_of_methodNamed Bd.named Bd.method).1
  have hrt := Bd.returns
  have hlk : meth.locks = false := Bd.notSynchronized
  have X0 : Stand p l e ⟨2, 0, 0, 27⟩ s m #[(.ref t), (.int (Int32.ofNat i))] below meth cC s₁ [] 0 0 := Stand.of_body Bd
  have e0 : s₁.heap = h0 := by rw [← hh, Bd.state]; rfl
  have N0 := Fr.nil n0
  have Z0 : n0 ≤ h0.size := O0.1 ▸ O0.2.1
  show own_Go p e below (s₁.setTop (entryFrame m #[(.ref t), (.int (Int32.ofNat i))] 2)) (fun oO U' => ∃ rV rL, oO = .returned rV ∧ QPure (some (.int (cs.getD i 0))) h0 n0 rV U'.heap rL ∧ FrameEnd s oO U' rL 0 0)
  refine own_go (fun _ k => castTop (ef_rm_lca m t _) k) ?_
  have hlen : cs.length ≤ 4000 := hok.2
  refine og (fun _ k => XS.iloadN X0.here hx rfl (hb hby d43_2_0) rfl k) ?_
  refine og (fun _ k => XS.aloadN X0.here hx rfl (hb hby d43_2_1) rfl rfl k) ?_
  obtain ⟨c293, A293, q293, S293, M293, Hs293, Gs293⟩ := id V_t
  refine og (fun _ k => X0.arraylength hx (by rw [e0]; exact A293.1) (State.isArrayOf_alike hZ.alike A293.2.1) (g := (mkF m 2 #[.val (.ref t), .val (.int (Int32.ofNat i))] [(.ref t), (.int (Int32.ofNat i))])) rfl rfl (hb hby d43_2_2) _ k) ?_
  rw [len_of S293 M293]
  obtain ⟨v294, _, ⟨T294, L294, k294, n294⟩, -, X294, ⟨Lc294, hQ294, l294, y294, z294⟩, st294⟩ := Jvm.LawKit.callS X0 hx (y := (⟨"java/lang/String", "checkIndex", "(II)V"⟩ : MethodName)) hown (mvT hZ (tw hw 131 rfl)) (mvT hZ (tw hw 132 rfl)) (mvT hZ (tw hw 2 rfl)) (mvT hZ (tw hw 133 rfl)) (by decide) (backOf (W := 0) (rm_sci l Z a0 hw [] (Int32.ofNat i) (Int32.ofNat cs.length) G3 h0 n0 O0 O4 rG3 (own_nn0 (by omega)) ((own_lti (by omega) (by omega)).mpr hi)) hZ (tw hw 133 rfl) (tw hw 2 rfl) (by decide) (by decide)) (g := (mkF m 3 #[.val (.ref t), .val (.int (Int32.ofNat i))] [(.int (Int32.ofNat cs.length)), (.int (Int32.ofNat i))])) rfl (by rw [hml]; rfl) (argsL := [(.int (Int32.ofNat i)), (.int (Int32.ofNat cs.length))]) (rest := []) (lenOf pd_13 rfl) rfl (by show 2 * 0 + _ ≤ _; exact Nat.le_of_eq rfl) (hb hby d43_2_3) (fun _ _ => ⟨rfl, e0, (by decide : 0 + 0 ≤ _), (by decide : 0 + 0 ≤ _)⟩)
  dsimp only [Pt.U, Pt.locs, Pt.cells, Pt.slots] at X294 l294 y294 z294 st294 hQ294
  subst l294 y294 z294
  refine own_go st294 ?_
  obtain ⟨rfl, Nq294, e294⟩ := hQ294
  have N294 := Fr.app N0 Nq294
  try dsimp only [mkF]
  refine og (fun _ k => XS.aloadN X294.here hx rfl (hb hby d43_2_6) rfl rfl k) ?_
  refine og (fun _ k => XS.iloadN X294.here hx rfl (hb hby d43_2_7) rfl k) ?_
  obtain ⟨c295, A295, q295, S295, M295, Hs295, Gs295⟩ := id V_t
  have hi295 := inb_of (j := (Int32.ofNat i)) S295 (own_inb hi (by omega))
  refine og (fun _ k => X294.baloadBytes hx (j := (Int32.ofNat i)) (v := (.int (StrChars.lo8 (cs.getD i 0)))) (by rw [e294]; exact A295.1) (State.isArrayOf_alike hZ.alike A295.2.1) A295.2.2 hi295 (Has.at Hs295 hi295 (by rw [own_tn (by omega)]; exact own_lgd2 hi)) (g := (mkF m 8 #[.val (.ref t), .val (.int (Int32.ofNat i))] [(.int (Int32.ofNat i)), (.ref t)])) rfl rfl (hb hby d43_2_8) _ k) ?_
  refine og (fun _ k => XS.sipush X294.here hx rfl (hb hby d43_2_9) k) ?_
  refine og (fun _ k => XS.iand X294.here hx rfl (hb hby d43_2_12) rfl k) ?_
  try dsimp only [mkF]
  refine og (fun _ k => XS.i2c X294.here hx rfl (hb hby d43_2_13) rfl k) ?_
  refine own_fin (v := (some (.int (nar .char (((StrChars.lo8 (cs.getD i 0)) &&& (255 : Int32)).toUInt32.toUInt16.toUInt32.toInt32))))) X294 (fun h => by rw [hrt] at h; cases h) hlk (fun fs hr => retN X294 hx (t := .char) hrt (by simp) (hb hby d43_2_14) hr) (QQ := QPure (some (.int (cs.getD i 0))) h0 n0) ?_ (by decide) (by decide)
  rw [e294]
  exact ⟨congrArg (fun z => some (Value.int z)) (own_lc (hok.at hi).1 (ha _ (own_getm hi))), N294, rfl⟩

abbrev k52_83 := jdk_52_method_83_code
theorem d52_83_0 : Dk k52_83 0 (.iload_n 1) 1 := own_k
theorem d52_83_1 : Dk k52_83 1 (.aload_n 0) 1 := own_k
theorem d52_83_2 : Dk k52_83 2 (.invokestatic 67) 3 := own_k
theorem d52_83_5 : Dk k52_83 5 (.aload_n 0) 1 := own_k
theorem d52_83_6 : Dk k52_83 6 (.iload_n 1) 1 := own_k
theorem d52_83_7 : Dk k52_83 7 (.invokestatic 71) 3 := own_k
theorem d52_83_10 : Dk k52_83 10 .ireturn 1 := own_k
theorem ef_rm_wca (m : MethodId) (x0 : Addr) (x1 : Int32) : entryFrame m #[(.ref x0), (.int x1)] 2 = mkF m 0 #[.val (.ref x0), .val (.int x1)] [] := by
   first | (simp [entryFrame, mkF, argsToLocals, Value.category]; done) | rfl
set_option maxRecDepth 65536 in
set_option maxHeartbeats 40000000 in
theorem rm_wca (l : Launch) (Z : State) (a0 : Array Value) (hw : ∀ d ∈ tables_1, d.before a0 Z = true) (ws : List Jvm.Cond) (t : Addr) (k : ClassId) (cs : List Int32) (i : Nat) (G3 : Value) (h0 : Heap) (n0 : Nat) (O0 : Old Z n0 h0) (O4 : Sta Z Z.heap "jdk/internal/util/Preconditions" "SIOOBE_FORMATTER" "Ljava/util/function/BiFunction;" G3) (rG3 : G3.isRef = true) (OA : Sta Z Z.heap "java/lang/StringUTF16" "$assertionsDisabled" "Z" (.int (1 : Int32))) (OH : Sta Z Z.heap "java/lang/StringUTF16" "HI_BYTE_SHIFT" "I" (.int (0 : Int32))) (OL : Sta Z Z.heap "java/lang/StringUTF16" "LO_BYTE_SHIFT" "I" (.int (8 : Int32))) (V_t : Arv Z h0 t k .byte (Int32.ofNat (2 * cs.length)) (StrChars.Road.wideBytes cs) (.int (0 : Int32))) (hok : own_Ok cs) (hi : i < cs.length) :
    MetFree l (⟨"java/lang/StringUTF16", "charAt", "([BI)C"⟩ : MethodName) (head1 (Jvm.Cond.code (⟨"java/lang/StringUTF16", "charAt", "([BI)C"⟩ : MethodName) jdk_52_method_83_code 2 (some .char) :: ws) ⟨3, 0, 0, 40⟩) (fun aA U => aA = #[(.ref t), (.int (Int32.ofNat i))] ∧ Z.Warmed39 U.vm ∧ U.heap = h0) (fun _ _ _ _ _ => True) (fun _ U oO U' => ∃ rV rL, oO = .returned rV ∧ QPure (some (.int (cs.getD i 0))) h0 n0 rV U'.heap rL ∧ FrameEnd U oO U' rL 0 0) := by
  refine MetFree.of_bodySF (plainFor_of_name pn_1) hisR ?_
  intro p e s m args below meth cC s₁ Bd hml0 hP hK
  obtain ⟨rfl, hZ, hh⟩ := hP
  have hx := Bd.exec
  have hby := Bd.bytes
  have hml : cC.maxLocals = 2 := hml0
  have hown : s.vm.findClass "java/lang/StringUTF16" = some m.cls := findClass_of_methodNamed Bd.named
  have hnm := (name_of_methodNamed Bd.named Bd.method).1
  have hrt := Bd.returns
  have hlk : meth.locks = false := Bd.notSynchronized
  have X0 : Stand p l e ⟨3, 0, 0, 40⟩ s m #[(.ref t), (.int (Int32.ofNat i))] below meth cC s₁ [] 0 0 := Stand.of_body Bd
  have e0 : s₁.heap = h0 := by rw [← hh, Bd.state]; rfl
  have N0 := Fr.nil n0
  have Z0 : n0 ≤ h0.size := O0.1 ▸ O0.2.1
  show own_Go p e below (s₁.setTop (entryFrame m #[(.ref t), (.int (Int32.ofNat i))] 2)) (fun oO U' => ∃ rV rL, oO = .returned rV ∧ QPure (some (.int (cs.getD i 0))) h0 n0 rV U'.heap rL ∧ FrameEnd s oO U' rL 0 0)
  refine own_go (fun _ k => castTop (ef_rm_wca m t _) k) ?_
  have hlen : cs.length ≤ 4000 := hok.2
  refine og (fun _ k => XS.iloadN X0.here hx rfl (hb hby d52_83_0) rfl k) ?_
  refine og (fun _ k => XS.aloadN X0.here hx rfl (hb hby d52_83_1) rfl rfl k) ?_
  obtain ⟨v296, _, ⟨T296, L296, k296, n296⟩, -, X296, ⟨Lc296, hQ296, l296, y296, z296⟩, st296⟩ := Jvm.LawKit.callS X0 hx (y := (⟨"java/lang/StringUTF16", "checkIndex", "(I[B)V"⟩ : MethodName)) hown (mvT hZ (tw hw 226 rfl)) (mvT hZ (tw hw 227 rfl)) (mvT hZ (tw hw 109 rfl)) (mvT hZ (tw hw 228 rfl)) (by decide) (backOf (W := 0) (rm_wci l Z a0 hw [] t k cs.length (StrChars.Road.wideBytes cs) i G3 h0 n0 O0 O4 rG3 V_t hlen hi) hZ (tw hw 228 rfl) (tw hw 109 rfl) (by decide) (by decide)) (g := (mkF m 2 #[.val (.ref t), .val (.int (Int32.ofNat i))] [(.ref t), (.int (Int32.ofNat i))])) rfl (by rw [hml]; rfl) (argsL := [(.int (Int32.ofNat i)), (.ref t)]) (rest := []) (lenOf pd_18 rfl) rfl (by show 2 * 0 + _ ≤ _; exact Nat.le_of_eq rfl) (hb hby d52_83_2) (fun _ _ => ⟨rfl, e0, (by decide : 0 + 0 ≤ _), (by decide : 0 + 0 ≤ _)⟩)
  dsimp only [Pt.U, Pt.locs, Pt.cells, Pt.slots] at X296 l296 y296 z296 st296 hQ296
  subst l296 y296 z296
  refine own_go st296 ?_
  obtain ⟨rfl, Nq296, e296⟩ := hQ296
  have N296 := Fr.app N0 Nq296
  refine og (fun _ k => XS.aloadN X296.here hx rfl (hb hby d52_83_5) rfl rfl k) ?_
  try dsimp only [mkF]
  refine og (fun _ k => XS.iloadN X296.here hx rfl (hb hby d52_83_6) rfl k) ?_
  obtain ⟨v297, _, ⟨T297, L297, k297, n297⟩, -, X297, ⟨Lc297, hQ297, l297, y297, z297⟩, st297⟩ := Jvm.LawKit.callS X296 hx (y := (⟨"java/lang/StringUTF16", "getChar", "([BI)C"⟩ : MethodName)) hown (mvT hZ (tw hw 220 rfl)) (mvT hZ (tw hw 221 rfl)) (mvT hZ (tw hw 109 rfl)) (mvT hZ (tw hw 222 rfl)) (by decide) (backOf (W := 0) (rm_get l Z a0 hw [] t k (2 * cs.length) (StrChars.Road.wideBytes cs) i (cs.getD i 0) h0 n0 O0 OA OH OL V_t (StrChars.Road.wide_lo _ cs _ hi) (StrChars.Road.wide_hi _ cs _ hi) (by omega) (by omega) (hok.at hi)) hZ (tw hw 222 rfl) (tw hw 109 rfl) (by decide) (by decide)) (g := (mkF m 7 #[.val (.ref t), .val (.int (Int32.ofNat i))] [(.int (Int32.ofNat i)), (.ref t)])) rfl (by rw [hml]; rfl) (argsL := [(.ref t), (.int (Int32.ofNat i))]) (rest := []) (lenOf pd_6 rfl) rfl (by show 2 * 0 + _ ≤ _; exact Nat.le_of_eq rfl) (hb hby d52_83_7) (fun _ _ => ⟨rfl, e296, (by decide : 0 + 0 ≤ _), (by decide : 0 + 0 ≤ _)⟩)
  dsimp only [Pt.U, Pt.locs, Pt.cells, Pt.slots] at X297 l297 y297 z297 st297 hQ297
  subst l297 y297 z297
  refine own_go st297 ?_
  obtain ⟨rfl, Nq297, e297⟩ := hQ297
  have N297 := Fr.app N296 Nq297
  refine own_fin (v := (some (.int (nar .char (cs.getD i 0))))) X297 (fun h => by rw [hrt] at h; cases h) hlk (fun fs hr => retN X297 hx (t := .char) hrt (by simp) (hb hby d52_83_10) hr) (QQ := QPure (some (.int (cs.getD i 0))) h0 n0) ?_ (by decide) (by decide)
  rw [e297]
  exact ⟨congrArg (fun z => some (Value.int z)) (own_nc (hok.at hi).1 (hok.at hi).2), N297, rfl⟩

abbrev k42_56 := jdk_42_method_56_code
theorem d42_56_0 : Dk k42_56 0 (.aload_n 0) 1 := own_k
theorem d42_56_1 : Dk k42_56 1 (.invokevirtual 492) 3 := own_k
theorem d42_56_4 : Dk k42_56 4 (.ifCond .eq 12) 3 := own_k
theorem d42_56_7 : Dk k42_56 7 (.aload_n 0) 1 := own_k
theorem d42_56_8 : Dk k42_56 8 (.getfield 9) 3 := own_k
theorem d42_56_11 : Dk k42_56 11 (.iload_n 1) 1 := own_k
theorem d42_56_12 : Dk k42_56 12 (.invokestatic 495) 3 := own_k
theorem d42_56_15 : Dk k42_56 15 .ireturn 1 := own_k
theorem d42_56_16 : Dk k42_56 16 (.aload_n 0) 1 := own_k
theorem d42_56_17 : Dk k42_56 17 (.getfield 9) 3 := own_k
theorem d42_56_20 : Dk k42_56 20 (.iload_n 1) 1 := own_k
theorem d42_56_21 : Dk k42_56 21 (.invokestatic 498) 3 := own_k
theorem d42_56_24 : Dk k42_56 24 .ireturn 1 := own_k
theorem ef_rm_ca (m : MethodId) (x0 : Addr) (x1 : Int32) : entryFrame m #[(.ref x0), (.int x1)] 2 = mkF m 0 #[.val (.ref x0), .val (.int x1)] [] := by
   first | (simp [entryFrame, mkF, argsToLocals, Value.category]; done) | rfl
set_option maxRecDepth 65536 in
set_option maxHeartbeats 40000000 in
theorem rm_ca (l : Launch) (Z : State) (a0 : Array Value) (hw : ∀ d ∈ tables_1, d.before a0 Z = true) (ws : List Jvm.Cond) (x t : Addr) (k : ClassId) (cs : List Int32) (cd N2 : Int32) (vs : List Value) (i : Nat) (G1 : Int32) (G3 : Value) (h0 : Heap) (n0 : Nat) (O0 : Old Z n0 h0) (O2 : Sta Z Z.heap "java/lang/String" "COMPACT_STRINGS" "Z" (.int G1)) (P5 : ¬ (G1 = (0 : Int32))) (O4 : Sta Z Z.heap "jdk/internal/util/Preconditions" "SIOOBE_FORMATTER" "Ljava/util/function/BiFunction;" G3) (rG3 : G3.isRef = true) (OA : Sta Z Z.heap "java/lang/StringUTF16" "$assertionsDisabled" "Z" (.int (1 : Int32))) (OH : Sta Z Z.heap "java/lang/StringUTF16" "HI_BYTE_SHIFT" "I" (.int (0 : Int32))) (OL : Sta Z Z.heap "java/lang/StringUTF16" "LO_BYTE_SHIFT" "I" (.int (8 : Int32))) (E_x : Exa Z h0 x "java/lang/String") (Fv_x : Fld Z h0 x "java/lang/String" "value" "[B" (.ref t)) (Fc_x : Fld Z h0 x "java/lang/String" "coder" "B" (.int cd)) (V_t : Arv Z h0 t k .byte N2 vs (.int (0 : Int32))) (hC_x : StrChars.Road.CodA cs cd N2 vs) (hok : own_Ok cs) (hi : i < cs.length) :
    MetFree l (⟨"java/lang/String", "charAt", "(I)C"⟩ : MethodName) (head1 (Jvm.Cond.code (⟨"java/lang/String", "charAt", "(I)C"⟩ : MethodName) jdk_42_method_56_code 2 (some .char) :: ws) ⟨4, 0, 0, 53⟩) (fun aA U => aA = #[(.ref x), (.int (Int32.ofNat i))] ∧ Z.Warmed39 U.vm ∧ U.heap = h0) (fun _ _ _ _ _ => True) (fun _ U oO U' => ∃ rV rL, oO = .returned rV ∧ QPure (some (.int (cs.getD i 0))) h0 n0 rV U'.heap rL ∧ FrameEnd U oO U' rL 0 0) := by
  refine MetFree.of_bodySF (plainFor_of_name pn_0) hisR ?_
  intro p e s m args below meth cC s₁ Bd hml0 hP hK
  obtain ⟨rfl, hZ, hh⟩ := hP
  have hx := Bd.exec
  have hby := Bd.bytes
  have hml : cC.maxLocals = 2 := hml0
  have hown : s.vm.findClass "java/lang/String" = some m.cls := findClass_of_methodNamed Bd.named
  have hnm := (name_of_methodNamed Bd.named Bd.method).1
  have hrt := Bd.returns
  have hlk : meth.locks = false := Bd.notSynchronized
  have X0 : Stand p l e ⟨4, 0, 0, 53⟩ s m #[(.ref x), (.int (Int32.ofNat i))] below meth cC s₁ [] 0 0 := Stand.of_body Bd
  have e0 : s₁.heap = h0 := by rw [← hh, Bd.state]; rfl
  have N0 := Fr.nil n0
  have Z0 : n0 ≤ h0.size := O0.1 ▸ O0.2.1
  show own_Go p e below (s₁.setTop (entryFrame m #[(.ref x), (.int (Int32.ofNat i))] 2)) (fun oO U' => ∃ rV rL, oO = .returned rV ∧ QPure (some (.int (cs.getD i 0))) h0 n0 rV U'.heap rL ∧ FrameEnd s oO U' rL 0 0)
  refine own_go (fun _ k => castTop (ef_rm_ca m x _) k) ?_
  have hlen : cs.length ≤ 4000 := hok.2
  rcases id hC_x with ⟨c1, c2, c3, ha⟩ | ⟨c1, c2, c3, cw, hcw, hbig⟩
  · subst c1 c2 c3
    refine og (fun _ k => XS.aloadN X0.here hx rfl (hb hby d42_56_0) rfl rfl k) ?_
    obtain ⟨cq298, kq298, q298a, q298b, q298c⟩ := isOf hZ e0 E_x
    obtain ⟨v298, _, ⟨T298, L298, k298, n298⟩, -, X298, ⟨Lc298, hQ298, l298, y298, z298⟩, st298⟩ := X0.virtualBack hx (y := (⟨"java/lang/String", "isLatin1", "()Z"⟩ : MethodName)) (z := (⟨"java/lang/String", "isLatin1", "()Z"⟩ : MethodName)) hown (mvT hZ (tw hw 122 rfl)) (mvT hZ (tw hw 123 rfl)) (notFace_of_selects (args := #[]) (mvT hZ (tw hw 125 rfl))) (mvT hZ (tw hw 125 rfl)) (mvT hZ (tw hw 124 rfl)) (by decide) (backOf (W := 0) (rm_lat l Z a0 hw [] x G1 h0 n0 O0 E_x Fc_x O2 P5) hZ (tw hw 126 rfl) (tw hw 2 rfl) (by decide) (by decide)) q298a q298c (g := (mkF m 1 #[.val (.ref x), .val (.int (Int32.ofNat i))] [(.ref x)])) rfl (by rw [hml]; rfl) (Steps.refl _) (argsL := []) (rest := []) (lenOf pd_17 rfl) rfl (by show 2 * 0 + _ ≤ _; exact Nat.le_of_eq rfl) (hb hby d42_56_1) (fun _ _ => ⟨rfl, e0, (by decide : 0 + 0 ≤ _), (by decide : 0 + 0 ≤ _)⟩)
    dsimp only [Pt.U, Pt.locs, Pt.cells, Pt.slots] at X298 l298 y298 z298 st298 hQ298
    subst l298 y298 z298
    refine own_gos st298 ?_
    obtain ⟨rfl, Nq298, e298⟩ := hQ298
    have N298 := Fr.app N0 Nq298
    refine og (fun _ k => XS.ifNo X298.here hx rfl (hb hby d42_56_4) rfl ((if0 _ _).trans (feq (by decide : ¬ ((1 : Int32) = (0 : Int32)))).1) k) ?_
    try dsimp only [mkF]
    refine og (fun _ k => XS.aloadN X298.here hx rfl (hb hby d42_56_7) rfl rfl k) ?_
    obtain ⟨T299, X299, e299, st299⟩ := getF X298 hx hZ hown (host := "") (Or.inl (tw hw 20 rfl)) Via.refl e298 Fv_x (g := (mkF m 8 #[.val (.ref x), .val (.int (Int32.ofNat i))] [(.ref x)])) rfl rfl (hb hby d42_56_8)
    refine own_go st299 ?_
    refine og (fun _ k => XS.iloadN X299.here hx rfl (hb hby d42_56_11) rfl k) ?_
    obtain ⟨v300, _, ⟨T300, L300, k300, n300⟩, -, X300, ⟨Lc300, hQ300, l300, y300, z300⟩, st300⟩ := Jvm.LawKit.callS X299 hx (y := (⟨"java/lang/StringLatin1", "charAt", "([BI)C"⟩ : MethodName)) hown (mvT hZ (tw hw 127 rfl)) (mvT hZ (tw hw 128 rfl)) (mvT hZ (tw hw 129 rfl)) (mvT hZ (tw hw 130 rfl)) (by decide) (backOf (W := 0) (rm_lca l Z a0 hw [] t k cs i G3 h0 n0 O0 O4 rG3 V_t hok ha hi) hZ (tw hw 130 rfl) (tw hw 129 rfl) (by decide) (by decide)) (g := (mkF m 12 #[.val (.ref x), .val (.int (Int32.ofNat i))] [(.int (Int32.ofNat i)), (.ref t)])) rfl (by rw [hml]; rfl) (argsL := [(.ref t), (.int (Int32.ofNat i))]) (rest := []) (lenOf pd_6 rfl) rfl (by show 2 * 0 + _ ≤ _; exact Nat.le_of_eq rfl) (hb hby d42_56_12) (fun _ _ => ⟨rfl, e299, (by decide : 0 + 0 ≤ _), (by decide : 0 + 0 ≤ _)⟩)
    dsimp only [Pt.U, Pt.locs, Pt.cells, Pt.slots] at X300 l300 y300 z300 st300 hQ300
    subst l300 y300 z300
    refine own_go st300 ?_
    obtain ⟨rfl, Nq300, e300⟩ := hQ300
    have N300 := Fr.app N298 Nq300
    refine own_fin (v := (some (.int (nar .char (cs.getD i 0))))) X300 (fun h => by rw [hrt] at h; cases h) hlk (fun fs hr => retN X300 hx (t := .char) hrt (by simp) (hb hby d42_56_15) hr) (QQ := QPure (some (.int (cs.getD i 0))) h0 n0) ?_ (by decide) (by decide)
    rw [e300]
    exact ⟨congrArg (fun z => some (Value.int z)) (own_nc (hok.at hi).1 (hok.at hi).2), N300, rfl⟩
  · subst c1 c2 c3
    refine og (fun _ k => XS.aloadN X0.here hx rfl (hb hby d42_56_0) rfl rfl k) ?_
    obtain ⟨cq301, kq301, q301a, q301b, q301c⟩ := isOf hZ e0 E_x
    obtain ⟨v301, _, ⟨T301, L301, k301, n301⟩, -, X301, ⟨Lc301, hQ301, l301, y301, z301⟩, st301⟩ := X0.virtualBack hx (y := (⟨"java/lang/String", "isLatin1", "()Z"⟩ : MethodName)) (z := (⟨"java/lang/String", "isLatin1", "()Z"⟩ : MethodName)) hown (mvT hZ (tw hw 122 rfl)) (mvT hZ (tw hw 123 rfl)) (notFace_of_selects (args := #[]) (mvT hZ (tw hw 125 rfl))) (mvT hZ (tw hw 125 rfl)) (mvT hZ (tw hw 124 rfl)) (by decide) (backOf (W := 0) (rm_lat1 l Z a0 hw [] x G1 h0 n0 O0 E_x Fc_x O2 P5) hZ (tw hw 126 rfl) (tw hw 2 rfl) (by decide) (by decide)) q301a q301c (g := (mkF m 1 #[.val (.ref x), .val (.int (Int32.ofNat i))] [(.ref x)])) rfl (by rw [hml]; rfl) (Steps.refl _) (argsL := []) (rest := []) (lenOf pd_17 rfl) rfl (by show 2 * 0 + _ ≤ _; exact Nat.le_of_eq rfl) (hb hby d42_56_1) (fun _ _ => ⟨rfl, e0, (by decide : 0 + 0 ≤ _), (by decide : 0 + 0 ≤ _)⟩)
    dsimp only [Pt.U, Pt.locs, Pt.cells, Pt.slots] at X301 l301 y301 z301 st301 hQ301
    subst l301 y301 z301
    refine own_gos st301 ?_
    obtain ⟨rfl, Nq301, e301⟩ := hQ301
    have N301 := Fr.app N0 Nq301
    refine og (fun _ k => XS.ifYes X301.here hx rfl (pc0 := 4) (pc' := 16) rfl (hb hby d42_56_4) rfl ((if0 _ _).trans (teq (by decide : (0 : Int32) = (0 : Int32))).1) (by decide) (by decide) k) ?_
    try dsimp only [mkF]
    refine og (fun _ k => XS.aloadN X301.here hx rfl (hb hby d42_56_16) rfl rfl k) ?_
    obtain ⟨T302, X302, e302, st302⟩ := getF X301 hx hZ hown (host := "") (Or.inl (tw hw 20 rfl)) Via.refl e301 Fv_x (g := (mkF m 17 #[.val (.ref x), .val (.int (Int32.ofNat i))] [(.ref x)])) rfl rfl (hb hby d42_56_17)
    refine own_go st302 ?_
    refine og (fun _ k => XS.iloadN X302.here hx rfl (hb hby d42_56_20) rfl k) ?_
    obtain ⟨v303, _, ⟨T303, L303, k303, n303⟩, -, X303, ⟨Lc303, hQ303, l303, y303, z303⟩, st303⟩ := Jvm.LawKit.callS X302 hx (y := (⟨"java/lang/StringUTF16", "charAt", "([BI)C"⟩ : MethodName)) hown (mvT hZ (tw hw 223 rfl)) (mvT hZ (tw hw 224 rfl)) (mvT hZ (tw hw 109 rfl)) (mvT hZ (tw hw 225 rfl)) (by decide) (backOf (W := 0) (rm_wca l Z a0 hw [] t k cs i G3 h0 n0 O0 O4 rG3 OA OH OL V_t hok hi) hZ (tw hw 225 rfl) (tw hw 109 rfl) (by decide) (by decide)) (g := (mkF m 21 #[.val (.ref x), .val (.int (Int32.ofNat i))] [(.int (Int32.ofNat i)), (.ref t)])) rfl (by rw [hml]; rfl) (argsL := [(.ref t), (.int (Int32.ofNat i))]) (rest := []) (lenOf pd_6 rfl) rfl (by show 2 * 0 + _ ≤ _; exact Nat.le_of_eq rfl) (hb hby d42_56_21) (fun _ _ => ⟨rfl, e302, (by decide : 0 + 0 ≤ _), (by decide : 0 + 0 ≤ _)⟩)
    dsimp only [Pt.U, Pt.locs, Pt.cells, Pt.slots] at X303 l303 y303 z303 st303 hQ303
    subst l303 y303 z303
    refine own_go st303 ?_
    obtain ⟨rfl, Nq303, e303⟩ := hQ303
    have N303 := Fr.app N301 Nq303
    refine own_fin (v := (some (.int (nar .char (cs.getD i 0))))) X303 (fun h => by rw [hrt] at h; cases h) hlk (fun fs hr => retN X303 hx (t := .char) hrt (by simp) (hb hby d42_56_24) hr) (QQ := QPure (some (.int (cs.getD i 0))) h0 n0) ?_ (by decide) (by decide)
    rw [e303]
    exact ⟨congrArg (fun z => some (Value.int z)) (own_nc (hok.at hi).1 (hok.at hi).2), N303, rfl⟩

abbrev k43_46 := jdk_43_method_46_code
theorem d43_46_0 : Dk k43_46 0 (.iconst 1) 1 := own_k
theorem d43_46_1 : Dk k43_46 1 (.newarray .byte) 2 := own_k
theorem d43_46_3 : Dk k43_46 3 .dup 1 := own_k
theorem d43_46_4 : Dk k43_46 4 (.iconst 0) 1 := own_k
theorem d43_46_5 : Dk k43_46 5 (.iload_n 0) 1 := own_k
theorem d43_46_6 : Dk k43_46 6 .i2b 1 := own_k
theorem d43_46_7 : Dk k43_46 7 .bastore 1 := own_k
theorem d43_46_8 : Dk k43_46 8 .areturn 1 := own_k
theorem ef_rm_ltb (m : MethodId) (x0 : Int32) : entryFrame m #[(.int x0)] 1 = mkF m 0 #[.val (.int x0)] [] := by
   first | (simp [entryFrame, mkF, argsToLocals, Value.category]; done) | rfl
set_option maxRecDepth 65536 in
set_option maxHeartbeats 40000000 in
theorem rm_ltb (l : Launch) (Z : State) (a0 : Array Value) (hw : ∀ d ∈ tables_1, d.before a0 Z = true) (ws : List Jvm.Cond) (ch : Int32) (h0 : Heap) (n0 : Nat) (O0 : Old Z n0 h0) :
    MetFree l (⟨"java/lang/StringLatin1", "toBytes", "(C)[B"⟩ : MethodName) (head1 (Jvm.Cond.code (⟨"java/lang/StringLatin1", "toBytes", "(C)[B"⟩ : MethodName) jdk_43_method_46_code 1 (some (.array .byte)) :: ws) ⟨0, 1, 1, 0⟩) (fun aA U => aA = #[(.int ch)] ∧ Z.Warmed39 U.vm ∧ U.heap = h0) (fun _ _ _ _ _ => True) (fun _ U oO U' => ∃ rV rL, oO = .returned rV ∧ QNew Z (1 : Int32) (own_lat [ch]) h0 n0 rV U'.heap rL ∧ FrameEnd U oO U' rL 1 1) := by
  refine MetFree.of_bodySF (plainFor_of_name pn_4) hisR ?_
  intro p e s m args below meth cC s₁ Bd hml0 hP hK
  obtain ⟨rfl, hZ, hh⟩ := hP
  have hx := Bd.exec
  have hby := Bd.bytes
  have hml : cC.maxLocals = 1 := hml0
  have hown : s.vm.findClass "java/lang/StringLatin1" = some m.cls := findClass_of_methodNamed Bd.named
  have hnm := (name_of_methodNamed Bd.named Bd.method).1
  have hrt := Bd.returns
  have hlk : meth.locks = false := Bd.notSynchronized
  have X0 : Stand p l e ⟨0, 1, 1, 0⟩ s m #[(.int ch)] below meth cC s₁ [] 0 0 := Stand.of_body Bd
  have e0 : s₁.heap = h0 := by rw [← hh, Bd.state]; rfl
  have N0 := Fr.nil n0
  have Z0 : n0 ≤ h0.size := O0.1 ▸ O0.2.1
  show own_Go p e below (s₁.setTop (entryFrame m #[(.int ch)] 1)) (fun oO U' => ∃ rV rL, oO = .returned rV ∧ QNew Z (1 : Int32) (own_lat [ch]) h0 n0 rV U'.heap rL ∧ FrameEnd s oO U' rL 1 1)
  refine own_go (fun _ k => castTop (ef_rm_ltb m ch) k) ?_
  refine og (fun _ k => XS.iconst X0.here hx rfl (hb hby d43_46_0) k) ?_
  obtain ⟨T304, h304, k304, X304, e304, E304, A304, st304⟩ := newP X0 hx hZ (tw hw 15 rfl) e0 (g := (mkF m 1 #[.val (.int ch)] [(.int (1 : Int32))])) rfl (hb hby d43_46_1) rfl (by decide) (cap := 1) (by decide) (by decide) (by decide) (by decide)
  obtain ⟨b304, g304⟩ : ∃ z, z = h0.size := ⟨_, rfl⟩
  rw [← g304] at A304 st304
  refine own_go st304 ?_
  have V304 : Arv Z h304 b304 k304 .byte (1 : Int32) [(.int (0 : Int32))] (.int (0 : Int32)) := (Arv.new A304 (by decide)).pad (pad_rep [] (.int (0 : Int32)) 1)
  refine og (fun _ k => XS.dup X304.here hx rfl (hb hby d43_46_3) rfl rfl k) ?_
  refine og (fun _ k => XS.iconst X304.here hx rfl (hb hby d43_46_4) k) ?_
  try dsimp only [mkF]
  refine og (fun _ k => XS.iloadN X304.here hx rfl (hb hby d43_46_5) rfl k) ?_
  refine og (fun _ k => XS.i2b X304.here hx rfl (hb hby d43_46_6) rfl k) ?_
  obtain ⟨c305, A305, q305, S305, M305, Hs305, Gs305⟩ := id V304
  obtain ⟨T306, h306, X306, e306, W306, st306⟩ := stB X304 hx hZ e304 A305 (j := (0 : Int32)) (inb_of S305 ⟨by decide, by decide⟩) (g := (mkF m 7 #[.val (.int ch)] [(.int (ch.toInt8.toInt32)), (.int (0 : Int32)), (.ref b304), (.ref b304)])) rfl rfl (hb hby d43_46_7)
  refine own_go st306 ?_
  have N306 := Fr.snoc X306 N0 (Nat.le_trans Z0 (Nat.le_of_eq g304.symm))
  have V306 : Arv Z h306 b304 k304 .byte (1 : Int32) [(.int (nar .byte (ch.toInt8.toInt32)))] (.int (0 : Int32)) := Arv.set A305 q305 S305 M305 Hs305 Gs305 (fits_nar_byte _) W306 0 rfl (Nat.le_of_ble_eq_true rfl)
  have V306q : Arv Z h306 b304 k304 .byte (1 : Int32) [(.int (StrChars.lo8 ch))] (.int (0 : Int32)) := by rw [show nar .byte (ch.toInt8.toInt32) = (StrChars.lo8 ch) from own_nb ch] at V306; exact V306
  have f307 := (((Keep.refl h0 []).ext E304).wr W306 (Or.inr (Nat.le_of_eq g304.symm)))
  refine own_fin (v := (some (.ref b304))) X306 (fun h => by rw [hrt] at h; cases h) hlk (fun fs hr => retR X306 hx hrt (by rfl) rfl rfl (hb hby d43_46_8) hr) (QQ := QNew Z (1 : Int32) (own_lat [ch]) h0 n0) ?_ (by decide) (by decide)
  rw [e306]
  exact ⟨b304, _, rfl, N306, f307, (Nat.le_of_eq g304.symm), V306q⟩

abbrev k52_24 := jdk_52_method_24_code
theorem d52_24_0 : Dk k52_24 0 (.iconst 2) 1 := own_k
theorem d52_24_1 : Dk k52_24 1 (.newarray .byte) 2 := own_k
theorem d52_24_3 : Dk k52_24 3 (.astore_n 1) 1 := own_k
theorem d52_24_4 : Dk k52_24 4 (.aload_n 1) 1 := own_k
theorem d52_24_5 : Dk k52_24 5 (.iconst 0) 1 := own_k
theorem d52_24_6 : Dk k52_24 6 (.iload_n 0) 1 := own_k
theorem d52_24_7 : Dk k52_24 7 (.invokestatic 111) 3 := own_k
theorem d52_24_10 : Dk k52_24 10 (.aload_n 1) 1 := own_k
theorem d52_24_11 : Dk k52_24 11 .areturn 1 := own_k
theorem ef_rm_wtb (m : MethodId) (x0 : Int32) : entryFrame m #[(.int x0)] 2 = mkF m 0 #[.val (.int x0), .unset] [] := by
   first | (simp [entryFrame, mkF, argsToLocals, Value.category]; done) | rfl
set_option maxRecDepth 65536 in
set_option maxHeartbeats 40000000 in
theorem rm_wtb (l : Launch) (Z : State) (a0 : Array Value) (hw : ∀ d ∈ tables_1, d.before a0 Z = true) (ws : List Jvm.Cond) (ch : Int32) (h0 : Heap) (n0 : Nat) (O0 : Old Z n0 h0) (OA : Sta Z Z.heap "java/lang/StringUTF16" "$assertionsDisabled" "Z" (.int (1 : Int32))) (OH : Sta Z Z.heap "java/lang/StringUTF16" "HI_BYTE_SHIFT" "I" (.int (0 : Int32))) (OL : Sta Z Z.heap "java/lang/StringUTF16" "LO_BYTE_SHIFT" "I" (.int (8 : Int32))) :
    MetFree l (⟨"java/lang/StringUTF16", "toBytes", "(C)[B"⟩ : MethodName) (head1 (Jvm.Cond.code (⟨"java/lang/StringUTF16", "toBytes", "(C)[B"⟩ : MethodName) jdk_52_method_24_code 2 (some (.array .byte)) :: ws) ⟨1, 1, 2, 14⟩) (fun aA U => aA = #[(.int ch)] ∧ Z.Warmed39 U.vm ∧ U.heap = h0) (fun _ _ _ _ _ => True) (fun _ U oO U' => ∃ rV rL, oO = .returned rV ∧ QNew Z (2 : Int32) (StrChars.Road.wideBytes [ch]) h0 n0 rV U'.heap rL ∧ FrameEnd U oO U' rL 1 2) := by
  refine MetFree.of_bodySF (plainFor_of_name pn_1) hisR ?_
  intro p e s m args below meth cC s₁ Bd hml0 hP hK
  obtain ⟨rfl, hZ, hh⟩ := hP
  have hx := Bd.exec
  have hby := Bd.bytes
  have hml : cC.maxLocals = 2 := hml0
  have hown : s.vm.findClass "java/lang/StringUTF16" = some m.cls := findClass_of_methodNamed Bd.named
  have hnm := (name_of_methodNamed Bd.named Bd.method).1
  have hrt := Bd.returns
  have hlk : meth.locks = false := Bd.notSynchronized
  have X0 : Stand p l e ⟨1, 1, 2, 14⟩ s m #[(.int ch)] below meth cC s₁ [] 0 0 := Stand.of_body Bd
  have e0 : s₁.heap = h0 := by rw [← hh, Bd.state]; rfl
  have N0 := Fr.nil n0
  have Z0 : n0 ≤ h0.size := O0.1 ▸ O0.2.1
  show own_Go p e below (s₁.setTop (entryFrame m #[(.int ch)] 2)) (fun oO U' => ∃ rV rL, oO = .returned rV ∧ QNew Z (2 : Int32) (StrChars.Road.wideBytes [ch]) h0 n0 rV U'.heap rL ∧ FrameEnd s oO U' rL 1 2)
  refine own_go (fun _ k => castTop (ef_rm_wtb m ch) k) ?_
  refine og (fun _ k => XS.iconst X0.here hx rfl (hb hby d52_24_0) k) ?_
  obtain ⟨T308, h308, k308, X308, e308, E308, A308, st308⟩ := newP X0 hx hZ (tw hw 15 rfl) e0 (g := (mkF m 1 #[.val (.int ch), .unset] [(.int (2 : Int32))])) rfl (hb hby d52_24_1) rfl (by decide) (cap := 2) (by decide) (by decide) (by decide) (by decide)
  obtain ⟨b308, g308⟩ : ∃ z, z = h0.size := ⟨_, rfl⟩
  rw [← g308] at A308 st308
  refine own_go st308 ?_
  have V308 : Arv Z h308 b308 k308 .byte (2 : Int32) [(.int (0 : Int32)), (.int (0 : Int32))] (.int (0 : Int32)) := (Arv.new A308 (by decide)).pad (pad_rep [] (.int (0 : Int32)) 2)
  refine og (fun _ k => XS.astoreN X308.here hx rfl (hb hby d52_24_3) rfl rfl (l' := #[.val (.int ch), .val (.ref b308)]) rfl k) ?_
  refine og (fun _ k => XS.aloadN X308.here hx rfl (hb hby d52_24_4) rfl rfl k) ?_
  try dsimp only [mkF]
  refine og (fun _ k => XS.iconst X308.here hx rfl (hb hby d52_24_5) k) ?_
  refine og (fun _ k => XS.iloadN X308.here hx rfl (hb hby d52_24_6) rfl k) ?_
  obtain ⟨v309, _, ⟨T309, L309, k309, n309⟩, -, X309, ⟨Lc309, hQ309, l309, y309, z309⟩, st309⟩ := Jvm.LawKit.callS X308 hx (y := (⟨"java/lang/StringUTF16", "putChar", "([BII)V"⟩ : MethodName)) hown (mvT hZ (tw hw 214 rfl)) (mvT hZ (tw hw 215 rfl)) (mvT hZ (tw hw 109 rfl)) (mvT hZ (tw hw 216 rfl)) (by decide) (backOf (W := 0) (rm_put l Z a0 hw [] b308 k308 2 [(.int (0 : Int32)), (.int (0 : Int32))] 0 ch h308 n0 (O0.ext E308) OA OH OL V308 (Nat.le_trans Z0 (Nat.le_of_eq g308.symm)) rfl (by decide) (by decide)) hZ (tw hw 216 rfl) (tw hw 109 rfl) (by decide) (by decide)) (g := (mkF m 7 #[.val (.int ch), .val (.ref b308)] [(.int ch), (.int (0 : Int32)), (.ref b308)])) rfl (by rw [hml]; rfl) (argsL := [(.ref b308), (.int (0 : Int32)), (.int ch)]) (rest := []) (lenOf pd_3 rfl) rfl (by show 2 * 0 + _ ≤ _; exact Nat.le_of_eq rfl) (hb hby d52_24_7) (fun _ _ => ⟨rfl, e308, (by decide : 1 + 0 ≤ _), (by decide : 2 + 0 ≤ _)⟩)
  dsimp only [Pt.U, Pt.locs, Pt.cells, Pt.slots] at X309 l309 y309 z309 st309 hQ309
  subst l309 y309 z309
  refine own_go st309 ?_
  obtain ⟨rfl, Nq309, K309, Vb309⟩ := hQ309
  have N309 := Fr.app N0 Nq309
  refine og (fun _ k => XS.aloadN X309.here hx rfl (hb hby d52_24_10) rfl rfl k) ?_
  have f310 := (((Keep.refl h0 []).ext E308).trans K309 (allS (Or.inr (Nat.le_of_eq g308.symm)) all0))
  refine own_fin (v := (some (.ref b308))) X309 (fun h => by rw [hrt] at h; cases h) hlk (fun fs hr => retR X309 hx hrt (by rfl) rfl rfl (hb hby d52_24_11) hr) (QQ := QNew Z (2 : Int32) (StrChars.Road.wideBytes [ch]) h0 n0) ?_ (by decide) (by decide)
  exact ⟨b308, _, rfl, N309, f310, (Nat.le_of_eq g308.symm), Vb309⟩

def QIb (Z : State) (x t : Addr) (cd : Int32) (h0 : Heap) (n0 : Nat) (v : Option Value) (h : Heap) (L : List Loc) : Prop := v = none ∧ Fr n0 L ∧ Keep h0 h [x] ∧ Fld Z h x "java/lang/String" "value" "[B" (.ref t) ∧ Fld Z h x "java/lang/String" "coder" "B" (.int cd)
abbrev k42_151 := jdk_42_method_151_code
theorem d42_151_0 : Dk k42_151 0 (.aload_n 0) 1 := own_k
theorem d42_151_1 : Dk k42_151 1 (.invokespecial 1) 3 := own_k
theorem d42_151_4 : Dk k42_151 4 (.aload_n 0) 1 := own_k
theorem d42_151_5 : Dk k42_151 5 (.aload_n 1) 1 := own_k
theorem d42_151_6 : Dk k42_151 6 (.putfield 9) 3 := own_k
theorem d42_151_9 : Dk k42_151 9 (.aload_n 0) 1 := own_k
theorem d42_151_10 : Dk k42_151 10 (.iload_n 2) 1 := own_k
theorem d42_151_11 : Dk k42_151 11 (.putfield 15) 3 := own_k
theorem d42_151_14 : Dk k42_151 14 .return_ 1 := own_k
theorem ef_rm_ib0 (m : MethodId) (x0 : Addr) (x1 : Addr) (x2 : Int32) : entryFrame m #[(.ref x0), (.ref x1), (.int x2)] 3 = mkF m 0 #[.val (.ref x0), .val (.ref x1), .val (.int x2)] [] := by
   first | (simp [entryFrame, mkF, argsToLocals, Value.category]; done) | rfl
set_option maxRecDepth 65536 in
set_option maxHeartbeats 40000000 in
theorem rm_ib0 (l : Launch) (Z : State) (a0 : Array Value) (hw : ∀ d ∈ tables_1, d.before a0 Z = true) (ws : List Jvm.Cond) (x t : Addr) (h0 : Heap) (n0 : Nat) (O0 : Old Z n0 h0) (E_x : Exa Z h0 x "java/lang/String") (Fv_x : Fld Z h0 x "java/lang/String" "value" "[B" .null) (Fc_x : Fld Z h0 x "java/lang/String" "coder" "B" (.int (0 : Int32))) (g_x : n0 ≤ x) :
    MetFree l (⟨"java/lang/String", "<init>", "([BB)V"⟩ : MethodName) (head1 (Jvm.Cond.code (⟨"java/lang/String", "<init>", "([BB)V"⟩ : MethodName) jdk_42_method_151_code 3 none :: ws) ⟨1, 0, 0, 12⟩) (fun aA U => aA = #[(.ref x), (.ref t), (.int (0 : Int32))] ∧ Z.Warmed39 U.vm ∧ U.heap = h0) (fun _ _ _ _ _ => True) (fun _ U oO U' => ∃ rV rL, oO = .returned rV ∧ QIb Z x t (0 : Int32) h0 n0 rV U'.heap rL ∧ FrameEnd U oO U' rL 0 0) := by
  refine MetFree.of_bodySF (plainFor_of_name pn_0) hisR ?_
  intro p e s m args below meth cC s₁ Bd hml0 hP hK
  obtain ⟨rfl, hZ, hh⟩ := hP
  have hx := Bd.exec
  have hby := Bd.bytes
  have hml : cC.maxLocals = 3 := hml0
  have hown : s.vm.findClass "java/lang/String" = some m.cls := findClass_of_methodNamed Bd.named
  have hnm := (name_of_methodNamed Bd.named Bd.method).1
  have hrt := Bd.returns
  have hlk : meth.locks = false := Bd.notSynchronized
  have X0 : Stand p l e ⟨1, 0, 0, 12⟩ s m #[(.ref x), (.ref t), (.int (0 : Int32))] below meth cC s₁ [] 0 0 := Stand.of_body Bd
  have e0 : s₁.heap = h0 := by rw [← hh, Bd.state]; rfl
  have N0 := Fr.nil n0
  have Z0 : n0 ≤ h0.size := O0.1 ▸ O0.2.1
  show own_Go p e below (s₁.setTop (entryFrame m #[(.ref x), (.ref t), (.int (0 : Int32))] 3)) (fun oO U' => ∃ rV rL, oO = .returned rV ∧ QIb Z x t (0 : Int32) h0 n0 rV U'.heap rL ∧ FrameEnd s oO U' rL 0 0)
  refine own_go (fun _ k => castTop (ef_rm_ib0 m x t _) k) ?_
  refine og (fun _ k => XS.aloadN X0.here hx rfl (hb hby d42_151_0) rfl rfl k) ?_
  obtain ⟨T311, X311, e311, st311⟩ := initO X0 hx hZ hown (tw hw 11 rfl) (tw hw 12 rfl) (tw hw 13 rfl) e0 (g := (mkF m 1 #[.val (.ref x), .val (.ref t), .val (.int (0 : Int32))] [(.ref x)])) rfl (by rw [hml]; rfl) rfl (hb hby d42_151_1) (by decide) (W := 0) (by show 2 * 0 + _ ≤ _; exact Nat.le_of_eq rfl) (by decide)
  refine own_go st311 ?_
  refine og (fun _ k => XS.aloadN X311.here hx rfl (hb hby d42_151_4) rfl rfl k) ?_
  refine og (fun _ k => XS.aloadN X311.here hx rfl (hb hby d42_151_5) rfl rfl k) ?_
  try dsimp only [mkF]
  obtain ⟨T312, h312, X312, e312, W312, st312⟩ := putF X311 hx hZ hown (host := "") (Or.inl (tw hw 20 rfl)) Via.refl e311 Fv_x E_x (Or.inr ⟨(tw hw 16 rfl), rfl, hnm⟩) (tw hw 1 rfl) (ty := (.array .byte)) (by decide) rfl rfl (g := (mkF m 6 #[.val (.ref x), .val (.ref t), .val (.int (0 : Int32))] [(.ref t), (.ref x)])) rfl rfl (hb hby d42_151_6)
  refine own_go st312 ?_
  have N312 := Fr.snoc X312 N0 g_x
  have Fw312 := Fv_x.same W312
  refine og (fun _ k => XS.aloadN X312.here hx rfl (hb hby d42_151_9) rfl rfl k) ?_
  refine og (fun _ k => XS.iloadN X312.here hx rfl (hb hby d42_151_10) rfl k) ?_
  have f313 := (Fc_x.other W312 (Or.inr (slot_ne (Or.inr (tw hw 17 rfl)) (Or.inr (tw hw 16 rfl)) (by decide) (t := .byte) (t' := (.array .byte)) (by decide) (by decide))))
  obtain ⟨T314, h314, X314, e314, W314, st314⟩ := putFN X312 hx hZ hown (tw hw 21 rfl) Via.refl e312 f313 (E_x.wr W312) (Or.inr ⟨(tw hw 17 rfl), rfl, hnm⟩) (tw hw 1 rfl) (ty := .byte) (v' := (.int (0 : Int32))) (by decide) rfl rfl (g := (mkF m 11 #[.val (.ref x), .val (.ref t), .val (.int (0 : Int32))] [(.int (0 : Int32)), (.ref x)])) rfl rfl (hb hby d42_151_11)
  refine own_go st314 ?_
  have N314 := Fr.snoc X314 N312 g_x
  have Fw314 := f313.same W314
  have f315 := (((Keep.refl h0 [x]).wr W312 (Or.inl (List.mem_of_getElem? (i := 0) rfl))).wr W314 (Or.inl (List.mem_of_getElem? (i := 0) rfl)))
  have f316 := (Fw312.other W314 (Or.inr (slot_ne (Or.inr (tw hw 16 rfl)) (Or.inr (tw hw 17 rfl)) (by decide) (t := (.array .byte)) (t' := .byte) (by decide) (by decide))))
  refine own_fin (v := none) X314 (fun _ => rfl) hlk (fun fs hr => X314.returnOut hx hrt (hb hby d42_151_14) hr) (QQ := QIb Z x t (0 : Int32) h0 n0) ?_ (by decide) (by decide)
  rw [e314]
  exact ⟨rfl, N314, f315, f316, Fw314⟩

theorem ef_rm_ib1 (m : MethodId) (x0 : Addr) (x1 : Addr) (x2 : Int32) : entryFrame m #[(.ref x0), (.ref x1), (.int x2)] 3 = mkF m 0 #[.val (.ref x0), .val (.ref x1), .val (.int x2)] [] := by
   first | (simp [entryFrame, mkF, argsToLocals, Value.category]; done) | rfl
set_option maxRecDepth 65536 in
set_option maxHeartbeats 40000000 in
theorem rm_ib1 (l : Launch) (Z : State) (a0 : Array Value) (hw : ∀ d ∈ tables_1, d.before a0 Z = true) (ws : List Jvm.Cond) (x t : Addr) (h0 : Heap) (n0 : Nat) (O0 : Old Z n0 h0) (E_x : Exa Z h0 x "java/lang/String") (Fv_x : Fld Z h0 x "java/lang/String" "value" "[B" .null) (Fc_x : Fld Z h0 x "java/lang/String" "coder" "B" (.int (0 : Int32))) (g_x : n0 ≤ x) :
    MetFree l (⟨"java/lang/String", "<init>", "([BB)V"⟩ : MethodName) (head1 (Jvm.Cond.code (⟨"java/lang/String", "<init>", "([BB)V"⟩ : MethodName) jdk_42_method_151_code 3 none :: ws) ⟨1, 0, 0, 12⟩) (fun aA U => aA = #[(.ref x), (.ref t), (.int (1 : Int32))] ∧ Z.Warmed39 U.vm ∧ U.heap = h0) (fun _ _ _ _ _ => True) (fun _ U oO U' => ∃ rV rL, oO = .returned rV ∧ QIb Z x t (1 : Int32) h0 n0 rV U'.heap rL ∧ FrameEnd U oO U' rL 0 0) := by
  refine MetFree.of_bodySF (plainFor_of_name pn_0) hisR ?_
  intro p e s m args below meth cC s₁ Bd hml0 hP hK
  obtain ⟨rfl, hZ, hh⟩ := hP
  have hx := Bd.exec
  have hby := Bd.bytes
  have hml : cC.maxLocals = 3 := hml0
  have hown : s.vm.findClass "java/lang/String" = some m.cls := findClass_of_methodNamed Bd.named
  have hnm := (name_of_methodNamed Bd.named Bd.method).1
  have hrt := Bd.returns
  have hlk : meth.locks = false := Bd.notSynchronized
  have X0 : Stand p l e ⟨1, 0, 0, 12⟩ s m #[(.ref x), (.ref t), (.int (1 : Int32))] below meth cC s₁ [] 0 0 := Stand.of_body Bd
  have e0 : s₁.heap = h0 := by rw [← hh, Bd.state]; rfl
  have N0 := Fr.nil n0
  have Z0 : n0 ≤ h0.size := O0.1 ▸ O0.2.1
  show own_Go p e below (s₁.setTop (entryFrame m #[(.ref x), (.ref t), (.int (1 : Int32))] 3)) (fun oO U' => ∃ rV rL, oO = .returned rV ∧ QIb Z x t (1 : Int32) h0 n0 rV U'.heap rL ∧ FrameEnd s oO U' rL 0 0)
  refine own_go (fun _ k => castTop (ef_rm_ib1 m x t _) k) ?_
  refine og (fun _ k => XS.aloadN X0.here hx rfl (hb hby d42_151_0) rfl rfl k) ?_
  obtain ⟨T317, X317, e317, st317⟩ := initO X0 hx hZ hown (tw hw 11 rfl) (tw hw 12 rfl) (tw hw 13 rfl) e0 (g := (mkF m 1 #[.val (.ref x), .val (.ref t), .val (.int (1 : Int32))] [(.ref x)])) rfl (by rw [hml]; rfl) rfl (hb hby d42_151_1) (by decide) (W := 0) (by show 2 * 0 + _ ≤ _; exact Nat.le_of_eq rfl) (by decide)
  refine own_go st317 ?_
  refine og (fun _ k => XS.aloadN X317.here hx rfl (hb hby d42_151_4) rfl rfl k) ?_
  refine og (fun _ k => XS.aloadN X317.here hx rfl (hb hby d42_151_5) rfl rfl k) ?_
  try dsimp only [mkF]
  obtain ⟨T318, h318, X318, e318, W318, st318⟩ := putF X317 hx hZ hown (host := "") (Or.inl (tw hw 20 rfl)) Via.refl e317 Fv_x E_x (Or.inr ⟨(tw hw 16 rfl), rfl, hnm⟩) (tw hw 1 rfl) (ty := (.array .byte)) (by decide) rfl rfl (g := (mkF m 6 #[.val (.ref x), .val (.ref t), .val (.int (1 : Int32))] [(.ref t), (.ref x)])) rfl rfl (hb hby d42_151_6)
  refine own_go st318 ?_
  have N318 := Fr.snoc X318 N0 g_x
  have Fw318 := Fv_x.same W318
  refine og (fun _ k => XS.aloadN X318.here hx rfl (hb hby d42_151_9) rfl rfl k) ?_
  refine og (fun _ k => XS.iloadN X318.here hx rfl (hb hby d42_151_10) rfl k) ?_
  have f319 := (Fc_x.other W318 (Or.inr (slot_ne (Or.inr (tw hw 17 rfl)) (Or.inr (tw hw 16 rfl)) (by decide) (t := .byte) (t' := (.array .byte)) (by decide) (by decide))))
  obtain ⟨T320, h320, X320, e320, W320, st320⟩ := putFN X318 hx hZ hown (tw hw 21 rfl) Via.refl e318 f319 (E_x.wr W318) (Or.inr ⟨(tw hw 17 rfl), rfl, hnm⟩) (tw hw 1 rfl) (ty := .byte) (v' := (.int (1 : Int32))) (by decide) rfl rfl (g := (mkF m 11 #[.val (.ref x), .val (.ref t), .val (.int (1 : Int32))] [(.int (1 : Int32)), (.ref x)])) rfl rfl (hb hby d42_151_11)
  refine own_go st320 ?_
  have N320 := Fr.snoc X320 N318 g_x
  have Fw320 := f319.same W320
  have f321 := (((Keep.refl h0 [x]).wr W318 (Or.inl (List.mem_of_getElem? (i := 0) rfl))).wr W320 (Or.inl (List.mem_of_getElem? (i := 0) rfl)))
  have f322 := (Fw318.other W320 (Or.inr (slot_ne (Or.inr (tw hw 16 rfl)) (Or.inr (tw hw 17 rfl)) (by decide) (t := (.array .byte)) (t' := .byte) (by decide) (by decide))))
  refine own_fin (v := none) X320 (fun _ => rfl) hlk (fun fs hr => X320.returnOut hx hrt (hb hby d42_151_14) hr) (QQ := QIb Z x t (1 : Int32) h0 n0) ?_ (by decide) (by decide)
  rw [e320]
  exact ⟨rfl, N320, f321, f322, Fw320⟩

abbrev k42_139 := jdk_42_method_139_code
theorem d42_139_0 : Dk k42_139 0 (.getstatic 38) 3 := own_k
theorem d42_139_3 : Dk k42_139 3 (.ifCond .eq 23) 3 := own_k
theorem d42_139_6 : Dk k42_139 6 (.iload_n 0) 1 := own_k
theorem d42_139_7 : Dk k42_139 7 (.invokestatic 1015) 3 := own_k
theorem d42_139_10 : Dk k42_139 10 (.ifCond .eq 16) 3 := own_k
theorem d42_139_26 : Dk k42_139 26 (.new 10) 3 := own_k
theorem d42_139_29 : Dk k42_139 29 .dup 1 := own_k
theorem d42_139_30 : Dk k42_139 30 (.iload_n 0) 1 := own_k
theorem d42_139_31 : Dk k42_139 31 (.invokestatic 1021) 3 := own_k
theorem pd_32 : parseMethodDescriptor "(C)[B" = some ⟨[.char], some (.array .byte)⟩ := by decide +kernel
theorem d42_139_34 : Dk k42_139 34 (.iconst 1) 1 := own_k
theorem d42_139_35 : Dk k42_139 35 (.invokespecial 209) 3 := own_k
theorem pd_33 : parseMethodDescriptor "([BB)V" = some ⟨[(.array .byte), .byte], none⟩ := by decide +kernel
theorem d42_139_38 : Dk k42_139 38 .areturn 1 := own_k
theorem d42_139_13 : Dk k42_139 13 (.new 10) 3 := own_k
theorem d42_139_16 : Dk k42_139 16 .dup 1 := own_k
theorem d42_139_17 : Dk k42_139 17 (.iload_n 0) 1 := own_k
theorem d42_139_18 : Dk k42_139 18 (.invokestatic 1018) 3 := own_k
theorem d42_139_21 : Dk k42_139 21 (.iconst 0) 1 := own_k
theorem d42_139_22 : Dk k42_139 22 (.invokespecial 209) 3 := own_k
theorem d42_139_25 : Dk k42_139 25 .areturn 1 := own_k
theorem ef_rm_vof (m : MethodId) (x0 : Int32) : entryFrame m #[(.int x0)] 1 = mkF m 0 #[.val (.int x0)] [] := by
   first | (simp [entryFrame, mkF, argsToLocals, Value.category]; done) | rfl
set_option maxRecDepth 65536 in
set_option maxHeartbeats 40000000 in
theorem rm_vof (l : Launch) (Z : State) (a0 : Array Value) (hw : ∀ d ∈ tables_1, d.before a0 Z = true) (ws : List Jvm.Cond) (ch G1 : Int32) (h0 : Heap) (n0 : Nat) (O0 : Old Z n0 h0) (O2 : Sta Z Z.heap "java/lang/String" "COMPACT_STRINGS" "Z" (.int G1)) (P5 : ¬ (G1 = (0 : Int32))) (OA : Sta Z Z.heap "java/lang/StringUTF16" "$assertionsDisabled" "Z" (.int (1 : Int32))) (OH : Sta Z Z.heap "java/lang/StringUTF16" "HI_BYTE_SHIFT" "I" (.int (0 : Int32))) (OL : Sta Z Z.heap "java/lang/StringUTF16" "LO_BYTE_SHIFT" "I" (.int (8 : Int32))) :
    MetFree l (⟨"java/lang/String", "valueOf", "(C)Ljava/lang/String;"⟩ : MethodName) (head1 (Jvm.Cond.code (⟨"java/lang/String", "valueOf", "(C)Ljava/lang/String;"⟩ : MethodName) jdk_42_method_139_code 1 (some (.object "java/lang/String")) :: ws) ⟨2, 2, 6, 29⟩) (fun aA U => aA = #[(.int ch)] ∧ Z.Warmed39 U.vm ∧ U.heap = h0) (fun _ _ _ _ _ => True) (fun _ U oO U' => ∃ rV rL, oO = .returned rV ∧ QStrN Z [ch] h0 n0 rV U'.heap rL ∧ FrameEnd U oO U' rL 2 6) := by
  refine MetFree.of_bodySF (plainFor_of_name pn_0) hisR ?_
  intro p e s m args below meth cC s₁ Bd hml0 hP hK
  obtain ⟨rfl, hZ, hh⟩ := hP
  have hx := Bd.exec
  have hby := Bd.bytes
  have hml : cC.maxLocals = 1 := hml0
  have hown : s.vm.findClass "java/lang/String" = some m.cls := findClass_of_methodNamed Bd.named
  have hnm := (name_of_methodNamed Bd.named Bd.method).1
  have hrt := Bd.returns
  have hlk : meth.locks = false := Bd.notSynchronized
  have X0 : Stand p l e ⟨2, 2, 6, 29⟩ s m #[(.int ch)] below meth cC s₁ [] 0 0 := Stand.of_body Bd
  have e0 : s₁.heap = h0 := by rw [← hh, Bd.state]; rfl
  have N0 := Fr.nil n0
  have Z0 : n0 ≤ h0.size := O0.1 ▸ O0.2.1
  show own_Go p e below (s₁.setTop (entryFrame m #[(.int ch)] 1)) (fun oO U' => ∃ rV rL, oO = .returned rV ∧ QStrN Z [ch] h0 n0 rV U'.heap rL ∧ FrameEnd s oO U' rL 2 6)
  refine own_go (fun _ k => castTop (ef_rm_vof m ch) k) ?_
  obtain ⟨T323, X323, e323, st323⟩ := getS2 X0 hx hZ hown (host := "") (Or.inl (tw hw 54 rfl)) Via.refl e0 (O2.ext O0.2) (g := (mkF m 0 #[.val (.int ch)] [])) rfl (hb hby d42_139_0)
  refine own_go st323 ?_
  refine og (fun _ k => XS.ifNo X323.here hx rfl (hb hby d42_139_3) rfl ((if0 _ _).trans (feq P5).1) k) ?_
  refine og (fun _ k => XS.iloadN X323.here hx rfl (hb hby d42_139_6) rfl k) ?_
  obtain ⟨v324, _, ⟨T324, L324, k324, n324⟩, -, X324, ⟨Lc324, hQ324, l324, y324, z324⟩, st324⟩ := Jvm.LawKit.callS X323 hx (y := (⟨"java/lang/StringLatin1", "canEncode", "(C)Z"⟩ : MethodName)) hown (mvT hZ (tw hw 196 rfl)) (mvT hZ (tw hw 180 rfl)) (mvT hZ (tw hw 129 rfl)) (mvT hZ (tw hw 181 rfl)) (by decide) (backOf (W := 0) (rm_cec l Z a0 hw [] ch h0 n0 O0 ) hZ (tw hw 181 rfl) (tw hw 129 rfl) (by decide) (by decide)) (g := (mkF m 7 #[.val (.int ch)] [(.int ch)])) rfl (by rw [hml]; rfl) (argsL := [(.int ch)]) (rest := []) (lenOf pd_19 rfl) rfl (by show 2 * 0 + _ ≤ _; exact Nat.le_of_eq rfl) (hb hby d42_139_7) (fun _ _ => ⟨rfl, e323, (by decide : 0 + 0 ≤ _), (by decide : 0 + 0 ≤ _)⟩)
  dsimp only [Pt.U, Pt.locs, Pt.cells, Pt.slots] at X324 l324 y324 z324 st324 hQ324
  subst l324 y324 z324
  refine own_go st324 ?_
  obtain ⟨rfl, Nq324, e324⟩ := hQ324
  have N324 := Fr.app N0 Nq324
  try dsimp only [mkF]
  by_cases hc325 : (own_ce ch) = (0 : Int32)
  · skip
    refine og (fun _ k => XS.ifYes X324.here hx rfl (pc0 := 10) (pc' := 26) rfl (hb hby d42_139_10) rfl ((if0 _ _).trans (teq hc325).1) (by decide) (by decide) k) ?_
    obtain ⟨T326, h326, X326, e326, E326, A326, D326, U326, st326⟩ := newO X324 hx hZ hown (tw hw 197 rfl) (tw hw 1 rfl) (tw hw 2 rfl) e324 (g := (mkF m 26 #[.val (.int ch)] [])) rfl (hb hby d42_139_26) (by decide) (by decide)
    obtain ⟨b326, g326⟩ : ∃ z, z = h0.size := ⟨_, rfl⟩
    rw [← g326] at A326 D326 U326 st326
    refine own_go st326 ?_
    have F326_value : Fld Z h326 b326 "java/lang/String" "value" "[B" .null := D326 (Or.inr (tw hw 16 rfl)) (ty := (.array .byte)) (by decide)
    have F326_coder : Fld Z h326 b326 "java/lang/String" "coder" "B" (.int (0 : Int32)) := D326 (Or.inr (tw hw 17 rfl)) (ty := .byte) (by decide)
    refine og (fun _ k => XS.dup X326.here hx rfl (hb hby d42_139_29) rfl rfl k) ?_
    refine og (fun _ k => XS.iloadN X326.here hx rfl (hb hby d42_139_30) rfl k) ?_
    obtain ⟨v327, _, ⟨T327, L327, k327, n327⟩, -, X327, ⟨Lc327, hQ327, l327, y327, z327⟩, st327⟩ := Jvm.LawKit.callS X326 hx (y := (⟨"java/lang/StringUTF16", "toBytes", "(C)[B"⟩ : MethodName)) hown (mvT hZ (tw hw 287 rfl)) (mvT hZ (tw hw 288 rfl)) (mvT hZ (tw hw 109 rfl)) (mvT hZ (tw hw 289 rfl)) (by decide) (backOf (W := 2) (rm_wtb l Z a0 hw [] ch h326 n0 (O0.ext E326) OA OH OL) hZ (tw hw 289 rfl) (tw hw 109 rfl) (by decide) (by decide)) (g := (mkF m 31 #[.val (.int ch)] [(.int ch), (.ref b326), (.ref b326)])) rfl (by rw [hml]; rfl) (argsL := [(.int ch)]) (rest := [(.ref b326), (.ref b326)]) (lenOf pd_32 rfl) rfl (by show 2 * 0 + _ ≤ _; exact Nat.le_of_eq rfl) (hb hby d42_139_31) (fun _ _ => ⟨rfl, e326, (by decide : 1 + 1 ≤ _), (by decide : 4 + 2 ≤ _)⟩)
    dsimp only [Pt.U, Pt.locs, Pt.cells, Pt.slots] at X327 l327 y327 z327 st327 hQ327
    subst l327 y327 z327
    refine own_go st327 ?_
    obtain ⟨t327, kt327, rfl, Nq327, K327, tg327, Vt327⟩ := hQ327
    have N327 := Fr.app N324 Nq327
    try dsimp only [mkF]
    refine og (fun _ k => XS.iconst X327.here hx rfl (hb hby d42_139_34) k) ?_
    have f328 := (F326_value.keep K327 nin0)
    have f329 := (F326_coder.keep K327 nin0)
    have f330 := ((O0.ext E326).keep K327 all0)
    obtain ⟨v331, _, ⟨T331, L331, k331, n331⟩, -, X331, ⟨Lc331, hQ331, l331, y331, z331⟩, st331⟩ := X327.specialBack hx (y := (⟨"java/lang/String", "<init>", "([BB)V"⟩ : MethodName)) rfl hown (mvT hZ (tw hw 201 rfl)) (mvT hZ (tw hw 202 rfl)) (mvT hZ (tw hw 203 rfl)) (by decide) (backOf (W := 1) (rm_ib1 l Z a0 hw [] b326 t327 T327.heap n0 f330 (A326.keep K327) f328 f329 (Nat.le_trans Z0 (Nat.le_of_eq g326.symm))) hZ (tw hw 203 rfl) (tw hw 2 rfl) (by decide) (by decide)) (g := (mkF m 35 #[.val (.int ch)] [(.int (1 : Int32)), (.ref t327), (.ref b326), (.ref b326)])) rfl (by rw [hml]; rfl) (Steps.refl _) (a := b326) (argsL := [(.ref t327), (.int (1 : Int32))]) (rest := [(.ref b326)]) (lenOf pd_33 rfl) rfl (by show 2 * 0 + _ ≤ _; exact Nat.le_of_eq rfl) (hb hby d42_139_35) (fun _ _ => ⟨rfl, (rfl : T327.heap = T327.heap), (by decide : 2 + 0 ≤ _), (by decide : 6 + 0 ≤ _)⟩)
    dsimp only [Pt.U, Pt.locs, Pt.cells, Pt.slots] at X331 l331 y331 z331 st331 hQ331
    subst l331 y331 z331
    refine own_gos st331 ?_
    obtain ⟨rfl, Nq331, K331, Fv331, Fc331⟩ := hQ331
    have N331 := Fr.app N327 Nq331
    have f332 := ((((Keep.refl h0 []).ext E326).trans K327 all0).trans K331 (allS (Or.inr (Nat.le_of_eq g326.symm)) all0))
    have f333 := ((A326.keep K327).keep K331)
    have ne334 : b326 ≠ t327 := Nat.ne_of_lt (Nat.lt_of_lt_of_le A326.lt tg327)
    have f335 := (Vt327.keep K331 (ninS (Ne.symm ne334) nin0))
    refine own_fin (v := (some (.ref b326))) X331 (fun h => by rw [hrt] at h; cases h) hlk (fun fs hr => retR X331 hx hrt (by rfl) rfl rfl (hb hby d42_139_38) hr) (QQ := QStrN Z [ch] h0 n0) ?_ (by decide) (by decide)
    exact ⟨b326, t327, _, _, _, _, rfl, N331, f332, (Nat.le_of_eq g326.symm), f333, Fv331, Fc331, f335, Or.inr ⟨rfl, rfl, rfl, ch, List.mem_singleton.mpr rfl, own_ce0 hc325⟩⟩
  · skip
    refine og (fun _ k => XS.ifNo X324.here hx rfl (hb hby d42_139_10) rfl ((if0 _ _).trans (feq hc325).1) k) ?_
    obtain ⟨T336, h336, X336, e336, E336, A336, D336, U336, st336⟩ := newO X324 hx hZ hown (tw hw 197 rfl) (tw hw 1 rfl) (tw hw 2 rfl) e324 (g := (mkF m 13 #[.val (.int ch)] [])) rfl (hb hby d42_139_13) (by decide) (by decide)
    obtain ⟨b336, g336⟩ : ∃ z, z = h0.size := ⟨_, rfl⟩
    rw [← g336] at A336 D336 U336 st336
    refine own_go st336 ?_
    have F336_value : Fld Z h336 b336 "java/lang/String" "value" "[B" .null := D336 (Or.inr (tw hw 16 rfl)) (ty := (.array .byte)) (by decide)
    have F336_coder : Fld Z h336 b336 "java/lang/String" "coder" "B" (.int (0 : Int32)) := D336 (Or.inr (tw hw 17 rfl)) (ty := .byte) (by decide)
    refine og (fun _ k => XS.dup X336.here hx rfl (hb hby d42_139_16) rfl rfl k) ?_
    refine og (fun _ k => XS.iloadN X336.here hx rfl (hb hby d42_139_17) rfl k) ?_
    obtain ⟨v337, _, ⟨T337, L337, k337, n337⟩, -, X337, ⟨Lc337, hQ337, l337, y337, z337⟩, st337⟩ := Jvm.LawKit.callS X336 hx (y := (⟨"java/lang/StringLatin1", "toBytes", "(C)[B"⟩ : MethodName)) hown (mvT hZ (tw hw 198 rfl)) (mvT hZ (tw hw 199 rfl)) (mvT hZ (tw hw 129 rfl)) (mvT hZ (tw hw 200 rfl)) (by decide) (backOf (W := 2) (rm_ltb l Z a0 hw [] ch h336 n0 (O0.ext E336) ) hZ (tw hw 200 rfl) (tw hw 129 rfl) (by decide) (by decide)) (g := (mkF m 18 #[.val (.int ch)] [(.int ch), (.ref b336), (.ref b336)])) rfl (by rw [hml]; rfl) (argsL := [(.int ch)]) (rest := [(.ref b336), (.ref b336)]) (lenOf pd_32 rfl) rfl (by show 2 * 0 + _ ≤ _; exact Nat.le_of_eq rfl) (hb hby d42_139_18) (fun _ _ => ⟨rfl, e336, (by decide : 1 + 1 ≤ _), (by decide : 4 + 1 ≤ _)⟩)
    dsimp only [Pt.U, Pt.locs, Pt.cells, Pt.slots] at X337 l337 y337 z337 st337 hQ337
    subst l337 y337 z337
    refine own_go st337 ?_
    obtain ⟨t337, kt337, rfl, Nq337, K337, tg337, Vt337⟩ := hQ337
    have N337 := Fr.app N324 Nq337
    try dsimp only [mkF]
    refine og (fun _ k => XS.iconst X337.here hx rfl (hb hby d42_139_21) k) ?_
    have f338 := (F336_value.keep K337 nin0)
    have f339 := (F336_coder.keep K337 nin0)
    have f340 := ((O0.ext E336).keep K337 all0)
    obtain ⟨v341, _, ⟨T341, L341, k341, n341⟩, -, X341, ⟨Lc341, hQ341, l341, y341, z341⟩, st341⟩ := X337.specialBack hx (y := (⟨"java/lang/String", "<init>", "([BB)V"⟩ : MethodName)) rfl hown (mvT hZ (tw hw 201 rfl)) (mvT hZ (tw hw 202 rfl)) (mvT hZ (tw hw 203 rfl)) (by decide) (backOf (W := 1) (rm_ib0 l Z a0 hw [] b336 t337 T337.heap n0 f340 (A336.keep K337) f338 f339 (Nat.le_trans Z0 (Nat.le_of_eq g336.symm))) hZ (tw hw 203 rfl) (tw hw 2 rfl) (by decide) (by decide)) (g := (mkF m 22 #[.val (.int ch)] [(.int (0 : Int32)), (.ref t337), (.ref b336), (.ref b336)])) rfl (by rw [hml]; rfl) (Steps.refl _) (a := b336) (argsL := [(.ref t337), (.int (0 : Int32))]) (rest := [(.ref b336)]) (lenOf pd_33 rfl) rfl (by show 2 * 0 + _ ≤ _; exact Nat.le_of_eq rfl) (hb hby d42_139_22) (fun _ _ => ⟨rfl, (rfl : T337.heap = T337.heap), (by decide : 2 + 0 ≤ _), (by decide : 5 + 0 ≤ _)⟩)
    dsimp only [Pt.U, Pt.locs, Pt.cells, Pt.slots] at X341 l341 y341 z341 st341 hQ341
    subst l341 y341 z341
    refine own_gos st341 ?_
    obtain ⟨rfl, Nq341, K341, Fv341, Fc341⟩ := hQ341
    have N341 := Fr.app N337 Nq341
    have f342 := ((((Keep.refl h0 []).ext E336).trans K337 all0).trans K341 (allS (Or.inr (Nat.le_of_eq g336.symm)) all0))
    have f343 := ((A336.keep K337).keep K341)
    have ne344 : b336 ≠ t337 := Nat.ne_of_lt (Nat.lt_of_lt_of_le A336.lt tg337)
    have f345 := (Vt337.keep K341 (ninS (Ne.symm ne344) nin0))
    refine own_fin (v := (some (.ref b336))) X341 (fun h => by rw [hrt] at h; cases h) hlk (fun fs hr => retR X341 hx hrt (by rfl) rfl rfl (hb hby d42_139_25) hr) (QQ := QStrN Z [ch] h0 n0) ?_ (by decide) (by decide)
    exact ⟨b336, t337, _, _, _, _, rfl, N341, f342, (Nat.le_of_eq g336.symm), f343, Fv341, Fc341, f345, Or.inl ⟨rfl, rfl, rfl, fun c hc => by rw [List.mem_singleton.mp hc]; exact own_ce1 hc325⟩⟩

def own_sq (c f l : Int32) : Int32 := if c = (32 : Int32) then (if f = (0 : Int32) then (if l = (0 : Int32) then 0 else 1) else 1) else 0
def own_sp (c f l : Int32) : Int32 := if c = (92 : Int32) then 1 else if c = (44 : Int32) then 1 else if c = (43 : Int32) then 1 else if c = (34 : Int32) then 1 else if c = (59 : Int32) then 1 else if c = (60 : Int32) then 1 else if c = (62 : Int32) then 1 else if c = (35 : Int32) then (if f = (0 : Int32) then own_sq c f l else 1) else own_sq c f l
def own_DS : List Int32 := [92, 44, 43, 34, 59, 60, 62]
def own_ex (c f l : Int32) : List Int32 := if c = (0 : Int32) then [92, 48, 48] else if own_sp c f l = 0 then [c] else [92, c]
theorem own_spY1 {c f l : Int32} (h : c ∈ own_DS) : ¬ own_sp c f l = 0 := by
  simp only [own_DS, List.mem_cons, List.not_mem_nil, or_false] at h
  rcases h with rfl | rfl | rfl | rfl | rfl | rfl | rfl <;> exact (by decide : ¬ (1 : Int32) = 0)
theorem own_spY2 {c f l : Int32} (h : c = 35) (hf : ¬ f = 0) : ¬ own_sp c f l = 0 := by
  subst h
  show ¬ (if f = (0 : Int32) then own_sq 35 f l else 1) = 0
  rw [if_neg hf]; decide
theorem own_spY3 {c f l : Int32} (h : c = 32) (hf : ¬ f = 0 ∨ ¬ l = 0) : ¬ own_sp c f l = 0 := by
  subst h
  show ¬ (if f = (0 : Int32) then (if l = (0 : Int32) then (0 : Int32) else 1) else 1) = 0
  by_cases q : f = 0
  · rw [if_pos q, if_neg (hf.resolve_left (fun z => z q))]; decide
  · rw [if_neg q]; decide
theorem own_sq0 {c f l : Int32} (h : c = 32 → f = 0 ∧ l = 0) : own_sq c f l = 0 := by
  unfold own_sq
  by_cases q : c = (32 : Int32)
  · rw [if_pos q, if_pos (h q).1, if_pos (h q).2]
  · rw [if_neg q]
theorem own_spN {c f l : Int32} (h : ¬ c ∈ own_DS) (h2 : c = 35 → f = 0) (h3 : c = 32 → f = 0 ∧ l = 0) : own_sp c f l = 0 := by
  have h' : ¬ c = 92 ∧ ¬ c = 44 ∧ ¬ c = 43 ∧ ¬ c = 34 ∧ ¬ c = 59 ∧ ¬ c = 60 ∧ ¬ c = 62 := by
    simp only [own_DS, List.mem_cons, List.not_mem_nil, or_false, not_or] at h; exact h
  obtain ⟨a1, a2, a3, a4, a5, a6, a7⟩ := h'
  unfold own_sp
  rw [if_neg a1, if_neg a2, if_neg a3, if_neg a4, if_neg a5, if_neg a6, if_neg a7]
  by_cases q : c = (35 : Int32)
  · rw [if_pos q, if_pos (h2 q)]; exact own_sq0 h3
  · rw [if_neg q]; exact own_sq0 h3
def own_fl (i : Nat) : Int32 := if i = 0 then 1 else 0
def own_la (n i : Nat) : Int32 := if i + 1 = n then 1 else 0
def own_escP (cs : List Int32) : Nat → List Int32
  | 0 => []
  | i + 1 => own_escP cs i ++ own_ex (cs.getD i 0) (own_fl i) (own_la cs.length i)
theorem own_exl (c f l : Int32) : (own_ex c f l).length ≤ 3 := by
  unfold own_ex; split
  · exact Nat.le_of_ble_eq_true rfl
  split <;> exact Nat.le_of_ble_eq_true rfl
theorem own_escl (cs : List Int32) : ∀ i, (own_escP cs i).length ≤ 3 * i
  | 0 => Nat.le_refl _
  | i + 1 => by
    show (own_escP cs i ++ own_ex _ _ _).length ≤ _
    rw [List.length_append]
    have h1 := own_escl cs i
    have h2 := own_exl (cs.getD i 0) (own_fl i) (own_la cs.length i)
    omega
theorem own_exb {c f l : Int32} (h : ¬ c < 0 ∧ ¬ (65535 : Int32) < c) : ∀ d ∈ own_ex c f l, ¬ d < 0 ∧ ¬ (65535 : Int32) < d := fun d hd => by
  unfold own_ex at hd; split at hd
  · simp only [List.mem_cons, List.not_mem_nil, or_false] at hd
    rcases hd with rfl | rfl | rfl <;> decide
  split at hd
  · rw [List.mem_singleton.mp hd]; exact h
  · simp only [List.mem_cons, List.not_mem_nil, or_false] at hd
    rcases hd with rfl | rfl
    · decide
    · exact h
theorem own_escb {cs : List Int32} (hok : own_Ok cs) : ∀ i, i ≤ cs.length → ∀ d ∈ own_escP cs i, ¬ d < 0 ∧ ¬ (65535 : Int32) < d
  | 0, _, d, hd => nomatch hd
  | i + 1, h, d, hd => by
    rcases List.mem_append.mp hd with q | q
    · exact own_escb hok i (by omega) d q
    · exact own_exb (hok.at (by omega)) d q
theorem own_escOk {cs : List Int32} (hok : own_Ok cs) (h4 : cs.length ≤ 4) {i : Nat} (hi : i ≤ cs.length) : own_Ok (own_escP cs i) := ⟨own_escb hok i hi, by have := own_escl cs i; omega⟩
theorem own_e0 {cs : List Int32} {i : Nat} (h : cs.getD i 0 = 0) : own_escP cs i ++ [92, 48, 48] = own_escP cs (i + 1) := by
  show _ = own_escP cs i ++ own_ex _ _ _
  unfold own_ex; rw [if_pos h]
theorem own_e1 {cs : List Int32} {i : Nat} (h : ¬ cs.getD i 0 = 0) (q : own_sp (cs.getD i 0) (own_fl i) (own_la cs.length i) = 0) : own_escP cs i ++ [cs.getD i 0] = own_escP cs (i + 1) := by
  show _ = own_escP cs i ++ own_ex _ _ _
  unfold own_ex; rw [if_neg h, if_pos q]
theorem own_e2 {cs : List Int32} {i : Nat} (h : ¬ cs.getD i 0 = 0) (q : ¬ own_sp (cs.getD i 0) (own_fl i) (own_la cs.length i) = 0) : (own_escP cs i ++ [92]) ++ [cs.getD i 0] = own_escP cs (i + 1) := by
  show _ = own_escP cs i ++ own_ex _ _ _
  unfold own_ex; rw [if_neg h, if_neg q, List.append_assoc]; rfl
theorem own_inc2 (i : Nat) : Int32.ofNat i + (2 : Int32) = Int32.ofNat (i + 2) := (Int32.ofNat_add i 2).symm
theorem own_exw (c f l : Int32) : Int32.ofNat (own_ex c f l).length = if c = (0 : Int32) then 3 else if own_sp c f l = (0 : Int32) then 1 else 2 := by
  unfold own_ex; split
  · rfl
  split <;> rfl
def QIx (cs : List Int32) (ch : Int32) (h0 : Heap) (n0 : Nat) (v : Option Value) (h : Heap) (L : List Loc) : Prop := ∃ r : Int32, v = some (.int r) ∧ Fr n0 L ∧ h = h0 ∧ ((¬ r < 0 ∧ ch ∈ cs) ∨ (r < 0 ∧ ¬ ch ∈ cs))
theorem own_loinj {x c : Int32} (h0 : ¬ x < 0) (h1 : ¬ (255 : Int32) < x) (g0 : ¬ c < 0) (g1 : ¬ (255 : Int32) < c) (e : StrChars.lo8 x = c.toInt8.toInt32) : x = c := by
  have e' : StrChars.lo8 x = StrChars.lo8 c := e
  rw [← StrChars.lo8_mask h0 h1, ← StrChars.lo8_mask g0 g1, e']
theorem own_lgd {cs : List Int32} {i : Nat} (hi : i < cs.length) (h : cs.length ≤ 4000) : (own_lat cs).getD (Int32.ofNat i).toNatClampNeg (.int (0 : Int32)) = Value.int (StrChars.lo8 (cs.getD i 0)) := by
  rw [own_tn (by omega)]
  simp [own_lat, List.getD_eq_getElem?_getD, hi]
theorem own_nomem {cs : List Int32} {c : Int32} (h : ∀ j, j < cs.length → ¬ cs.getD j 0 = c) : ¬ c ∈ cs := fun q => by
  obtain ⟨j, hj, e⟩ := List.getElem_of_mem q
  exact h j hj (by rw [show cs.getD j 0 = cs[j] by simp [List.getD_eq_getElem?_getD, hj]]; exact e)
theorem own_mem_of {cs : List Int32} {c : Int32} {i : Nat} (hi : i < cs.length) (e : cs.getD i 0 = c) : c ∈ cs := e ▸ own_getm hi
theorem own_minself (x : Int32) : x = if x < x then x else x := by split <;> rfl
theorem own_empty {cs : List Int32} {c : Int32} (h : ¬ (0 : Int32) < Int32.ofNat cs.length) (hl : cs.length ≤ 4000) : ¬ c ∈ cs := by
  have : ¬ 0 < cs.length := fun q => h ((own_lti (i := 0) (by omega) (by omega)).mpr q)
  have e : cs = [] := List.eq_nil_of_length_eq_zero (by omega)
  rw [e]; exact List.not_mem_nil
theorem own_irr (x : Int32) : ¬ x < x := by rw [Int32.lt_iff_toInt_lt]; omega
theorem own_lt65 {c : Int32} (h : ¬ (255 : Int32) < c) : c < (65536 : Int32) := by
  rw [Int32.lt_iff_toInt_lt] at h ⊢
  have e1 : (65536 : Int32).toInt = 65536 := rfl
  have e2 : (255 : Int32).toInt = 255 := rfl
  omega
theorem own_wpos {cs : List Int32} {c : Int32} (h : c ∈ cs) : 0 < cs.length := List.length_pos_of_mem h
abbrev k43_23 := jdk_43_method_23_code
theorem d43_23_0 : Dk k43_23 0 (.iload_n 1) 1 := own_k
theorem d43_23_1 : Dk k43_23 1 .i2b 1 := own_k
theorem d43_23_2 : Dk k43_23 2 (.istore 4) 2 := own_k
theorem d43_23_4 : Dk k43_23 4 (.iload_n 2) 1 := own_k
theorem d43_23_5 : Dk k43_23 5 (.istore 5) 2 := own_k
theorem d43_23_7 : Dk k43_23 7 (.iload 5) 2 := own_k
theorem d43_23_9 : Dk k43_23 9 (.iload_n 3) 1 := own_k
theorem d43_23_10 : Dk k43_23 10 (.if_icmp .ge 21) 3 := own_k
theorem d43_23_31 : Dk k43_23 31 (.iconst (-1)) 1 := own_k
theorem d43_23_32 : Dk k43_23 32 .ireturn 1 := own_k
theorem d43_23_13 : Dk k43_23 13 (.aload_n 0) 1 := own_k
theorem d43_23_14 : Dk k43_23 14 (.iload 5) 2 := own_k
theorem d43_23_16 : Dk k43_23 16 .baload 1 := own_k
theorem d43_23_17 : Dk k43_23 17 (.iload 4) 2 := own_k
theorem d43_23_19 : Dk k43_23 19 (.if_icmp .ne 6) 3 := own_k
theorem d43_23_22 : Dk k43_23 22 (.iload 5) 2 := own_k
theorem d43_23_24 : Dk k43_23 24 .ireturn 1 := own_k
theorem d43_23_25 : Dk k43_23 25 (.iinc 5 1) 3 := own_k
theorem d43_23_28 : Dk k43_23 28 (.goto (-21)) 3 := own_k
theorem ef_rm_lic (m : MethodId) (x0 : Addr) (x1 : Int32) (x2 : Int32) (x3 : Int32) : entryFrame m #[(.ref x0), (.int x1), (.int x2), (.int x3)] 6 = mkF m 0 #[.val (.ref x0), .val (.int x1), .val (.int x2), .val (.int x3), .unset, .unset] [] := by
   first | (simp [entryFrame, mkF, argsToLocals, Value.category]; done) | rfl
set_option maxRecDepth 65536 in
set_option maxHeartbeats 40000000 in
theorem rm_lic (l : Launch) (Z : State) (a0 : Array Value) (hw : ∀ d ∈ tables_1, d.before a0 Z = true) (ws : List Jvm.Cond) (t : Addr) (k : ClassId) (cs : List Int32) (ch : Int32) (h0 : Heap) (n0 : Nat) (O0 : Old Z n0 h0) (V_t : Arv Z h0 t k .byte (Int32.ofNat cs.length) (own_lat cs) (.int (0 : Int32))) (hok : own_Ok cs) (ha : ∀ c ∈ cs, ¬ (255 : Int32) < c) (hc0 : ¬ ch < 0) (hc1 : ¬ (255 : Int32) < ch) :
    MetFree l (⟨"java/lang/StringLatin1", "indexOfChar", "([BIII)I"⟩ : MethodName) (head1 (Jvm.Cond.code (⟨"java/lang/StringLatin1", "indexOfChar", "([BIII)I"⟩ : MethodName) jdk_43_method_23_code 6 (some .int) :: ws) ⟨0, 0, 0, 0⟩) (fun aA U => aA = #[(.ref t), (.int ch), (.int (0 : Int32)), (.int (Int32.ofNat cs.length))] ∧ Z.Warmed39 U.vm ∧ U.heap = h0) (fun _ _ _ _ _ => True) (fun _ U oO U' => ∃ rV rL, oO = .returned rV ∧ QIx cs ch h0 n0 rV U'.heap rL ∧ FrameEnd U oO U' rL 0 0) := by
  refine MetFree.of_bodySF (plainFor_of_name pn_4) hisR ?_
  intro p e s m args below meth cC s₁ Bd hml0 hP hK
  obtain ⟨rfl, hZ, hh⟩ := hP
  have hx := Bd.exec
  have hby := Bd.bytes
  have hml : cC.maxLocals = 6 := hml0
  have hown : s.vm.findClass "java/lang/StringLatin1" = some m.cls := findClass_of_methodNamed Bd.named
  have hnm := (name_of_methodNamed Bd.named Bd.method).1
  have hrt := Bd.returns
  have hlk : meth.locks = false := Bd.notSynchronized
  have X0 : Stand p l e ⟨0, 0, 0, 0⟩ s m #[(.ref t), (.int ch), (.int (0 : Int32)), (.int (Int32.ofNat cs.length))] below meth cC s₁ [] 0 0 := Stand.of_body Bd
  have e0 : s₁.heap = h0 := by rw [← hh, Bd.state]; rfl
  have N0 := Fr.nil n0
  have Z0 : n0 ≤ h0.size := O0.1 ▸ O0.2.1
  show own_Go p e below (s₁.setTop (entryFrame m #[(.ref t), (.int ch), (.int (0 : Int32)), (.int (Int32.ofNat cs.length))] 6)) (fun oO U' => ∃ rV rL, oO = .returned rV ∧ QIx cs ch h0 n0 rV U'.heap rL ∧ FrameEnd s oO U' rL 0 0)
  refine own_go (fun _ k => castTop (ef_rm_lic m t ch _ _) k) ?_
  have hlen : cs.length ≤ 4000 := hok.2
  refine og (fun _ k => XS.iloadN X0.here hx rfl (hb hby d43_23_0) rfl k) ?_
  refine og (fun _ k => XS.i2b X0.here hx rfl (hb hby d43_23_1) rfl k) ?_
  refine og (fun _ k => XS.istore X0.here hx rfl (hb hby d43_23_2) rfl (l' := #[.val (.ref t), .val (.int ch), .val (.int (0 : Int32)), .val (.int (Int32.ofNat cs.length)), .val (.int (ch.toInt8.toInt32)), .unset]) rfl k) ?_
  refine og (fun _ k => XS.iloadN X0.here hx rfl (hb hby d43_23_4) rfl k) ?_
  try dsimp only [mkF]
  refine og (fun _ k => XS.istore X0.here hx rfl (hb hby d43_23_5) rfl (l' := #[.val (.ref t), .val (.int ch), .val (.int (0 : Int32)), .val (.int (Int32.ofNat cs.length)), .val (.int (ch.toInt8.toInt32)), .val (.int (0 : Int32))]) rfl k) ?_
  have loop : ∀ (kT iloop : Nat) (T : State) (locs : List Loc) (h : Heap), iloop + kT = cs.length → Stand p l e ⟨0, 0, 0, 0⟩ s m #[(.ref t), (.int ch), (.int (0 : Int32)), (.int (Int32.ofNat cs.length))] below meth cC T locs 0 0 → T.heap = h → Fr n0 locs → Old Z n0 h → Keep h0 h [] → Arv Z h t k .byte (Int32.ofNat cs.length) (own_lat cs) (.int (0 : Int32)) → (∀ j, j < iloop → ¬ cs.getD j 0 = ch) → (h = h0) → own_Go p e below (T.setTop (mkF m 7 #[.val (.ref t), .val (.int ch), .val (.int (0 : Int32)), .val (.int (Int32.ofNat cs.length)), .val (.int (ch.toInt8.toInt32)), .val (.int (Int32.ofNat iloop))] [])) (fun oO U' => ∃ rV rL, oO = .returned rV ∧ QIx cs ch h0 n0 rV U'.heap rL ∧ FrameEnd s oO U' rL 0 0) := by
    intro kT
    induction kT with
    | zero =>
      intro iloop T346 L346 h346 hik X346 e346 N346 O346 K346 J0_346 hall hhe
      have Z0_346 : n0 ≤ h346.size := O346.1 ▸ O346.2.1
      have hin : iloop = cs.length := by omega
      have hlt : ¬ ((Int32.ofNat iloop) < (Int32.ofNat cs.length)) := by rw [own_lti (by omega) (by omega)]; omega
      refine og (fun _ k => XS.iload X346.here hx rfl (hb hby d43_23_7) rfl k) ?_
      refine og (fun _ k => XS.iloadN X346.here hx rfl (hb hby d43_23_9) rfl k) ?_
      refine og (fun _ k => XS.icmpYes X346.here hx rfl (pc0 := 10) (pc' := 31) rfl (hb hby d43_23_10) rfl (flt hlt).2.1 (by decide) (by decide) k) ?_
      try dsimp only [mkF]
      refine og (fun _ k => XS.iconst X346.here hx rfl (hb hby d43_23_31) k) ?_
      refine own_fin (v := (some (.int (-1 : Int32)))) X346 (fun h => by rw [hrt] at h; cases h) hlk (fun fs hr => retI X346 hx hrt (hb hby d43_23_32) hr) (QQ := QIx cs ch h0 n0) ?_ (by decide) (by decide)
      rw [e346]
      exact ⟨_, rfl, N346, hhe, Or.inr ⟨by decide, own_nomem (fun j hj => hall j (by omega))⟩⟩
    | succ kT ih =>
      intro iloop T347 L347 h347 hik X347 e347 N347 O347 K347 J0_347 hall hhe
      have Z0_347 : n0 ≤ h347.size := O347.1 ▸ O347.2.1
      have hi : iloop < cs.length := by omega
      have hlt : (Int32.ofNat iloop) < (Int32.ofNat cs.length) := (own_lti (by omega) (by omega)).mpr hi
      refine og (fun _ k => XS.iload X347.here hx rfl (hb hby d43_23_7) rfl k) ?_
      refine og (fun _ k => XS.iloadN X347.here hx rfl (hb hby d43_23_9) rfl k) ?_
      refine og (fun _ k => XS.icmpNo X347.here hx rfl (hb hby d43_23_10) rfl (tlt hlt).2.1 k) ?_
      try dsimp only [mkF]
      refine og (fun _ k => XS.aloadN X347.here hx rfl (hb hby d43_23_13) rfl rfl k) ?_
      refine og (fun _ k => XS.iload X347.here hx rfl (hb hby d43_23_14) rfl k) ?_
      obtain ⟨c348, A348, q348, S348, M348, Hs348, Gs348⟩ := id J0_347
      have hi348 := inb_of (j := (Int32.ofNat iloop)) S348 (own_inb hi (by omega))
      refine og (fun _ k => X347.baloadBytes hx (j := (Int32.ofNat iloop)) (v := (.int (StrChars.lo8 (cs.getD iloop 0)))) (by rw [e347]; exact A348.1) (State.isArrayOf_alike hZ.alike A348.2.1) A348.2.2 hi348 (Has.at Hs348 hi348 (own_lgd hi hlen)) (g := (mkF m 16 #[.val (.ref t), .val (.int ch), .val (.int (0 : Int32)), .val (.int (Int32.ofNat cs.length)), .val (.int (ch.toInt8.toInt32)), .val (.int (Int32.ofNat iloop))] [(.int (Int32.ofNat iloop)), (.ref t)])) rfl rfl (hb hby d43_23_16) _ k) ?_
      refine og (fun _ k => XS.iload X347.here hx rfl (hb hby d43_23_17) rfl k) ?_
      by_cases hc349 : (StrChars.lo8 (cs.getD iloop 0)) = (ch.toInt8.toInt32)
      · skip
        refine og (fun _ k => XS.icmpNo X347.here hx rfl (hb hby d43_23_19) rfl (teq hc349).2 k) ?_
        try dsimp only [mkF]
        refine og (fun _ k => XS.iload X347.here hx rfl (hb hby d43_23_22) rfl k) ?_
        refine own_fin (v := (some (.int (Int32.ofNat iloop)))) X347 (fun h => by rw [hrt] at h; cases h) hlk (fun fs hr => retI X347 hx hrt (hb hby d43_23_24) hr) (QQ := QIx cs ch h0 n0) ?_ (by decide) (by decide)
        rw [e347]
        exact ⟨_, rfl, N347, hhe, Or.inl ⟨own_nn0 (by omega), own_mem_of hi (own_loinj (hok.at hi).1 (ha _ (own_getm hi)) hc0 hc1 hc349)⟩⟩
      · skip
        refine og (fun _ k => XS.icmpYes X347.here hx rfl (pc0 := 19) (pc' := 25) rfl (hb hby d43_23_19) rfl (feq hc349).2 (by decide) (by decide) k) ?_
        try dsimp only [mkF]
        refine og (fun _ k => XS.iinc X347.here hx rfl (hb hby d43_23_25) rfl (l' := #[.val (.ref t), .val (.int ch), .val (.int (0 : Int32)), .val (.int (Int32.ofNat cs.length)), .val (.int (ch.toInt8.toInt32)), .val (.int ((Int32.ofNat iloop) + (1 : Int32)))]) rfl k) ?_
        refine og (fun _ k => XS.goto X347.here hx rfl (pc0 := 28) (pc' := 7) rfl (hb hby d43_23_28) (by decide) (by decide) k) ?_
        show own_Go p e below (T347.setTop (mkF m 7 #[.val (.ref t), .val (.int ch), .val (.int (0 : Int32)), .val (.int (Int32.ofNat cs.length)), .val (.int (ch.toInt8.toInt32)), .val (.int ((Int32.ofNat iloop) + (1 : Int32)))] [])) _
        rw [own_inc]
        exact ih (iloop + 1) T347 _ h347 (by omega) X347 e347 N347 O347 K347 J0_347 (fun j hj => (Nat.lt_succ_iff_lt_or_eq.mp hj).elim (fun q => hall j q) (fun q z => hc349 (congrArg StrChars.lo8 (q ▸ z)))) hhe
  exact loop (cs.length) 0 s₁ _ h0 (by omega) X0 e0 N0 O0 (Keep.refl h0 []) V_t (fun j hj => absurd hj (Nat.not_lt_zero _)) rfl

abbrev k43_4 := jdk_43_method_4_code
theorem d43_4_0 : Dk k43_4 0 (.iload_n 0) 1 := own_k
theorem d43_4_1 : Dk k43_4 1 (.ifCond .lt 14) 3 := own_k
theorem d43_4_4 : Dk k43_4 4 (.iload_n 0) 1 := own_k
theorem d43_4_5 : Dk k43_4 5 (.sipush 255) 3 := own_k
theorem d43_4_8 : Dk k43_4 8 (.if_icmp .gt 7) 3 := own_k
theorem d43_4_15 : Dk k43_4 15 (.iconst 0) 1 := own_k
theorem d43_4_16 : Dk k43_4 16 .ireturn 1 := own_k
theorem d43_4_11 : Dk k43_4 11 (.iconst 1) 1 := own_k
theorem d43_4_12 : Dk k43_4 12 (.goto 4) 3 := own_k
theorem ef_rm_cei (m : MethodId) (x0 : Int32) : entryFrame m #[(.int x0)] 1 = mkF m 0 #[.val (.int x0)] [] := by
   first | (simp [entryFrame, mkF, argsToLocals, Value.category]; done) | rfl
set_option maxRecDepth 65536 in
set_option maxHeartbeats 40000000 in
theorem rm_cei (l : Launch) (Z : State) (a0 : Array Value) (hw : ∀ d ∈ tables_1, d.before a0 Z = true) (ws : List Jvm.Cond) (c : Int32) (h0 : Heap) (n0 : Nat) (O0 : Old Z n0 h0) (q1 : ¬ c < 0) :
    MetFree l (⟨"java/lang/StringLatin1", "canEncode", "(I)Z"⟩ : MethodName) (head1 (Jvm.Cond.code (⟨"java/lang/StringLatin1", "canEncode", "(I)Z"⟩ : MethodName) jdk_43_method_4_code 1 (some .boolean) :: ws) ⟨0, 0, 0, 0⟩) (fun aA U => aA = #[(.int c)] ∧ Z.Warmed39 U.vm ∧ U.heap = h0) (fun _ _ _ _ _ => True) (fun _ U oO U' => ∃ rV rL, oO = .returned rV ∧ QPure (some (.int (own_ce c))) h0 n0 rV U'.heap rL ∧ FrameEnd U oO U' rL 0 0) := by
  refine MetFree.of_bodySF (plainFor_of_name pn_4) hisR ?_
  intro p e s m args below meth cC s₁ Bd hml0 hP hK
  obtain ⟨rfl, hZ, hh⟩ := hP
  have hx := Bd.exec
  have hby := Bd.bytes
  have hml : cC.maxLocals = 1 := hml0
  have hown : s.vm.findClass "java/lang/StringLatin1" = some m.cls := findClass_of_methodNamed Bd.named
  have hnm := (name_of_methodNamed Bd.named Bd.method).1
  have hrt := Bd.returns
  have hlk : meth.locks = false := Bd.notSynchronized
  have X0 : Stand p l e ⟨0, 0, 0, 0⟩ s m #[(.int c)] below meth cC s₁ [] 0 0 := Stand.of_body Bd
  have e0 : s₁.heap = h0 := by rw [← hh, Bd.state]; rfl
  have N0 := Fr.nil n0
  have Z0 : n0 ≤ h0.size := O0.1 ▸ O0.2.1
  show own_Go p e below (s₁.setTop (entryFrame m #[(.int c)] 1)) (fun oO U' => ∃ rV rL, oO = .returned rV ∧ QPure (some (.int (own_ce c))) h0 n0 rV U'.heap rL ∧ FrameEnd s oO U' rL 0 0)
  refine own_go (fun _ k => castTop (ef_rm_cei m c) k) ?_
  refine og (fun _ k => XS.iloadN X0.here hx rfl (hb hby d43_4_0) rfl k) ?_
  refine og (fun _ k => XS.ifNo X0.here hx rfl (hb hby d43_4_1) rfl ((if0 _ _).trans (flt q1).1) k) ?_
  refine og (fun _ k => XS.iloadN X0.here hx rfl (hb hby d43_4_4) rfl k) ?_
  refine og (fun _ k => XS.sipush X0.here hx rfl (hb hby d43_4_5) k) ?_
  try dsimp only [mkF]
  by_cases hc350 : (255 : Int32) < c
  · skip
    refine og (fun _ k => XS.icmpYes X0.here hx rfl (pc0 := 8) (pc' := 15) rfl (hb hby d43_4_8) rfl (tlt hc350).2.2.1 (by decide) (by decide) k) ?_
    refine og (fun _ k => XS.iconst X0.here hx rfl (hb hby d43_4_15) k) ?_
    refine own_fin (v := (some (.int (nar .boolean (0 : Int32))))) X0 (fun h => by rw [hrt] at h; cases h) hlk (fun fs hr => retN X0 hx (t := .boolean) hrt (by simp) (hb hby d43_4_16) hr) (QQ := QPure (some (.int (own_ce c))) h0 n0) ?_ (by decide) (by decide)
    rw [e0]
    exact ⟨by unfold own_ce; rw [if_pos hc350] <;> rfl, N0, rfl⟩
  · skip
    refine og (fun _ k => XS.icmpNo X0.here hx rfl (hb hby d43_4_8) rfl (flt hc350).2.2.1 k) ?_
    refine og (fun _ k => XS.iconst X0.here hx rfl (hb hby d43_4_11) k) ?_
    refine og (fun _ k => XS.goto X0.here hx rfl (pc0 := 12) (pc' := 16) rfl (hb hby d43_4_12) (by decide) (by decide) k) ?_
    refine own_fin (v := (some (.int (nar .boolean (1 : Int32))))) X0 (fun h => by rw [hrt] at h; cases h) hlk (fun fs hr => retN X0 hx (t := .boolean) hrt (by simp) (hb hby d43_4_16) hr) (QQ := QPure (some (.int (own_ce c))) h0 n0) ?_ (by decide) (by decide)
    rw [e0]
    exact ⟨by unfold own_ce; rw [if_neg hc350] <;> rfl, N0, rfl⟩

abbrev k43_22 := jdk_43_method_22_code
theorem d43_22_0 : Dk k43_22 0 (.iload_n 1) 1 := own_k
theorem d43_22_1 : Dk k43_22 1 (.invokestatic 88) 3 := own_k
theorem pd_34 : parseMethodDescriptor "(I)Z" = some ⟨[.int], some .boolean⟩ := by decide +kernel
theorem d43_22_4 : Dk k43_22 4 (.ifCond .ne 5) 3 := own_k
theorem d43_22_7 : Dk k43_22 7 (.iconst (-1)) 1 := own_k
theorem d43_22_8 : Dk k43_22 8 .ireturn 1 := own_k
theorem d43_22_9 : Dk k43_22 9 (.iload_n 2) 1 := own_k
theorem d43_22_10 : Dk k43_22 10 (.iconst 0) 1 := own_k
theorem d43_22_11 : Dk k43_22 11 (.invokestatic 92) 3 := own_k
theorem d43_22_14 : Dk k43_22 14 (.istore_n 2) 1 := own_k
theorem d43_22_15 : Dk k43_22 15 (.iload_n 3) 1 := own_k
theorem d43_22_16 : Dk k43_22 16 (.aload_n 0) 1 := own_k
theorem d43_22_17 : Dk k43_22 17 .arraylength 1 := own_k
theorem d43_22_18 : Dk k43_22 18 (.invokestatic 38) 3 := own_k
theorem d43_22_21 : Dk k43_22 21 (.istore_n 3) 1 := own_k
theorem d43_22_22 : Dk k43_22 22 (.iload_n 2) 1 := own_k
theorem d43_22_23 : Dk k43_22 23 (.iload_n 3) 1 := own_k
theorem d43_22_24 : Dk k43_22 24 (.if_icmp .lt 5) 3 := own_k
theorem d43_22_29 : Dk k43_22 29 (.aload_n 0) 1 := own_k
theorem d43_22_30 : Dk k43_22 30 (.iload_n 1) 1 := own_k
theorem d43_22_31 : Dk k43_22 31 (.iload_n 2) 1 := own_k
theorem d43_22_32 : Dk k43_22 32 (.iload_n 3) 1 := own_k
theorem d43_22_33 : Dk k43_22 33 (.invokestatic 95) 3 := own_k
theorem pd_35 : parseMethodDescriptor "([BIII)I" = some ⟨[(.array .byte), .int, .int, .int], some .int⟩ := by decide +kernel
theorem d43_22_36 : Dk k43_22 36 .ireturn 1 := own_k
theorem d43_22_27 : Dk k43_22 27 (.iconst (-1)) 1 := own_k
theorem d43_22_28 : Dk k43_22 28 .ireturn 1 := own_k
theorem ef_rm_lia (m : MethodId) (x0 : Addr) (x1 : Int32) (x2 : Int32) (x3 : Int32) : entryFrame m #[(.ref x0), (.int x1), (.int x2), (.int x3)] 4 = mkF m 0 #[.val (.ref x0), .val (.int x1), .val (.int x2), .val (.int x3)] [] := by
   first | (simp [entryFrame, mkF, argsToLocals, Value.category]; done) | rfl
set_option maxRecDepth 65536 in
set_option maxHeartbeats 40000000 in
theorem rm_lia (l : Launch) (Z : State) (a0 : Array Value) (hw : ∀ d ∈ tables_1, d.before a0 Z = true) (ws : List Jvm.Cond) (t : Addr) (k : ClassId) (cs : List Int32) (ch : Int32) (h0 : Heap) (n0 : Nat) (O0 : Old Z n0 h0) (V_t : Arv Z h0 t k .byte (Int32.ofNat cs.length) (own_lat cs) (.int (0 : Int32))) (hok : own_Ok cs) (ha : ∀ c ∈ cs, ¬ (255 : Int32) < c) (hc0 : ¬ ch < 0) :
    MetFree l (⟨"java/lang/StringLatin1", "indexOf", "([BIII)I"⟩ : MethodName) (head1 (Jvm.Cond.code (⟨"java/lang/StringLatin1", "indexOf", "([BIII)I"⟩ : MethodName) jdk_43_method_22_code 4 (some .int) :: ws) ⟨1, 0, 0, 17⟩) (fun aA U => aA = #[(.ref t), (.int ch), (.int (0 : Int32)), (.int (Int32.ofNat cs.length))] ∧ Z.Warmed39 U.vm ∧ U.heap = h0) (fun _ _ _ _ _ => True) (fun _ U oO U' => ∃ rV rL, oO = .returned rV ∧ QIx cs ch h0 n0 rV U'.heap rL ∧ FrameEnd U oO U' rL 0 0) := by
  refine MetFree.of_bodySF (plainFor_of_name pn_4) hisR ?_
  intro p e s m args below meth cC s₁ Bd hml0 hP hK
  obtain ⟨rfl, hZ, hh⟩ := hP
  have hx := Bd.exec
  have hby := Bd.bytes
  have hml : cC.maxLocals = 4 := hml0
  have hown : s.vm.findClass "java/lang/StringLatin1" = some m.cls := findClass_of_methodNamed Bd.named
  have hnm := (name_of_methodNamed Bd.named Bd.method).1
  have hrt := Bd.returns
  have hlk : meth.locks = false := Bd.notSynchronized
  have X0 : Stand p l e ⟨1, 0, 0, 17⟩ s m #[(.ref t), (.int ch), (.int (0 : Int32)), (.int (Int32.ofNat cs.length))] below meth cC s₁ [] 0 0 := Stand.of_body Bd
  have e0 : s₁.heap = h0 := by rw [← hh, Bd.state]; rfl
  have N0 := Fr.nil n0
  have Z0 : n0 ≤ h0.size := O0.1 ▸ O0.2.1
  show own_Go p e below (s₁.setTop (entryFrame m #[(.ref t), (.int ch), (.int (0 : Int32)), (.int (Int32.ofNat cs.length))] 4)) (fun oO U' => ∃ rV rL, oO = .returned rV ∧ QIx cs ch h0 n0 rV U'.heap rL ∧ FrameEnd s oO U' rL 0 0)
  refine own_go (fun _ k => castTop (ef_rm_lia m t ch _ _) k) ?_
  have hlen : cs.length ≤ 4000 := hok.2
  refine og (fun _ k => XS.iloadN X0.here hx rfl (hb hby d43_22_0) rfl k) ?_
  obtain ⟨v351, _, ⟨T351, L351, k351, n351⟩, -, X351, ⟨Lc351, hQ351, l351, y351, z351⟩, st351⟩ := Jvm.LawKit.callS X0 hx (y := (⟨"java/lang/StringLatin1", "canEncode", "(I)Z"⟩ : MethodName)) hown (mvT hZ (tw hw 154 rfl)) (mvT hZ (tw hw 155 rfl)) (mvT hZ (tw hw 129 rfl)) (mvT hZ (tw hw 156 rfl)) (by decide) (backOf (W := 0) (rm_cei l Z a0 hw [] ch h0 n0 O0 hc0) hZ (tw hw 156 rfl) (tw hw 129 rfl) (by decide) (by decide)) (g := (mkF m 1 #[.val (.ref t), .val (.int ch), .val (.int (0 : Int32)), .val (.int (Int32.ofNat cs.length))] [(.int ch)])) rfl (by rw [hml]; rfl) (argsL := [(.int ch)]) (rest := []) (lenOf pd_34 rfl) rfl (by show 2 * 0 + _ ≤ _; exact Nat.le_of_eq rfl) (hb hby d43_22_1) (fun _ _ => ⟨rfl, e0, (by decide : 0 + 0 ≤ _), (by decide : 0 + 0 ≤ _)⟩)
  dsimp only [Pt.U, Pt.locs, Pt.cells, Pt.slots] at X351 l351 y351 z351 st351 hQ351
  subst l351 y351 z351
  refine own_go st351 ?_
  obtain ⟨rfl, Nq351, e351⟩ := hQ351
  have N351 := Fr.app N0 Nq351
  by_cases hc352 : (own_ce ch) = (0 : Int32)
  · skip
    refine og (fun _ k => XS.ifNo X351.here hx rfl (hb hby d43_22_4) rfl ((if0 _ _).trans (teq hc352).2) k) ?_
    refine og (fun _ k => XS.iconst X351.here hx rfl (hb hby d43_22_7) k) ?_
    try dsimp only [mkF]
    refine own_fin (v := (some (.int (-1 : Int32)))) X351 (fun h => by rw [hrt] at h; cases h) hlk (fun fs hr => retI X351 hx hrt (hb hby d43_22_8) hr) (QQ := QIx cs ch h0 n0) ?_ (by decide) (by decide)
    rw [e351]
    exact ⟨_, rfl, N351, rfl, Or.inr ⟨by decide, fun q => ha _ q (own_ce0 hc352)⟩⟩
  · skip
    refine og (fun _ k => XS.ifYes X351.here hx rfl (pc0 := 4) (pc' := 9) rfl (hb hby d43_22_4) rfl ((if0 _ _).trans (feq hc352).2) (by decide) (by decide) k) ?_
    refine og (fun _ k => XS.iloadN X351.here hx rfl (hb hby d43_22_9) rfl k) ?_
    try dsimp only [mkF]
    refine og (fun _ k => XS.iconst X351.here hx rfl (hb hby d43_22_10) k) ?_
    obtain ⟨v353, _, ⟨T353, L353, k353, n353⟩, -, X353, ⟨Lc353, hQ353, l353, y353, z353⟩, st353⟩ := Jvm.LawKit.callS X351 hx (y := (⟨"java/lang/Math", "max", "(II)I"⟩ : MethodName)) hown (mvT hZ (tw hw 157 rfl)) (mvT hZ (tw hw 158 rfl)) (mvT hZ (tw hw 100 rfl)) (mvT hZ (tw hw 159 rfl)) (by decide) (backOf (W := 0) (rm_max l Z a0 hw [] (0 : Int32) (0 : Int32) (0 : Int32) h0 n0 O0 (by decide)) hZ (tw hw 159 rfl) (tw hw 100 rfl) (by decide) (by decide)) (g := (mkF m 11 #[.val (.ref t), .val (.int ch), .val (.int (0 : Int32)), .val (.int (Int32.ofNat cs.length))] [(.int (0 : Int32)), (.int (0 : Int32))])) rfl (by rw [hml]; rfl) (argsL := [(.int (0 : Int32)), (.int (0 : Int32))]) (rest := []) (lenOf pd_27 rfl) rfl (by show 2 * 0 + _ ≤ _; exact Nat.le_of_eq rfl) (hb hby d43_22_11) (fun _ _ => ⟨rfl, e351, (by decide : 0 + 0 ≤ _), (by decide : 0 + 0 ≤ _)⟩)
    dsimp only [Pt.U, Pt.locs, Pt.cells, Pt.slots] at X353 l353 y353 z353 st353 hQ353
    subst l353 y353 z353
    refine own_go st353 ?_
    obtain ⟨rfl, Nq353, e353⟩ := hQ353
    have N353 := Fr.app N351 Nq353
    refine og (fun _ k => XS.istoreN X353.here hx rfl (hb hby d43_22_14) rfl (l' := #[.val (.ref t), .val (.int ch), .val (.int (0 : Int32)), .val (.int (Int32.ofNat cs.length))]) rfl k) ?_
    refine og (fun _ k => XS.iloadN X353.here hx rfl (hb hby d43_22_15) rfl k) ?_
    refine og (fun _ k => XS.aloadN X353.here hx rfl (hb hby d43_22_16) rfl rfl k) ?_
    try dsimp only [mkF]
    obtain ⟨c354, A354, q354, S354, M354, Hs354, Gs354⟩ := id V_t
    refine og (fun _ k => X353.arraylength hx (by rw [e353]; exact A354.1) (State.isArrayOf_alike hZ.alike A354.2.1) (g := (mkF m 17 #[.val (.ref t), .val (.int ch), .val (.int (0 : Int32)), .val (.int (Int32.ofNat cs.length))] [(.ref t), (.int (Int32.ofNat cs.length))])) rfl rfl (hb hby d43_22_17) _ k) ?_
    rw [len_of S354 M354]
    obtain ⟨v355, _, ⟨T355, L355, k355, n355⟩, -, X355, ⟨Lc355, hQ355, l355, y355, z355⟩, st355⟩ := Jvm.LawKit.callS X353 hx (y := (⟨"java/lang/Math", "min", "(II)I"⟩ : MethodName)) hown (mvT hZ (tw hw 160 rfl)) (mvT hZ (tw hw 99 rfl)) (mvT hZ (tw hw 100 rfl)) (mvT hZ (tw hw 101 rfl)) (by decide) (backOf (W := 0) (rm_min l Z a0 hw [] (Int32.ofNat cs.length) (Int32.ofNat cs.length) (Int32.ofNat cs.length) h0 n0 O0 (own_minself _)) hZ (tw hw 101 rfl) (tw hw 100 rfl) (by decide) (by decide)) (g := (mkF m 18 #[.val (.ref t), .val (.int ch), .val (.int (0 : Int32)), .val (.int (Int32.ofNat cs.length))] [(.int (Int32.ofNat cs.length)), (.int (Int32.ofNat cs.length))])) rfl (by rw [hml]; rfl) (argsL := [(.int (Int32.ofNat cs.length)), (.int (Int32.ofNat cs.length))]) (rest := []) (lenOf pd_27 rfl) rfl (by show 2 * 0 + _ ≤ _; exact Nat.le_of_eq rfl) (hb hby d43_22_18) (fun _ _ => ⟨rfl, e353, (by decide : 0 + 0 ≤ _), (by decide : 0 + 0 ≤ _)⟩)
    dsimp only [Pt.U, Pt.locs, Pt.cells, Pt.slots] at X355 l355 y355 z355 st355 hQ355
    subst l355 y355 z355
    refine own_go st355 ?_
    obtain ⟨rfl, Nq355, e355⟩ := hQ355
    have N355 := Fr.app N353 Nq355
    refine og (fun _ k => XS.istoreN X355.here hx rfl (hb hby d43_22_21) rfl (l' := #[.val (.ref t), .val (.int ch), .val (.int (0 : Int32)), .val (.int (Int32.ofNat cs.length))]) rfl k) ?_
    refine og (fun _ k => XS.iloadN X355.here hx rfl (hb hby d43_22_22) rfl k) ?_
    refine og (fun _ k => XS.iloadN X355.here hx rfl (hb hby d43_22_23) rfl k) ?_
    try dsimp only [mkF]
    by_cases hc356 : (0 : Int32) < (Int32.ofNat cs.length)
    · skip
      refine og (fun _ k => XS.icmpYes X355.here hx rfl (pc0 := 24) (pc' := 29) rfl (hb hby d43_22_24) rfl (tlt hc356).1 (by decide) (by decide) k) ?_
      have hc1 := own_ce1 hc352
      refine og (fun _ k => XS.aloadN X355.here hx rfl (hb hby d43_22_29) rfl rfl k) ?_
      refine og (fun _ k => XS.iloadN X355.here hx rfl (hb hby d43_22_30) rfl k) ?_
      refine og (fun _ k => XS.iloadN X355.here hx rfl (hb hby d43_22_31) rfl k) ?_
      refine og (fun _ k => XS.iloadN X355.here hx rfl (hb hby d43_22_32) rfl k) ?_
      try dsimp only [mkF]
      obtain ⟨v357, _, ⟨T357, L357, k357, n357⟩, -, X357, ⟨Lc357, hQ357, l357, y357, z357⟩, st357⟩ := Jvm.LawKit.callS X355 hx (y := (⟨"java/lang/StringLatin1", "indexOfChar", "([BIII)I"⟩ : MethodName)) hown (mvT hZ (tw hw 161 rfl)) (mvT hZ (tw hw 162 rfl)) (mvT hZ (tw hw 129 rfl)) (mvT hZ (tw hw 163 rfl)) (by decide) (backOf (W := 0) (rm_lic l Z a0 hw [] t k cs ch h0 n0 O0 V_t hok ha hc0 hc1) hZ (tw hw 163 rfl) (tw hw 129 rfl) (by decide) (by decide)) (g := (mkF m 33 #[.val (.ref t), .val (.int ch), .val (.int (0 : Int32)), .val (.int (Int32.ofNat cs.length))] [(.int (Int32.ofNat cs.length)), (.int (0 : Int32)), (.int ch), (.ref t)])) rfl (by rw [hml]; rfl) (argsL := [(.ref t), (.int ch), (.int (0 : Int32)), (.int (Int32.ofNat cs.length))]) (rest := []) (lenOf pd_35 rfl) rfl (by show 2 * 0 + _ ≤ _; exact Nat.le_of_eq rfl) (hb hby d43_22_33) (fun _ _ => ⟨rfl, e355, (by decide : 0 + 0 ≤ _), (by decide : 0 + 0 ≤ _)⟩)
      dsimp only [Pt.U, Pt.locs, Pt.cells, Pt.slots] at X357 l357 y357 z357 st357 hQ357
      subst l357 y357 z357
      refine own_go st357 ?_
      obtain ⟨r357, rfl, Nq357, e357, hr357⟩ := hQ357
      have N357 := Fr.app N355 Nq357
      refine own_fin (v := (some (.int r357))) X357 (fun h => by rw [hrt] at h; cases h) hlk (fun fs hr => retI X357 hx hrt (hb hby d43_22_36) hr) (QQ := QIx cs ch h0 n0) ?_ (by decide) (by decide)
      rw [e357]
      exact ⟨_, rfl, N357, rfl, hr357⟩
    · skip
      refine og (fun _ k => XS.icmpNo X355.here hx rfl (hb hby d43_22_24) rfl (flt hc356).1 k) ?_
      refine og (fun _ k => XS.iconst X355.here hx rfl (hb hby d43_22_27) k) ?_
      refine own_fin (v := (some (.int (-1 : Int32)))) X355 (fun h => by rw [hrt] at h; cases h) hlk (fun fs hr => retI X355 hx hrt (hb hby d43_22_28) hr) (QQ := QIx cs ch h0 n0) ?_ (by decide) (by decide)
      rw [e355]
      exact ⟨_, rfl, N355, rfl, Or.inr ⟨by decide, own_empty hc356 hlen⟩⟩

abbrev k42_80 := jdk_42_method_80_code
theorem d42_80_0 : Dk k42_80 0 (.aload_n 0) 1 := own_k
theorem d42_80_1 : Dk k42_80 1 (.invokevirtual 492) 3 := own_k
theorem d42_80_4 : Dk k42_80 4 (.ifCond .eq 19) 3 := own_k
theorem d42_80_7 : Dk k42_80 7 (.aload_n 0) 1 := own_k
theorem d42_80_8 : Dk k42_80 8 (.getfield 9) 3 := own_k
theorem d42_80_11 : Dk k42_80 11 (.iload_n 1) 1 := own_k
theorem d42_80_12 : Dk k42_80 12 (.iload_n 2) 1 := own_k
theorem d42_80_13 : Dk k42_80 13 (.aload_n 0) 1 := own_k
theorem d42_80_14 : Dk k42_80 14 (.invokevirtual 505) 3 := own_k
theorem d42_80_17 : Dk k42_80 17 (.invokestatic 637) 3 := own_k
theorem d42_80_20 : Dk k42_80 20 (.goto 16) 3 := own_k
theorem d42_80_36 : Dk k42_80 36 .ireturn 1 := own_k
theorem ef_rm_si2 (m : MethodId) (x0 : Addr) (x1 : Int32) (x2 : Int32) : entryFrame m #[(.ref x0), (.int x1), (.int x2)] 3 = mkF m 0 #[.val (.ref x0), .val (.int x1), .val (.int x2)] [] := by
   first | (simp [entryFrame, mkF, argsToLocals, Value.category]; done) | rfl
set_option maxRecDepth 65536 in
set_option maxHeartbeats 40000000 in
theorem rm_si2 (l : Launch) (Z : State) (a0 : Array Value) (hw : ∀ d ∈ tables_1, d.before a0 Z = true) (ws : List Jvm.Cond) (x t : Addr) (kt : ClassId) (ts : List Int32) (ch G1 : Int32) (G3 : Value) (h0 : Heap) (n0 : Nat) (O0 : Old Z n0 h0) (O2 : Sta Z Z.heap "java/lang/String" "COMPACT_STRINGS" "Z" (.int G1)) (P5 : ¬ (G1 = (0 : Int32))) (O4 : Sta Z Z.heap "jdk/internal/util/Preconditions" "SIOOBE_FORMATTER" "Ljava/util/function/BiFunction;" G3) (rG3 : G3.isRef = true) (OA : Sta Z Z.heap "java/lang/StringUTF16" "$assertionsDisabled" "Z" (.int (1 : Int32))) (OH : Sta Z Z.heap "java/lang/StringUTF16" "HI_BYTE_SHIFT" "I" (.int (0 : Int32))) (OL : Sta Z Z.heap "java/lang/StringUTF16" "LO_BYTE_SHIFT" "I" (.int (8 : Int32))) (E_x : Exa Z h0 x "java/lang/String") (Fv_x : Fld Z h0 x "java/lang/String" "value" "[B" (.ref t)) (Fc_x : Fld Z h0 x "java/lang/String" "coder" "B" (.int (0 : Int32))) (V_t : Arv Z h0 t kt .byte (Int32.ofNat ts.length) (own_lat ts) (.int (0 : Int32))) (hts : ∀ c ∈ ts, ¬ (255 : Int32) < c) (hot : own_Ok ts) (hc0 : ¬ ch < 0) :
    MetFree l (⟨"java/lang/String", "indexOf", "(II)I"⟩ : MethodName) (head1 (Jvm.Cond.code (⟨"java/lang/String", "indexOf", "(II)I"⟩ : MethodName) jdk_42_method_80_code 3 (some .int) :: ws) ⟨2, 0, 0, 32⟩) (fun aA U => aA = #[(.ref x), (.int ch), (.int (0 : Int32))] ∧ Z.Warmed39 U.vm ∧ U.heap = h0) (fun _ _ _ _ _ => True) (fun _ U oO U' => ∃ rV rL, oO = .returned rV ∧ QIx ts ch h0 n0 rV U'.heap rL ∧ FrameEnd U oO U' rL 0 0) := by
  refine MetFree.of_bodySF (plainFor_of_name pn_0) hisR ?_
  intro p e s m args below meth cC s₁ Bd hml0 hP hK
  obtain ⟨rfl, hZ, hh⟩ := hP
  have hx := Bd.exec
  have hby := Bd.bytes
  have hml : cC.maxLocals = 3 := hml0
  have hown : s.vm.findClass "java/lang/String" = some m.cls := findClass_of_methodNamed Bd.named
  have hnm := (name_of_methodNamed Bd.named Bd.method).1
  have hrt := Bd.returns
  have hlk : meth.locks = false := Bd.notSynchronized
  have X0 : Stand p l e ⟨2, 0, 0, 32⟩ s m #[(.ref x), (.int ch), (.int (0 : Int32))] below meth cC s₁ [] 0 0 := Stand.of_body Bd
  have e0 : s₁.heap = h0 := by rw [← hh, Bd.state]; rfl
  have N0 := Fr.nil n0
  have Z0 : n0 ≤ h0.size := O0.1 ▸ O0.2.1
  show own_Go p e below (s₁.setTop (entryFrame m #[(.ref x), (.int ch), (.int (0 : Int32))] 3)) (fun oO U' => ∃ rV rL, oO = .returned rV ∧ QIx ts ch h0 n0 rV U'.heap rL ∧ FrameEnd s oO U' rL 0 0)
  refine own_go (fun _ k => castTop (ef_rm_si2 m x ch _) k) ?_
  refine og (fun _ k => XS.aloadN X0.here hx rfl (hb hby d42_80_0) rfl rfl k) ?_
  obtain ⟨cq358, kq358, q358a, q358b, q358c⟩ := isOf hZ e0 E_x
  obtain ⟨v358, _, ⟨T358, L358, k358, n358⟩, -, X358, ⟨Lc358, hQ358, l358, y358, z358⟩, st358⟩ := X0.virtualBack hx (y := (⟨"java/lang/String", "isLatin1", "()Z"⟩ : MethodName)) (z := (⟨"java/lang/String", "isLatin1", "()Z"⟩ : MethodName)) hown (mvT hZ (tw hw 122 rfl)) (mvT hZ (tw hw 123 rfl)) (notFace_of_selects (args := #[]) (mvT hZ (tw hw 125 rfl))) (mvT hZ (tw hw 125 rfl)) (mvT hZ (tw hw 124 rfl)) (by decide) (backOf (W := 0) (rm_lat l Z a0 hw [] x G1 h0 n0 O0 E_x Fc_x O2 P5) hZ (tw hw 126 rfl) (tw hw 2 rfl) (by decide) (by decide)) q358a q358c (g := (mkF m 1 #[.val (.ref x), .val (.int ch), .val (.int (0 : Int32))] [(.ref x)])) rfl (by rw [hml]; rfl) (Steps.refl _) (argsL := []) (rest := []) (lenOf pd_17 rfl) rfl (by show 2 * 0 + _ ≤ _; exact Nat.le_of_eq rfl) (hb hby d42_80_1) (fun _ _ => ⟨rfl, e0, (by decide : 0 + 0 ≤ _), (by decide : 0 + 0 ≤ _)⟩)
  dsimp only [Pt.U, Pt.locs, Pt.cells, Pt.slots] at X358 l358 y358 z358 st358 hQ358
  subst l358 y358 z358
  refine own_gos st358 ?_
  obtain ⟨rfl, Nq358, e358⟩ := hQ358
  have N358 := Fr.app N0 Nq358
  refine og (fun _ k => XS.ifNo X358.here hx rfl (hb hby d42_80_4) rfl ((if0 _ _).trans (feq (by decide : ¬ ((1 : Int32) = (0 : Int32)))).1) k) ?_
  refine og (fun _ k => XS.aloadN X358.here hx rfl (hb hby d42_80_7) rfl rfl k) ?_
  try dsimp only [mkF]
  obtain ⟨T359, X359, e359, st359⟩ := getF X358 hx hZ hown (host := "") (Or.inl (tw hw 20 rfl)) Via.refl e358 Fv_x (g := (mkF m 8 #[.val (.ref x), .val (.int ch), .val (.int (0 : Int32))] [(.ref x)])) rfl rfl (hb hby d42_80_8)
  refine own_go st359 ?_
  refine og (fun _ k => XS.iloadN X359.here hx rfl (hb hby d42_80_11) rfl k) ?_
  refine og (fun _ k => XS.iloadN X359.here hx rfl (hb hby d42_80_12) rfl k) ?_
  refine og (fun _ k => XS.aloadN X359.here hx rfl (hb hby d42_80_13) rfl rfl k) ?_
  obtain ⟨cq360, kq360, q360a, q360b, q360c⟩ := isOf hZ e359 E_x
  obtain ⟨v360, _, ⟨T360, L360, k360, n360⟩, -, X360, ⟨Lc360, hQ360, l360, y360, z360⟩, st360⟩ := X359.virtualBack hx (y := (⟨"java/lang/String", "length", "()I"⟩ : MethodName)) (z := (⟨"java/lang/String", "length", "()I"⟩ : MethodName)) hown (mvT hZ (tw hw 150 rfl)) (mvT hZ (tw hw 45 rfl)) (notFace_of_selects (args := #[]) (mvT hZ (tw hw 47 rfl))) (mvT hZ (tw hw 47 rfl)) (mvT hZ (tw hw 46 rfl)) (by decide) (StrChars.Road.lenW (W := 3) hZ (own_wLen hw) (kI := 4) (tw hw 1 rfl) E_x Fv_x Fc_x V_t (Or.inl ⟨rfl, rfl, rfl, hts⟩) (hot.1) (O2.ext O0.2) P5 hot.2 (by decide) (by decide)) q360a q360c (g := (mkF m 14 #[.val (.ref x), .val (.int ch), .val (.int (0 : Int32))] [(.ref x), (.int (0 : Int32)), (.int ch), (.ref t)])) rfl (by rw [hml]; rfl) (Steps.refl _) (argsL := []) (rest := [(.int (0 : Int32)), (.int ch), (.ref t)]) (lenOf pd_9 rfl) rfl (by show 2 * 0 + _ ≤ _; exact Nat.le_of_eq rfl) (hb hby d42_80_14) (fun _ _ => ⟨rfl, e359, (by decide : 0 + 0 ≤ _), (by decide : 0 + 0 ≤ _)⟩)
  dsimp only [Pt.U, Pt.locs, Pt.cells, Pt.slots] at X360 l360 y360 z360 st360 hQ360
  subst l360 y360 z360
  refine own_gos st360 ?_
  obtain ⟨rfl, rfl, e360⟩ := hQ360
  have Nq360 : Fr n0 ([] : List Loc) := Fr.nil n0
  have N360 := Fr.app N358 Nq360
  try dsimp only [mkF]
  obtain ⟨v361, _, ⟨T361, L361, k361, n361⟩, -, X361, ⟨Lc361, hQ361, l361, y361, z361⟩, st361⟩ := Jvm.LawKit.callS X360 hx (y := (⟨"java/lang/StringLatin1", "indexOf", "([BIII)I"⟩ : MethodName)) hown (mvT hZ (tw hw 151 rfl)) (mvT hZ (tw hw 152 rfl)) (mvT hZ (tw hw 129 rfl)) (mvT hZ (tw hw 153 rfl)) (by decide) (backOf (W := 0) (rm_lia l Z a0 hw [] t kt ts ch h0 n0 O0 V_t hot hts hc0) hZ (tw hw 153 rfl) (tw hw 129 rfl) (by decide) (by decide)) (g := (mkF m 17 #[.val (.ref x), .val (.int ch), .val (.int (0 : Int32))] [(.int (Int32.ofNat ts.length)), (.int (0 : Int32)), (.int ch), (.ref t)])) rfl (by rw [hml]; rfl) (argsL := [(.ref t), (.int ch), (.int (0 : Int32)), (.int (Int32.ofNat ts.length))]) (rest := []) (lenOf pd_35 rfl) rfl (by show 2 * 0 + _ ≤ _; exact Nat.le_of_eq rfl) (hb hby d42_80_17) (fun _ _ => ⟨rfl, e360, (by decide : 0 + 0 ≤ _), (by decide : 0 + 0 ≤ _)⟩)
  dsimp only [Pt.U, Pt.locs, Pt.cells, Pt.slots] at X361 l361 y361 z361 st361 hQ361
  subst l361 y361 z361
  refine own_go st361 ?_
  obtain ⟨r361, rfl, Nq361, e361, hr361⟩ := hQ361
  have N361 := Fr.app N360 Nq361
  refine og (fun _ k => XS.goto X361.here hx rfl (pc0 := 20) (pc' := 36) rfl (hb hby d42_80_20) (by decide) (by decide) k) ?_
  refine own_fin (v := (some (.int r361))) X361 (fun h => by rw [hrt] at h; cases h) hlk (fun fs hr => retI X361 hx hrt (hb hby d42_80_36) hr) (QQ := QIx ts ch h0 n0) ?_ (by decide) (by decide)
  rw [e361]
  exact ⟨_, rfl, N361, rfl, hr361⟩

abbrev k42_79 := jdk_42_method_79_code
theorem d42_79_0 : Dk k42_79 0 (.aload_n 0) 1 := own_k
theorem d42_79_1 : Dk k42_79 1 (.iload_n 1) 1 := own_k
theorem d42_79_2 : Dk k42_79 2 (.iconst 0) 1 := own_k
theorem d42_79_3 : Dk k42_79 3 (.invokevirtual 633) 3 := own_k
theorem d42_79_6 : Dk k42_79 6 .ireturn 1 := own_k
theorem ef_rm_si1 (m : MethodId) (x0 : Addr) (x1 : Int32) : entryFrame m #[(.ref x0), (.int x1)] 2 = mkF m 0 #[.val (.ref x0), .val (.int x1)] [] := by
   first | (simp [entryFrame, mkF, argsToLocals, Value.category]; done) | rfl
set_option maxRecDepth 65536 in
set_option maxHeartbeats 40000000 in
theorem rm_si1 (l : Launch) (Z : State) (a0 : Array Value) (hw : ∀ d ∈ tables_1, d.before a0 Z = true) (ws : List Jvm.Cond) (x t : Addr) (kt : ClassId) (ts : List Int32) (ch G1 : Int32) (G3 : Value) (h0 : Heap) (n0 : Nat) (O0 : Old Z n0 h0) (O2 : Sta Z Z.heap "java/lang/String" "COMPACT_STRINGS" "Z" (.int G1)) (P5 : ¬ (G1 = (0 : Int32))) (O4 : Sta Z Z.heap "jdk/internal/util/Preconditions" "SIOOBE_FORMATTER" "Ljava/util/function/BiFunction;" G3) (rG3 : G3.isRef = true) (OA : Sta Z Z.heap "java/lang/StringUTF16" "$assertionsDisabled" "Z" (.int (1 : Int32))) (OH : Sta Z Z.heap "java/lang/StringUTF16" "HI_BYTE_SHIFT" "I" (.int (0 : Int32))) (OL : Sta Z Z.heap "java/lang/StringUTF16" "LO_BYTE_SHIFT" "I" (.int (8 : Int32))) (E_x : Exa Z h0 x "java/lang/String") (Fv_x : Fld Z h0 x "java/lang/String" "value" "[B" (.ref t)) (Fc_x : Fld Z h0 x "java/lang/String" "coder" "B" (.int (0 : Int32))) (V_t : Arv Z h0 t kt .byte (Int32.ofNat ts.length) (own_lat ts) (.int (0 : Int32))) (hts : ∀ c ∈ ts, ¬ (255 : Int32) < c) (hot : own_Ok ts) (hc0 : ¬ ch < 0) :
    MetFree l (⟨"java/lang/String", "indexOf", "(I)I"⟩ : MethodName) (head1 (Jvm.Cond.code (⟨"java/lang/String", "indexOf", "(I)I"⟩ : MethodName) jdk_42_method_79_code 2 (some .int) :: ws) ⟨3, 0, 0, 46⟩) (fun aA U => aA = #[(.ref x), (.int ch)] ∧ Z.Warmed39 U.vm ∧ U.heap = h0) (fun _ _ _ _ _ => True) (fun _ U oO U' => ∃ rV rL, oO = .returned rV ∧ QIx ts ch h0 n0 rV U'.heap rL ∧ FrameEnd U oO U' rL 0 0) := by
  refine MetFree.of_bodySF (plainFor_of_name pn_0) hisR ?_
  intro p e s m args below meth cC s₁ Bd hml0 hP hK
  obtain ⟨rfl, hZ, hh⟩ := hP
  have hx := Bd.exec
  have hby := Bd.bytes
  have hml : cC.maxLocals = 2 := hml0
  have hown : s.vm.findClass "java/lang/String" = some m.cls := findClass_of_methodNamed Bd.named
  have hnm := (name_of_methodNamed Bd.named Bd.method).1
  have hrt := Bd.returns
  have hlk : meth.locks = false := Bd.notSynchronized
  have X0 : Stand p l e ⟨3, 0, 0, 46⟩ s m #[(.ref x), (.int ch)] below meth cC s₁ [] 0 0 := Stand.of_body Bd
  have e0 : s₁.heap = h0 := by rw [← hh, Bd.state]; rfl
  have N0 := Fr.nil n0
  have Z0 : n0 ≤ h0.size := O0.1 ▸ O0.2.1
  show own_Go p e below (s₁.setTop (entryFrame m #[(.ref x), (.int ch)] 2)) (fun oO U' => ∃ rV rL, oO = .returned rV ∧ QIx ts ch h0 n0 rV U'.heap rL ∧ FrameEnd s oO U' rL 0 0)
  refine own_go (fun _ k => castTop (ef_rm_si1 m x ch) k) ?_
  refine og (fun _ k => XS.aloadN X0.here hx rfl (hb hby d42_79_0) rfl rfl k) ?_
  refine og (fun _ k => XS.iloadN X0.here hx rfl (hb hby d42_79_1) rfl k) ?_
  refine og (fun _ k => XS.iconst X0.here hx rfl (hb hby d42_79_2) k) ?_
  obtain ⟨cq362, kq362, q362a, q362b, q362c⟩ := isOf hZ e0 E_x
  obtain ⟨v362, _, ⟨T362, L362, k362, n362⟩, -, X362, ⟨Lc362, hQ362, l362, y362, z362⟩, st362⟩ := X0.virtualBack hx (y := (⟨"java/lang/String", "indexOf", "(II)I"⟩ : MethodName)) (z := (⟨"java/lang/String", "indexOf", "(II)I"⟩ : MethodName)) hown (mvT hZ (tw hw 145 rfl)) (mvT hZ (tw hw 146 rfl)) (notFace_of_selects (args := #[]) (mvT hZ (tw hw 148 rfl))) (mvT hZ (tw hw 148 rfl)) (mvT hZ (tw hw 147 rfl)) (by decide) (backOf (W := 0) (rm_si2 l Z a0 hw [] x t kt ts ch G1 G3 h0 n0 O0 O2 P5 O4 rG3 OA OH OL E_x Fv_x Fc_x V_t hts hot hc0) hZ (tw hw 149 rfl) (tw hw 2 rfl) (by decide) (by decide)) q362a q362c (g := (mkF m 3 #[.val (.ref x), .val (.int ch)] [(.int (0 : Int32)), (.int ch), (.ref x)])) rfl (by rw [hml]; rfl) (Steps.refl _) (argsL := [(.int ch), (.int (0 : Int32))]) (rest := []) (lenOf pd_27 rfl) rfl (by show 2 * 0 + _ ≤ _; exact Nat.le_of_eq rfl) (hb hby d42_79_3) (fun _ _ => ⟨rfl, e0, (by decide : 0 + 0 ≤ _), (by decide : 0 + 0 ≤ _)⟩)
  dsimp only [Pt.U, Pt.locs, Pt.cells, Pt.slots] at X362 l362 y362 z362 st362 hQ362
  subst l362 y362 z362
  refine own_gos st362 ?_
  obtain ⟨r362, rfl, Nq362, e362, hr362⟩ := hQ362
  have N362 := Fr.app N0 Nq362
  try dsimp only [mkF]
  refine own_fin (v := (some (.int r362))) X362 (fun h => by rw [hrt] at h; cases h) hlk (fun fs hr => retI X362 hx hrt (hb hby d42_79_6) hr) (QQ := QIx ts ch h0 n0) ?_ (by decide) (by decide)
  rw [e362]
  exact ⟨_, rfl, N362, rfl, hr362⟩

abbrev km2 := method_2_code
theorem dm2_0 : Dk km2 0 (.iload_n 0) 1 := own_k
theorem dm2_1 : Dk km2 1 (.bipush 92) 2 := own_k
theorem dm2_3 : Dk km2 3 (.if_icmp .eq 63) 3 := own_k
theorem dm2_66 : Dk km2 66 (.iconst 1) 1 := own_k
theorem dm2_67 : Dk km2 67 (.goto 4) 3 := own_k
theorem dm2_71 : Dk km2 71 .ireturn 1 := own_k
theorem dm2_6 : Dk km2 6 (.iload_n 0) 1 := own_k
theorem dm2_7 : Dk km2 7 (.bipush 44) 2 := own_k
theorem dm2_9 : Dk km2 9 (.if_icmp .eq 57) 3 := own_k
theorem dm2_12 : Dk km2 12 (.iload_n 0) 1 := own_k
theorem dm2_13 : Dk km2 13 (.bipush 43) 2 := own_k
theorem dm2_15 : Dk km2 15 (.if_icmp .eq 51) 3 := own_k
theorem dm2_18 : Dk km2 18 (.iload_n 0) 1 := own_k
theorem dm2_19 : Dk km2 19 (.bipush 34) 2 := own_k
theorem dm2_21 : Dk km2 21 (.if_icmp .eq 45) 3 := own_k
theorem dm2_24 : Dk km2 24 (.iload_n 0) 1 := own_k
theorem dm2_25 : Dk km2 25 (.bipush 59) 2 := own_k
theorem dm2_27 : Dk km2 27 (.if_icmp .eq 39) 3 := own_k
theorem dm2_30 : Dk km2 30 (.iload_n 0) 1 := own_k
theorem dm2_31 : Dk km2 31 (.bipush 60) 2 := own_k
theorem dm2_33 : Dk km2 33 (.if_icmp .eq 33) 3 := own_k
theorem dm2_36 : Dk km2 36 (.iload_n 0) 1 := own_k
theorem dm2_37 : Dk km2 37 (.bipush 62) 2 := own_k
theorem dm2_39 : Dk km2 39 (.if_icmp .eq 27) 3 := own_k
theorem dm2_42 : Dk km2 42 (.iload_n 0) 1 := own_k
theorem dm2_43 : Dk km2 43 (.bipush 35) 2 := own_k
theorem dm2_45 : Dk km2 45 (.if_icmp .ne 7) 3 := own_k
theorem dm2_48 : Dk km2 48 (.iload_n 1) 1 := own_k
theorem dm2_49 : Dk km2 49 (.ifCond .ne 17) 3 := own_k
theorem dm2_52 : Dk km2 52 (.iload_n 0) 1 := own_k
theorem dm2_53 : Dk km2 53 (.bipush 32) 2 := own_k
theorem dm2_55 : Dk km2 55 (.if_icmp .ne 15) 3 := own_k
theorem dm2_58 : Dk km2 58 (.iload_n 1) 1 := own_k
theorem dm2_59 : Dk km2 59 (.ifCond .ne 7) 3 := own_k
theorem dm2_62 : Dk km2 62 (.iload_n 2) 1 := own_k
theorem dm2_63 : Dk km2 63 (.ifCond .eq 7) 3 := own_k
theorem dm2_70 : Dk km2 70 (.iconst 0) 1 := own_k
theorem pn_7 : plainName "com/example/rolelattice/rolelattice/decision/DistinguishedNameEscapeValuePinLaw" = true := by first | (simp [plainName, overriddenIn]; done) | decide +kernel
theorem ef_rm_sp (m : MethodId) (x0 : Int32) (x1 : Int32) (x2 : Int32) : entryFrame m #[(.int x0), (.int x1), (.int x2)] 3 = mkF m 0 #[.val (.int x0), .val (.int x1), .val (.int x2)] [] := by
   first | (simp [entryFrame, mkF, argsToLocals, Value.category]; done) | rfl
set_option maxRecDepth 65536 in
set_option maxHeartbeats 40000000 in
theorem rm_sp (l : Launch) (Z : State) (a0 : Array Value) (hw : ∀ d ∈ tables_1, d.before a0 Z = true) (ws : List Jvm.Cond) (c f q : Int32) (h0 : Heap) (n0 : Nat) (O0 : Old Z n0 h0) :
    MetFree l (⟨"com/example/rolelattice/rolelattice/decision/DistinguishedNameEscapeValuePinLaw", "special", "(CZZ)Z"⟩ : MethodName) (head1 (Jvm.Cond.code (⟨"com/example/rolelattice/rolelattice/decision/DistinguishedNameEscapeValuePinLaw", "special", "(CZZ)Z"⟩ : MethodName) method_2_code 3 (some .boolean) :: ws) ⟨0, 0, 0, 0⟩) (fun aA U => aA = #[(.int c), (.int f), (.int q)] ∧ Z.Warmed39 U.vm ∧ U.heap = h0) (fun _ _ _ _ _ => True) (fun _ U oO U' => ∃ rV rL, oO = .returned rV ∧ QPure (some (.int (own_sp c f q))) h0 n0 rV U'.heap rL ∧ FrameEnd U oO U' rL 0 0) := by
  refine MetFree.of_bodySF (plainFor_of_name pn_7) hisR ?_
  intro p e s m args below meth cC s₁ Bd hml0 hP hK
  obtain ⟨rfl, hZ, hh⟩ := hP
  have hx := Bd.exec
  have hby := Bd.bytes
  have hml : cC.maxLocals = 3 := hml0
  have hown : s.vm.findClass "com/example/rolelattice/rolelattice/decision/DistinguishedNameEscapeValuePinLaw" = some m.cls := findClass_of_methodNamed Bd.named
  have hnm := (name_of_methodNamed Bd.named Bd.method).1
  have hrt := Bd.returns
  have hlk : meth.locks = false := Bd.notSynchronized
  have X0 : Stand p l e ⟨0, 0, 0, 0⟩ s m #[(.int c), (.int f), (.int q)] below meth cC s₁ [] 0 0 := Stand.of_body Bd
  have e0 : s₁.heap = h0 := by rw [← hh, Bd.state]; rfl
  have N0 := Fr.nil n0
  have Z0 : n0 ≤ h0.size := O0.1 ▸ O0.2.1
  show own_Go p e below (s₁.setTop (entryFrame m #[(.int c), (.int f), (.int q)] 3)) (fun oO U' => ∃ rV rL, oO = .returned rV ∧ QPure (some (.int (own_sp c f q))) h0 n0 rV U'.heap rL ∧ FrameEnd s oO U' rL 0 0)
  refine own_go (fun _ k => castTop (ef_rm_sp m c f q) k) ?_
  refine og (fun _ k => XS.iloadN X0.here hx rfl (hb hby dm2_0) rfl k) ?_
  refine og (fun _ k => XS.bipush X0.here hx rfl (hb hby dm2_1) k) ?_
  by_cases hc363 : c = (92 : Int32)
  · skip
    refine og (fun _ k => XS.icmpYes X0.here hx rfl (pc0 := 3) (pc' := 66) rfl (hb hby dm2_3) rfl (teq hc363).1 (by decide) (by decide) k) ?_
    refine og (fun _ k => XS.iconst X0.here hx rfl (hb hby dm2_66) k) ?_
    try dsimp only [mkF]
    refine og (fun _ k => XS.goto X0.here hx rfl (pc0 := 67) (pc' := 71) rfl (hb hby dm2_67) (by decide) (by decide) k) ?_
    refine own_fin (v := (some (.int (nar .boolean (1 : Int32))))) X0 (fun h => by rw [hrt] at h; cases h) hlk (fun fs hr => retN X0 hx (t := .boolean) hrt (by simp) (hb hby dm2_71) hr) (QQ := QPure (some (.int (own_sp c f q))) h0 n0) ?_ (by decide) (by decide)
    rw [e0]
    exact ⟨by unfold own_sp; unfold own_sq; rw [if_pos hc363] <;> rfl, N0, rfl⟩
  · skip
    refine og (fun _ k => XS.icmpNo X0.here hx rfl (hb hby dm2_3) rfl (feq hc363).1 k) ?_
    refine og (fun _ k => XS.iloadN X0.here hx rfl (hb hby dm2_6) rfl k) ?_
    try dsimp only [mkF]
    refine og (fun _ k => XS.bipush X0.here hx rfl (hb hby dm2_7) k) ?_
    by_cases hc364 : c = (44 : Int32)
    · skip
      refine og (fun _ k => XS.icmpYes X0.here hx rfl (pc0 := 9) (pc' := 66) rfl (hb hby dm2_9) rfl (teq hc364).1 (by decide) (by decide) k) ?_
      refine og (fun _ k => XS.iconst X0.here hx rfl (hb hby dm2_66) k) ?_
      refine og (fun _ k => XS.goto X0.here hx rfl (pc0 := 67) (pc' := 71) rfl (hb hby dm2_67) (by decide) (by decide) k) ?_
      refine own_fin (v := (some (.int (nar .boolean (1 : Int32))))) X0 (fun h => by rw [hrt] at h; cases h) hlk (fun fs hr => retN X0 hx (t := .boolean) hrt (by simp) (hb hby dm2_71) hr) (QQ := QPure (some (.int (own_sp c f q))) h0 n0) ?_ (by decide) (by decide)
      rw [e0]
      exact ⟨by unfold own_sp; unfold own_sq; rw [if_neg hc363, if_pos hc364] <;> rfl, N0, rfl⟩
    · skip
      refine og (fun _ k => XS.icmpNo X0.here hx rfl (hb hby dm2_9) rfl (feq hc364).1 k) ?_
      refine og (fun _ k => XS.iloadN X0.here hx rfl (hb hby dm2_12) rfl k) ?_
      refine og (fun _ k => XS.bipush X0.here hx rfl (hb hby dm2_13) k) ?_
      by_cases hc365 : c = (43 : Int32)
      · skip
        refine og (fun _ k => XS.icmpYes X0.here hx rfl (pc0 := 15) (pc' := 66) rfl (hb hby dm2_15) rfl (teq hc365).1 (by decide) (by decide) k) ?_
        try dsimp only [mkF]
        refine og (fun _ k => XS.iconst X0.here hx rfl (hb hby dm2_66) k) ?_
        refine og (fun _ k => XS.goto X0.here hx rfl (pc0 := 67) (pc' := 71) rfl (hb hby dm2_67) (by decide) (by decide) k) ?_
        refine own_fin (v := (some (.int (nar .boolean (1 : Int32))))) X0 (fun h => by rw [hrt] at h; cases h) hlk (fun fs hr => retN X0 hx (t := .boolean) hrt (by simp) (hb hby dm2_71) hr) (QQ := QPure (some (.int (own_sp c f q))) h0 n0) ?_ (by decide) (by decide)
        rw [e0]
        exact ⟨by unfold own_sp; unfold own_sq; rw [if_neg hc363, if_neg hc364, if_pos hc365] <;> rfl, N0, rfl⟩
      · skip
        refine og (fun _ k => XS.icmpNo X0.here hx rfl (hb hby dm2_15) rfl (feq hc365).1 k) ?_
        try dsimp only [mkF]
        refine og (fun _ k => XS.iloadN X0.here hx rfl (hb hby dm2_18) rfl k) ?_
        refine og (fun _ k => XS.bipush X0.here hx rfl (hb hby dm2_19) k) ?_
        by_cases hc366 : c = (34 : Int32)
        · skip
          refine og (fun _ k => XS.icmpYes X0.here hx rfl (pc0 := 21) (pc' := 66) rfl (hb hby dm2_21) rfl (teq hc366).1 (by decide) (by decide) k) ?_
          refine og (fun _ k => XS.iconst X0.here hx rfl (hb hby dm2_66) k) ?_
          refine og (fun _ k => XS.goto X0.here hx rfl (pc0 := 67) (pc' := 71) rfl (hb hby dm2_67) (by decide) (by decide) k) ?_
          try dsimp only [mkF]
          refine own_fin (v := (some (.int (nar .boolean (1 : Int32))))) X0 (fun h => by rw [hrt] at h; cases h) hlk (fun fs hr => retN X0 hx (t := .boolean) hrt (by simp) (hb hby dm2_71) hr) (QQ := QPure (some (.int (own_sp c f q))) h0 n0) ?_ (by decide) (by decide)
          rw [e0]
          exact ⟨by unfold own_sp; unfold own_sq; rw [if_neg hc363, if_neg hc364, if_neg hc365, if_pos hc366] <;> rfl, N0, rfl⟩
        · skip
          refine og (fun _ k => XS.icmpNo X0.here hx rfl (hb hby dm2_21) rfl (feq hc366).1 k) ?_
          refine og (fun _ k => XS.iloadN X0.here hx rfl (hb hby dm2_24) rfl k) ?_
          refine og (fun _ k => XS.bipush X0.here hx rfl (hb hby dm2_25) k) ?_
          try dsimp only [mkF]
          by_cases hc367 : c = (59 : Int32)
          · skip
            refine og (fun _ k => XS.icmpYes X0.here hx rfl (pc0 := 27) (pc' := 66) rfl (hb hby dm2_27) rfl (teq hc367).1 (by decide) (by decide) k) ?_
            refine og (fun _ k => XS.iconst X0.here hx rfl (hb hby dm2_66) k) ?_
            refine og (fun _ k => XS.goto X0.here hx rfl (pc0 := 67) (pc' := 71) rfl (hb hby dm2_67) (by decide) (by decide) k) ?_
            refine own_fin (v := (some (.int (nar .boolean (1 : Int32))))) X0 (fun h => by rw [hrt] at h; cases h) hlk (fun fs hr => retN X0 hx (t := .boolean) hrt (by simp) (hb hby dm2_71) hr) (QQ := QPure (some (.int (own_sp c f q))) h0 n0) ?_ (by decide) (by decide)
            rw [e0]
            exact ⟨by unfold own_sp; unfold own_sq; rw [if_neg hc363, if_neg hc364, if_neg hc365, if_neg hc366, if_pos hc367] <;> rfl, N0, rfl⟩
          · skip
            refine og (fun _ k => XS.icmpNo X0.here hx rfl (hb hby dm2_27) rfl (feq hc367).1 k) ?_
            refine og (fun _ k => XS.iloadN X0.here hx rfl (hb hby dm2_30) rfl k) ?_
            refine og (fun _ k => XS.bipush X0.here hx rfl (hb hby dm2_31) k) ?_
            by_cases hc368 : c = (60 : Int32)
            · skip
              refine og (fun _ k => XS.icmpYes X0.here hx rfl (pc0 := 33) (pc' := 66) rfl (hb hby dm2_33) rfl (teq hc368).1 (by decide) (by decide) k) ?_
              refine og (fun _ k => XS.iconst X0.here hx rfl (hb hby dm2_66) k) ?_
              try dsimp only [mkF]
              refine og (fun _ k => XS.goto X0.here hx rfl (pc0 := 67) (pc' := 71) rfl (hb hby dm2_67) (by decide) (by decide) k) ?_
              refine own_fin (v := (some (.int (nar .boolean (1 : Int32))))) X0 (fun h => by rw [hrt] at h; cases h) hlk (fun fs hr => retN X0 hx (t := .boolean) hrt (by simp) (hb hby dm2_71) hr) (QQ := QPure (some (.int (own_sp c f q))) h0 n0) ?_ (by decide) (by decide)
              rw [e0]
              exact ⟨by unfold own_sp; unfold own_sq; rw [if_neg hc363, if_neg hc364, if_neg hc365, if_neg hc366, if_neg hc367, if_pos hc368] <;> rfl, N0, rfl⟩
            · skip
              refine og (fun _ k => XS.icmpNo X0.here hx rfl (hb hby dm2_33) rfl (feq hc368).1 k) ?_
              refine og (fun _ k => XS.iloadN X0.here hx rfl (hb hby dm2_36) rfl k) ?_
              try dsimp only [mkF]
              refine og (fun _ k => XS.bipush X0.here hx rfl (hb hby dm2_37) k) ?_
              by_cases hc369 : c = (62 : Int32)
              · skip
                refine og (fun _ k => XS.icmpYes X0.here hx rfl (pc0 := 39) (pc' := 66) rfl (hb hby dm2_39) rfl (teq hc369).1 (by decide) (by decide) k) ?_
                refine og (fun _ k => XS.iconst X0.here hx rfl (hb hby dm2_66) k) ?_
                refine og (fun _ k => XS.goto X0.here hx rfl (pc0 := 67) (pc' := 71) rfl (hb hby dm2_67) (by decide) (by decide) k) ?_
                refine own_fin (v := (some (.int (nar .boolean (1 : Int32))))) X0 (fun h => by rw [hrt] at h; cases h) hlk (fun fs hr => retN X0 hx (t := .boolean) hrt (by simp) (hb hby dm2_71) hr) (QQ := QPure (some (.int (own_sp c f q))) h0 n0) ?_ (by decide) (by decide)
                rw [e0]
                exact ⟨by unfold own_sp; unfold own_sq; rw [if_neg hc363, if_neg hc364, if_neg hc365, if_neg hc366, if_neg hc367, if_neg hc368, if_pos hc369] <;> rfl, N0, rfl⟩
              · skip
                refine og (fun _ k => XS.icmpNo X0.here hx rfl (hb hby dm2_39) rfl (feq hc369).1 k) ?_
                refine og (fun _ k => XS.iloadN X0.here hx rfl (hb hby dm2_42) rfl k) ?_
                refine og (fun _ k => XS.bipush X0.here hx rfl (hb hby dm2_43) k) ?_
                by_cases hc370 : c = (35 : Int32)
                · skip
                  refine og (fun _ k => XS.icmpNo X0.here hx rfl (hb hby dm2_45) rfl (teq hc370).2 k) ?_
                  try dsimp only [mkF]
                  refine og (fun _ k => XS.iloadN X0.here hx rfl (hb hby dm2_48) rfl k) ?_
                  by_cases hc371 : f = (0 : Int32)
                  · skip
                    refine og (fun _ k => XS.ifNo X0.here hx rfl (hb hby dm2_49) rfl ((if0 _ _).trans (teq hc371).2) k) ?_
                    refine og (fun _ k => XS.iloadN X0.here hx rfl (hb hby dm2_52) rfl k) ?_
                    refine og (fun _ k => XS.bipush X0.here hx rfl (hb hby dm2_53) k) ?_
                    by_cases hc372 : c = (32 : Int32)
                    · skip
                      refine og (fun _ k => XS.icmpNo X0.here hx rfl (hb hby dm2_55) rfl (teq hc372).2 k) ?_
                      try dsimp only [mkF]
                      refine og (fun _ k => XS.iloadN X0.here hx rfl (hb hby dm2_58) rfl k) ?_
                      refine og (fun _ k => XS.ifNo X0.here hx rfl (hb hby dm2_59) rfl ((if0 _ _).trans (teq hc371).2) k) ?_
                      refine og (fun _ k => XS.iloadN X0.here hx rfl (hb hby dm2_62) rfl k) ?_
                      by_cases hc373 : q = (0 : Int32)
                      · skip
                        refine og (fun _ k => XS.ifYes X0.here hx rfl (pc0 := 63) (pc' := 70) rfl (hb hby dm2_63) rfl ((if0 _ _).trans (teq hc373).1) (by decide) (by decide) k) ?_
                        refine og (fun _ k => XS.iconst X0.here hx rfl (hb hby dm2_70) k) ?_
                        try dsimp only [mkF]
                        refine own_fin (v := (some (.int (nar .boolean (0 : Int32))))) X0 (fun h => by rw [hrt] at h; cases h) hlk (fun fs hr => retN X0 hx (t := .boolean) hrt (by simp) (hb hby dm2_71) hr) (QQ := QPure (some (.int (own_sp c f q))) h0 n0) ?_ (by decide) (by decide)
                        rw [e0]
                        exact ⟨by unfold own_sp; unfold own_sq; rw [if_neg hc363, if_neg hc364, if_neg hc365, if_neg hc366, if_neg hc367, if_neg hc368, if_neg hc369, if_pos hc370, if_pos hc371, if_pos hc372, if_pos hc373] <;> first | rfl | (rw [if_pos hc371] <;> rfl), N0, rfl⟩
                      · skip
                        refine og (fun _ k => XS.ifNo X0.here hx rfl (hb hby dm2_63) rfl ((if0 _ _).trans (feq hc373).1) k) ?_
                        refine og (fun _ k => XS.iconst X0.here hx rfl (hb hby dm2_66) k) ?_
                        try dsimp only [mkF]
                        refine og (fun _ k => XS.goto X0.here hx rfl (pc0 := 67) (pc' := 71) rfl (hb hby dm2_67) (by decide) (by decide) k) ?_
                        refine own_fin (v := (some (.int (nar .boolean (1 : Int32))))) X0 (fun h => by rw [hrt] at h; cases h) hlk (fun fs hr => retN X0 hx (t := .boolean) hrt (by simp) (hb hby dm2_71) hr) (QQ := QPure (some (.int (own_sp c f q))) h0 n0) ?_ (by decide) (by decide)
                        rw [e0]
                        exact ⟨by unfold own_sp; unfold own_sq; rw [if_neg hc363, if_neg hc364, if_neg hc365, if_neg hc366, if_neg hc367, if_neg hc368, if_neg hc369, if_pos hc370, if_pos hc371, if_pos hc372, if_neg hc373] <;> first | rfl | (rw [if_pos hc371] <;> rfl), N0, rfl⟩
                    · skip
                      refine og (fun _ k => XS.icmpYes X0.here hx rfl (pc0 := 55) (pc' := 70) rfl (hb hby dm2_55) rfl (feq hc372).2 (by decide) (by decide) k) ?_
                      try dsimp only [mkF]
                      refine og (fun _ k => XS.iconst X0.here hx rfl (hb hby dm2_70) k) ?_
                      refine own_fin (v := (some (.int (nar .boolean (0 : Int32))))) X0 (fun h => by rw [hrt] at h; cases h) hlk (fun fs hr => retN X0 hx (t := .boolean) hrt (by simp) (hb hby dm2_71) hr) (QQ := QPure (some (.int (own_sp c f q))) h0 n0) ?_ (by decide) (by decide)
                      rw [e0]
                      exact ⟨by unfold own_sp; unfold own_sq; rw [if_neg hc363, if_neg hc364, if_neg hc365, if_neg hc366, if_neg hc367, if_neg hc368, if_neg hc369, if_pos hc370, if_pos hc371, if_neg hc372] <;> first | rfl | (rw [if_pos hc371] <;> rfl), N0, rfl⟩
                  · skip
                    refine og (fun _ k => XS.ifYes X0.here hx rfl (pc0 := 49) (pc' := 66) rfl (hb hby dm2_49) rfl ((if0 _ _).trans (feq hc371).2) (by decide) (by decide) k) ?_
                    refine og (fun _ k => XS.iconst X0.here hx rfl (hb hby dm2_66) k) ?_
                    refine og (fun _ k => XS.goto X0.here hx rfl (pc0 := 67) (pc' := 71) rfl (hb hby dm2_67) (by decide) (by decide) k) ?_
                    refine own_fin (v := (some (.int (nar .boolean (1 : Int32))))) X0 (fun h => by rw [hrt] at h; cases h) hlk (fun fs hr => retN X0 hx (t := .boolean) hrt (by simp) (hb hby dm2_71) hr) (QQ := QPure (some (.int (own_sp c f q))) h0 n0) ?_ (by decide) (by decide)
                    rw [e0]
                    exact ⟨by unfold own_sp; unfold own_sq; rw [if_neg hc363, if_neg hc364, if_neg hc365, if_neg hc366, if_neg hc367, if_neg hc368, if_neg hc369, if_pos hc370, if_neg hc371] <;> first | rfl | (rw [if_neg hc371] <;> rfl), N0, rfl⟩
                · skip
                  refine og (fun _ k => XS.icmpYes X0.here hx rfl (pc0 := 45) (pc' := 52) rfl (hb hby dm2_45) rfl (feq hc370).2 (by decide) (by decide) k) ?_
                  try dsimp only [mkF]
                  refine og (fun _ k => XS.iloadN X0.here hx rfl (hb hby dm2_52) rfl k) ?_
                  refine og (fun _ k => XS.bipush X0.here hx rfl (hb hby dm2_53) k) ?_
                  by_cases hc374 : c = (32 : Int32)
                  · skip
                    refine og (fun _ k => XS.icmpNo X0.here hx rfl (hb hby dm2_55) rfl (teq hc374).2 k) ?_
                    refine og (fun _ k => XS.iloadN X0.here hx rfl (hb hby dm2_58) rfl k) ?_
                    by_cases hc375 : f = (0 : Int32)
                    · skip
                      refine og (fun _ k => XS.ifNo X0.here hx rfl (hb hby dm2_59) rfl ((if0 _ _).trans (teq hc375).2) k) ?_
                      try dsimp only [mkF]
                      refine og (fun _ k => XS.iloadN X0.here hx rfl (hb hby dm2_62) rfl k) ?_
                      by_cases hc376 : q = (0 : Int32)
                      · skip
                        refine og (fun _ k => XS.ifYes X0.here hx rfl (pc0 := 63) (pc' := 70) rfl (hb hby dm2_63) rfl ((if0 _ _).trans (teq hc376).1) (by decide) (by decide) k) ?_
                        refine og (fun _ k => XS.iconst X0.here hx rfl (hb hby dm2_70) k) ?_
                        refine own_fin (v := (some (.int (nar .boolean (0 : Int32))))) X0 (fun h => by rw [hrt] at h; cases h) hlk (fun fs hr => retN X0 hx (t := .boolean) hrt (by simp) (hb hby dm2_71) hr) (QQ := QPure (some (.int (own_sp c f q))) h0 n0) ?_ (by decide) (by decide)
                        rw [e0]
                        exact ⟨by unfold own_sp; unfold own_sq; rw [if_neg hc363, if_neg hc364, if_neg hc365, if_neg hc366, if_neg hc367, if_neg hc368, if_neg hc369, if_neg hc370, if_pos hc374, if_pos hc375, if_pos hc376] <;> first | rfl | (rw [if_pos hc375] <;> rfl), N0, rfl⟩
                      · skip
                        refine og (fun _ k => XS.ifNo X0.here hx rfl (hb hby dm2_63) rfl ((if0 _ _).trans (feq hc376).1) k) ?_
                        refine og (fun _ k => XS.iconst X0.here hx rfl (hb hby dm2_66) k) ?_
                        refine og (fun _ k => XS.goto X0.here hx rfl (pc0 := 67) (pc' := 71) rfl (hb hby dm2_67) (by decide) (by decide) k) ?_
                        refine own_fin (v := (some (.int (nar .boolean (1 : Int32))))) X0 (fun h => by rw [hrt] at h; cases h) hlk (fun fs hr => retN X0 hx (t := .boolean) hrt (by simp) (hb hby dm2_71) hr) (QQ := QPure (some (.int (own_sp c f q))) h0 n0) ?_ (by decide) (by decide)
                        rw [e0]
                        exact ⟨by unfold own_sp; unfold own_sq; rw [if_neg hc363, if_neg hc364, if_neg hc365, if_neg hc366, if_neg hc367, if_neg hc368, if_neg hc369, if_neg hc370, if_pos hc374, if_pos hc375, if_neg hc376] <;> first | rfl | (rw [if_pos hc375] <;> rfl), N0, rfl⟩
                    · skip
                      refine og (fun _ k => XS.ifYes X0.here hx rfl (pc0 := 59) (pc' := 66) rfl (hb hby dm2_59) rfl ((if0 _ _).trans (feq hc375).2) (by decide) (by decide) k) ?_
                      try dsimp only [mkF]
                      refine og (fun _ k => XS.iconst X0.here hx rfl (hb hby dm2_66) k) ?_
                      refine og (fun _ k => XS.goto X0.here hx rfl (pc0 := 67) (pc' := 71) rfl (hb hby dm2_67) (by decide) (by decide) k) ?_
                      refine own_fin (v := (some (.int (nar .boolean (1 : Int32))))) X0 (fun h => by rw [hrt] at h; cases h) hlk (fun fs hr => retN X0 hx (t := .boolean) hrt (by simp) (hb hby dm2_71) hr) (QQ := QPure (some (.int (own_sp c f q))) h0 n0) ?_ (by decide) (by decide)
                      rw [e0]
                      exact ⟨by unfold own_sp; unfold own_sq; rw [if_neg hc363, if_neg hc364, if_neg hc365, if_neg hc366, if_neg hc367, if_neg hc368, if_neg hc369, if_neg hc370, if_pos hc374, if_neg hc375] <;> first | rfl | (rw [if_neg hc375] <;> rfl), N0, rfl⟩
                  · skip
                    refine og (fun _ k => XS.icmpYes X0.here hx rfl (pc0 := 55) (pc' := 70) rfl (hb hby dm2_55) rfl (feq hc374).2 (by decide) (by decide) k) ?_
                    refine og (fun _ k => XS.iconst X0.here hx rfl (hb hby dm2_70) k) ?_
                    refine own_fin (v := (some (.int (nar .boolean (0 : Int32))))) X0 (fun h => by rw [hrt] at h; cases h) hlk (fun fs hr => retN X0 hx (t := .boolean) hrt (by simp) (hb hby dm2_71) hr) (QQ := QPure (some (.int (own_sp c f q))) h0 n0) ?_ (by decide) (by decide)
                    rw [e0]
                    exact ⟨by unfold own_sp; unfold own_sq; rw [if_neg hc363, if_neg hc364, if_neg hc365, if_neg hc366, if_neg hc367, if_neg hc368, if_neg hc369, if_neg hc370, if_neg hc374] <;> rfl, N0, rfl⟩

abbrev km3 := method_3_code
theorem dm3_0 : Dk km3 0 (.iload_n 0) 1 := own_k
theorem dm3_1 : Dk km3 1 (.ifCond .ne 5) 3 := own_k
theorem dm3_4 : Dk km3 4 (.iconst 3) 1 := own_k
theorem dm3_5 : Dk km3 5 .ireturn 1 := own_k
theorem dm3_6 : Dk km3 6 (.iload_n 0) 1 := own_k
theorem dm3_7 : Dk km3 7 (.iload_n 1) 1 := own_k
theorem dm3_8 : Dk km3 8 (.iload_n 2) 1 := own_k
theorem dm3_9 : Dk km3 9 (.invokestatic 7) 3 := own_k
theorem pd_36 : parseMethodDescriptor "(CZZ)Z" = some ⟨[.char, .boolean, .boolean], some .boolean⟩ := by decide +kernel
theorem dm3_12 : Dk km3 12 (.ifCond .eq 5) 3 := own_k
theorem dm3_17 : Dk km3 17 (.iconst 1) 1 := own_k
theorem dm3_18 : Dk km3 18 .ireturn 1 := own_k
theorem dm3_15 : Dk km3 15 (.iconst 2) 1 := own_k
theorem dm3_16 : Dk km3 16 .ireturn 1 := own_k
theorem ef_rm_wd (m : MethodId) (x0 : Int32) (x1 : Int32) (x2 : Int32) : entryFrame m #[(.int x0), (.int x1), (.int x2)] 3 = mkF m 0 #[.val (.int x0), .val (.int x1), .val (.int x2)] [] := by
   first | (simp [entryFrame, mkF, argsToLocals, Value.category]; done) | rfl
set_option maxRecDepth 65536 in
set_option maxHeartbeats 40000000 in
theorem rm_wd (l : Launch) (Z : State) (a0 : Array Value) (hw : ∀ d ∈ tables_1, d.before a0 Z = true) (ws : List Jvm.Cond) (c f q : Int32) (h0 : Heap) (n0 : Nat) (O0 : Old Z n0 h0) :
    MetFree l (⟨"com/example/rolelattice/rolelattice/decision/DistinguishedNameEscapeValuePinLaw", "width", "(CZZ)I"⟩ : MethodName) (head1 (Jvm.Cond.code (⟨"com/example/rolelattice/rolelattice/decision/DistinguishedNameEscapeValuePinLaw", "width", "(CZZ)I"⟩ : MethodName) method_3_code 3 (some .int) :: ws) ⟨1, 0, 0, 14⟩) (fun aA U => aA = #[(.int c), (.int f), (.int q)] ∧ Z.Warmed39 U.vm ∧ U.heap = h0) (fun _ _ _ _ _ => True) (fun _ U oO U' => ∃ rV rL, oO = .returned rV ∧ QPure (some (.int (Int32.ofNat (own_ex c f q).length))) h0 n0 rV U'.heap rL ∧ FrameEnd U oO U' rL 0 0) := by
  refine MetFree.of_bodySF (plainFor_of_name pn_7) hisR ?_
  intro p e s m args below meth cC s₁ Bd hml0 hP hK
  obtain ⟨rfl, hZ, hh⟩ := hP
  have hx := Bd.exec
  have hby := Bd.bytes
  have hml : cC.maxLocals = 3 := hml0
  have hown : s.vm.findClass "com/example/rolelattice/rolelattice/decision/DistinguishedNameEscapeValuePinLaw" = some m.cls := findClass_of_methodNamed Bd.named
  have hnm := (name_of_methodNamed Bd.named Bd.method).1
  have hrt := Bd.returns
  have hlk : meth.locks = false := Bd.notSynchronized
  have X0 : Stand p l e ⟨1, 0, 0, 14⟩ s m #[(.int c), (.int f), (.int q)] below meth cC s₁ [] 0 0 := Stand.of_body Bd
  have e0 : s₁.heap = h0 := by rw [← hh, Bd.state]; rfl
  have N0 := Fr.nil n0
  have Z0 : n0 ≤ h0.size := O0.1 ▸ O0.2.1
  show own_Go p e below (s₁.setTop (entryFrame m #[(.int c), (.int f), (.int q)] 3)) (fun oO U' => ∃ rV rL, oO = .returned rV ∧ QPure (some (.int (Int32.ofNat (own_ex c f q).length))) h0 n0 rV U'.heap rL ∧ FrameEnd s oO U' rL 0 0)
  refine own_go (fun _ k => castTop (ef_rm_wd m c f q) k) ?_
  refine og (fun _ k => XS.iloadN X0.here hx rfl (hb hby dm3_0) rfl k) ?_
  by_cases hc377 : c = (0 : Int32)
  · skip
    refine og (fun _ k => XS.ifNo X0.here hx rfl (hb hby dm3_1) rfl ((if0 _ _).trans (teq hc377).2) k) ?_
    refine og (fun _ k => XS.iconst X0.here hx rfl (hb hby dm3_4) k) ?_
    refine own_fin (v := (some (.int (3 : Int32)))) X0 (fun h => by rw [hrt] at h; cases h) hlk (fun fs hr => retI X0 hx hrt (hb hby dm3_5) hr) (QQ := QPure (some (.int (Int32.ofNat (own_ex c f q).length))) h0 n0) ?_ (by decide) (by decide)
    rw [e0]
    exact ⟨by rw [own_exw, if_pos hc377], N0, rfl⟩
  · skip
    refine og (fun _ k => XS.ifYes X0.here hx rfl (pc0 := 1) (pc' := 6) rfl (hb hby dm3_1) rfl ((if0 _ _).trans (feq hc377).2) (by decide) (by decide) k) ?_
    refine og (fun _ k => XS.iloadN X0.here hx rfl (hb hby dm3_6) rfl k) ?_
    refine og (fun _ k => XS.iloadN X0.here hx rfl (hb hby dm3_7) rfl k) ?_
    try dsimp only [mkF]
    refine og (fun _ k => XS.iloadN X0.here hx rfl (hb hby dm3_8) rfl k) ?_
    obtain ⟨v378, _, ⟨T378, L378, k378, n378⟩, -, X378, ⟨Lc378, hQ378, l378, y378, z378⟩, st378⟩ := Jvm.LawKit.callS X0 hx (y := (⟨"com/example/rolelattice/rolelattice/decision/DistinguishedNameEscapeValuePinLaw", "special", "(CZZ)Z"⟩ : MethodName)) hown (mvT hZ (tw hw 186 rfl)) (mvT hZ (tw hw 187 rfl)) (mvT hZ (tw hw 184 rfl)) (mvT hZ (tw hw 188 rfl)) (by decide) (backOf (W := 0) (rm_sp l Z a0 hw [] c f q h0 n0 O0 ) hZ (tw hw 188 rfl) (tw hw 184 rfl) (by decide) (by decide)) (g := (mkF m 9 #[.val (.int c), .val (.int f), .val (.int q)] [(.int q), (.int f), (.int c)])) rfl (by rw [hml]; rfl) (argsL := [(.int c), (.int f), (.int q)]) (rest := []) (lenOf pd_36 rfl) rfl (by show 2 * 0 + _ ≤ _; exact Nat.le_of_eq rfl) (hb hby dm3_9) (fun _ _ => ⟨rfl, e0, (by decide : 0 + 0 ≤ _), (by decide : 0 + 0 ≤ _)⟩)
    dsimp only [Pt.U, Pt.locs, Pt.cells, Pt.slots] at X378 l378 y378 z378 st378 hQ378
    subst l378 y378 z378
    refine own_go st378 ?_
    obtain ⟨rfl, Nq378, e378⟩ := hQ378
    have N378 := Fr.app N0 Nq378
    by_cases hc379 : (own_sp c f q) = (0 : Int32)
    · skip
      refine og (fun _ k => XS.ifYes X378.here hx rfl (pc0 := 12) (pc' := 17) rfl (hb hby dm3_12) rfl ((if0 _ _).trans (teq hc379).1) (by decide) (by decide) k) ?_
      refine og (fun _ k => XS.iconst X378.here hx rfl (hb hby dm3_17) k) ?_
      refine own_fin (v := (some (.int (1 : Int32)))) X378 (fun h => by rw [hrt] at h; cases h) hlk (fun fs hr => retI X378 hx hrt (hb hby dm3_18) hr) (QQ := QPure (some (.int (Int32.ofNat (own_ex c f q).length))) h0 n0) ?_ (by decide) (by decide)
      rw [e378]
      exact ⟨by rw [own_exw, if_neg hc377, if_pos hc379], N378, rfl⟩
    · skip
      refine og (fun _ k => XS.ifNo X378.here hx rfl (hb hby dm3_12) rfl ((if0 _ _).trans (feq hc379).1) k) ?_
      refine og (fun _ k => XS.iconst X378.here hx rfl (hb hby dm3_15) k) ?_
      refine own_fin (v := (some (.int (2 : Int32)))) X378 (fun h => by rw [hrt] at h; cases h) hlk (fun fs hr => retI X378 hx hrt (hb hby dm3_16) hr) (QQ := QPure (some (.int (Int32.ofNat (own_ex c f q).length))) h0 n0) ?_ (by decide) (by decide)
      rw [e378]
      exact ⟨by rw [own_exw, if_neg hc377, if_neg hc379], N378, rfl⟩

abbrev km4 := method_4_code
theorem dm4_0 : Dk km4 0 (.iload_n 2) 1 := own_k
theorem dm4_1 : Dk km4 1 (.ifCond .ne 43) 3 := own_k
theorem dm4_4 : Dk km4 4 (.aload_n 0) 1 := own_k
theorem dm4_5 : Dk km4 5 (.iload_n 1) 1 := own_k
theorem dm4_6 : Dk km4 6 (.invokevirtual 13) 3 := own_k
theorem pd_37 : parseMethodDescriptor "(I)C" = some ⟨[.int], some .char⟩ := by decide +kernel
theorem dm4_9 : Dk km4 9 (.bipush 92) 2 := own_k
theorem dm4_11 : Dk km4 11 (.if_icmp .ne 31) 3 := own_k
theorem dm4_14 : Dk km4 14 (.aload_n 0) 1 := own_k
theorem dm4_15 : Dk km4 15 (.iload_n 1) 1 := own_k
theorem dm4_16 : Dk km4 16 (.iconst 1) 1 := own_k
theorem dm4_17 : Dk km4 17 .iadd 1 := own_k
theorem dm4_18 : Dk km4 18 (.invokevirtual 13) 3 := own_k
theorem dm4_21 : Dk km4 21 (.bipush 48) 2 := own_k
theorem dm4_23 : Dk km4 23 (.if_icmp .ne 19) 3 := own_k
theorem dm4_26 : Dk km4 26 (.aload_n 0) 1 := own_k
theorem dm4_27 : Dk km4 27 (.iload_n 1) 1 := own_k
theorem dm4_28 : Dk km4 28 (.iconst 2) 1 := own_k
theorem dm4_29 : Dk km4 29 .iadd 1 := own_k
theorem dm4_30 : Dk km4 30 (.invokevirtual 13) 3 := own_k
theorem dm4_33 : Dk km4 33 (.bipush 48) 2 := own_k
theorem dm4_35 : Dk km4 35 (.if_icmp .ne 7) 3 := own_k
theorem dm4_38 : Dk km4 38 (.iconst 1) 1 := own_k
theorem dm4_39 : Dk km4 39 (.goto 4) 3 := own_k
theorem dm4_43 : Dk km4 43 .ireturn 1 := own_k
theorem dm4_44 : Dk km4 44 (.iload_n 2) 1 := own_k
theorem dm4_45 : Dk km4 45 (.iload_n 3) 1 := own_k
theorem dm4_46 : Dk km4 46 (.iload 4) 2 := own_k
theorem dm4_48 : Dk km4 48 (.invokestatic 7) 3 := own_k
theorem dm4_51 : Dk km4 51 (.ifCond .eq 30) 3 := own_k
theorem dm4_81 : Dk km4 81 (.aload_n 0) 1 := own_k
theorem dm4_82 : Dk km4 82 (.iload_n 1) 1 := own_k
theorem dm4_83 : Dk km4 83 (.invokevirtual 13) 3 := own_k
theorem dm4_86 : Dk km4 86 (.iload_n 2) 1 := own_k
theorem dm4_87 : Dk km4 87 (.if_icmp .ne 7) 3 := own_k
theorem dm4_90 : Dk km4 90 (.iconst 1) 1 := own_k
theorem dm4_91 : Dk km4 91 (.goto 4) 3 := own_k
theorem dm4_95 : Dk km4 95 .ireturn 1 := own_k
theorem dm4_54 : Dk km4 54 (.aload_n 0) 1 := own_k
theorem dm4_55 : Dk km4 55 (.iload_n 1) 1 := own_k
theorem dm4_56 : Dk km4 56 (.invokevirtual 13) 3 := own_k
theorem dm4_59 : Dk km4 59 (.bipush 92) 2 := own_k
theorem dm4_61 : Dk km4 61 (.if_icmp .ne 18) 3 := own_k
theorem dm4_64 : Dk km4 64 (.aload_n 0) 1 := own_k
theorem dm4_65 : Dk km4 65 (.iload_n 1) 1 := own_k
theorem dm4_66 : Dk km4 66 (.iconst 1) 1 := own_k
theorem dm4_67 : Dk km4 67 .iadd 1 := own_k
theorem dm4_68 : Dk km4 68 (.invokevirtual 13) 3 := own_k
theorem dm4_71 : Dk km4 71 (.iload_n 2) 1 := own_k
theorem dm4_72 : Dk km4 72 (.if_icmp .ne 7) 3 := own_k
theorem dm4_75 : Dk km4 75 (.iconst 1) 1 := own_k
theorem dm4_76 : Dk km4 76 (.goto 4) 3 := own_k
theorem dm4_80 : Dk km4 80 .ireturn 1 := own_k
theorem ef_rm_chk (m : MethodId) (x0 : Addr) (x1 : Int32) (x2 : Int32) (x3 : Int32) (x4 : Int32) : entryFrame m #[(.ref x0), (.int x1), (.int x2), (.int x3), (.int x4)] 5 = mkF m 0 #[.val (.ref x0), .val (.int x1), .val (.int x2), .val (.int x3), .val (.int x4)] [] := by
   first | (simp [entryFrame, mkF, argsToLocals, Value.category]; done) | rfl
set_option maxRecDepth 65536 in
set_option maxHeartbeats 40000000 in
theorem rm_chk (l : Launch) (Z : State) (a0 : Array Value) (hw : ∀ d ∈ tables_1, d.before a0 Z = true) (ws : List Jvm.Cond) (x t : Addr) (k : ClassId) (cs : List Int32) (cd N2 : Int32) (vs : List Value) (off : Nat) (c f q G1 : Int32) (G3 : Value) (h0 : Heap) (n0 : Nat) (O0 : Old Z n0 h0) (O2 : Sta Z Z.heap "java/lang/String" "COMPACT_STRINGS" "Z" (.int G1)) (P5 : ¬ (G1 = (0 : Int32))) (O4 : Sta Z Z.heap "jdk/internal/util/Preconditions" "SIOOBE_FORMATTER" "Ljava/util/function/BiFunction;" G3) (rG3 : G3.isRef = true) (OA : Sta Z Z.heap "java/lang/StringUTF16" "$assertionsDisabled" "Z" (.int (1 : Int32))) (OH : Sta Z Z.heap "java/lang/StringUTF16" "HI_BYTE_SHIFT" "I" (.int (0 : Int32))) (OL : Sta Z Z.heap "java/lang/StringUTF16" "LO_BYTE_SHIFT" "I" (.int (8 : Int32))) (E_x : Exa Z h0 x "java/lang/String") (Fv_x : Fld Z h0 x "java/lang/String" "value" "[B" (.ref t)) (Fc_x : Fld Z h0 x "java/lang/String" "coder" "B" (.int cd)) (V_t : Arv Z h0 t k .byte N2 vs (.int (0 : Int32))) (hC_x : StrChars.Road.CodA cs cd N2 vs) (hok : own_Ok cs) (hle : off + (own_ex c f q).length ≤ cs.length) (hat : ∀ j, j < (own_ex c f q).length → cs.getD (off + j) 0 = (own_ex c f q).getD j 0) :
    MetFree l (⟨"com/example/rolelattice/rolelattice/decision/DistinguishedNameEscapeValuePinLaw", "check", "(Ljava/lang/String;ICZZ)Z"⟩ : MethodName) (head1 (Jvm.Cond.code (⟨"com/example/rolelattice/rolelattice/decision/DistinguishedNameEscapeValuePinLaw", "check", "(Ljava/lang/String;ICZZ)Z"⟩ : MethodName) method_4_code 5 (some .boolean) :: ws) ⟨5, 0, 0, 66⟩) (fun aA U => aA = #[(.ref x), (.int (Int32.ofNat off)), (.int c), (.int f), (.int q)] ∧ Z.Warmed39 U.vm ∧ U.heap = h0) (fun _ _ _ _ _ => True) (fun _ U oO U' => ∃ rV rL, oO = .returned rV ∧ QPure (some (.int (1 : Int32))) h0 n0 rV U'.heap rL ∧ FrameEnd U oO U' rL 0 0) := by
  refine MetFree.of_bodySF (plainFor_of_name pn_7) hisR ?_
  intro p e s m args below meth cC s₁ Bd hml0 hP hK
  obtain ⟨rfl, hZ, hh⟩ := hP
  have hx := Bd.exec
  have hby := Bd.bytes
  have hml : cC.maxLocals = 5 := hml0
  have hown : s.vm.findClass "com/example/rolelattice/rolelattice/decision/DistinguishedNameEscapeValuePinLaw" = some m.cls := findClass_of_methodNamed Bd.named
  have hnm := (name_of_methodNamed Bd.named Bd.method).1
  have hrt := Bd.returns
  have hlk : meth.locks = false := Bd.notSynchronized
  have X0 : Stand p l e ⟨5, 0, 0, 66⟩ s m #[(.ref x), (.int (Int32.ofNat off)), (.int c), (.int f), (.int q)] below meth cC s₁ [] 0 0 := Stand.of_body Bd
  have e0 : s₁.heap = h0 := by rw [← hh, Bd.state]; rfl
  have N0 := Fr.nil n0
  have Z0 : n0 ≤ h0.size := O0.1 ▸ O0.2.1
  show own_Go p e below (s₁.setTop (entryFrame m #[(.ref x), (.int (Int32.ofNat off)), (.int c), (.int f), (.int q)] 5)) (fun oO U' => ∃ rV rL, oO = .returned rV ∧ QPure (some (.int (1 : Int32))) h0 n0 rV U'.heap rL ∧ FrameEnd s oO U' rL 0 0)
  refine own_go (fun _ k => castTop (ef_rm_chk m x _ c f q) k) ?_
  have hlen : cs.length ≤ 4000 := hok.2
  refine og (fun _ k => XS.iloadN X0.here hx rfl (hb hby dm4_0) rfl k) ?_
  by_cases hc380 : c = (0 : Int32)
  · skip
    refine og (fun _ k => XS.ifNo X0.here hx rfl (hb hby dm4_1) rfl ((if0 _ _).trans (teq hc380).2) k) ?_
    have eX : own_ex c f q = [92, 48, 48] := by unfold own_ex; rw [if_pos hc380]
    rw [eX] at hle hat
    have hle' : off + 3 ≤ cs.length := hle
    refine og (fun _ k => XS.aloadN X0.here hx rfl (hb hby dm4_4) rfl rfl k) ?_
    refine og (fun _ k => XS.iloadN X0.here hx rfl (hb hby dm4_5) rfl k) ?_
    try dsimp only [mkF]
    obtain ⟨cq381, kq381, q381a, q381b, q381c⟩ := isOf hZ e0 E_x
    obtain ⟨v381, _, ⟨T381, L381, k381, n381⟩, -, X381, ⟨Lc381, hQ381, l381, y381, z381⟩, st381⟩ := X0.virtualBack hx (y := (⟨"java/lang/String", "charAt", "(I)C"⟩ : MethodName)) (z := (⟨"java/lang/String", "charAt", "(I)C"⟩ : MethodName)) hown (mvT hZ (tw hw 192 rfl)) (mvT hZ (tw hw 118 rfl)) (notFace_of_selects (args := #[]) (mvT hZ (tw hw 120 rfl))) (mvT hZ (tw hw 120 rfl)) (mvT hZ (tw hw 119 rfl)) (by decide) (backOf (W := 0) (rm_ca l Z a0 hw [] x t k cs cd N2 vs off G1 G3 h0 n0 O0 O2 P5 O4 rG3 OA OH OL E_x Fv_x Fc_x V_t hC_x hok (by omega)) hZ (tw hw 121 rfl) (tw hw 2 rfl) (by decide) (by decide)) q381a q381c (g := (mkF m 6 #[.val (.ref x), .val (.int (Int32.ofNat off)), .val (.int c), .val (.int f), .val (.int q)] [(.int (Int32.ofNat off)), (.ref x)])) rfl (by rw [hml]; rfl) (Steps.refl _) (argsL := [(.int (Int32.ofNat off))]) (rest := []) (lenOf pd_37 rfl) rfl (by show 2 * 0 + _ ≤ _; exact Nat.le_of_eq rfl) (hb hby dm4_6) (fun _ _ => ⟨rfl, e0, (by decide : 0 + 0 ≤ _), (by decide : 0 + 0 ≤ _)⟩)
    dsimp only [Pt.U, Pt.locs, Pt.cells, Pt.slots] at X381 l381 y381 z381 st381 hQ381
    subst l381 y381 z381
    refine own_gos st381 ?_
    obtain ⟨rfl, Nq381, e381⟩ := hQ381
    have N381 := Fr.app N0 Nq381
    refine og (fun _ k => XS.bipush X381.here hx rfl (hb hby dm4_9) k) ?_
    refine og (fun _ k => XS.icmpNo X381.here hx rfl (hb hby dm4_11) rfl (teq (hat 0 (Nat.le_of_ble_eq_true rfl))).2 k) ?_
    refine og (fun _ k => XS.aloadN X381.here hx rfl (hb hby dm4_14) rfl rfl k) ?_
    refine og (fun _ k => XS.iloadN X381.here hx rfl (hb hby dm4_15) rfl k) ?_
    try dsimp only [mkF]
    refine og (fun _ k => XS.iconst X381.here hx rfl (hb hby dm4_16) k) ?_
    refine og (fun _ k => XS.iadd X381.here hx rfl (hb hby dm4_17) rfl k) ?_
    show own_Go p e below (T381.setTop (mkF m 18 #[.val (.ref x), .val (.int (Int32.ofNat off)), .val (.int c), .val (.int f), .val (.int q)] [(.int ((Int32.ofNat off) + (1 : Int32))), (.ref x)])) _
    rw [own_inc]
    obtain ⟨cq382, kq382, q382a, q382b, q382c⟩ := isOf hZ e381 E_x
    obtain ⟨v382, _, ⟨T382, L382, k382, n382⟩, -, X382, ⟨Lc382, hQ382, l382, y382, z382⟩, st382⟩ := X381.virtualBack hx (y := (⟨"java/lang/String", "charAt", "(I)C"⟩ : MethodName)) (z := (⟨"java/lang/String", "charAt", "(I)C"⟩ : MethodName)) hown (mvT hZ (tw hw 192 rfl)) (mvT hZ (tw hw 118 rfl)) (notFace_of_selects (args := #[]) (mvT hZ (tw hw 120 rfl))) (mvT hZ (tw hw 120 rfl)) (mvT hZ (tw hw 119 rfl)) (by decide) (backOf (W := 0) (rm_ca l Z a0 hw [] x t k cs cd N2 vs (off + 1) G1 G3 h0 n0 O0 O2 P5 O4 rG3 OA OH OL E_x Fv_x Fc_x V_t hC_x hok (by omega)) hZ (tw hw 121 rfl) (tw hw 2 rfl) (by decide) (by decide)) q382a q382c (g := (mkF m 18 #[.val (.ref x), .val (.int (Int32.ofNat off)), .val (.int c), .val (.int f), .val (.int q)] [(.int (Int32.ofNat (off + 1))), (.ref x)])) rfl (by rw [hml]; rfl) (Steps.refl _) (argsL := [(.int (Int32.ofNat (off + 1)))]) (rest := []) (lenOf pd_37 rfl) rfl (by show 2 * 0 + _ ≤ _; exact Nat.le_of_eq rfl) (hb hby dm4_18) (fun _ _ => ⟨rfl, e381, (by decide : 0 + 0 ≤ _), (by decide : 0 + 0 ≤ _)⟩)
    dsimp only [Pt.U, Pt.locs, Pt.cells, Pt.slots] at X382 l382 y382 z382 st382 hQ382
    subst l382 y382 z382
    refine own_gos st382 ?_
    obtain ⟨rfl, Nq382, e382⟩ := hQ382
    have N382 := Fr.app N381 Nq382
    refine og (fun _ k => XS.bipush X382.here hx rfl (hb hby dm4_21) k) ?_
    try dsimp only [mkF]
    refine og (fun _ k => XS.icmpNo X382.here hx rfl (hb hby dm4_23) rfl (teq (hat 1 (Nat.le_of_ble_eq_true rfl))).2 k) ?_
    refine og (fun _ k => XS.aloadN X382.here hx rfl (hb hby dm4_26) rfl rfl k) ?_
    refine og (fun _ k => XS.iloadN X382.here hx rfl (hb hby dm4_27) rfl k) ?_
    refine og (fun _ k => XS.iconst X382.here hx rfl (hb hby dm4_28) k) ?_
    refine og (fun _ k => XS.iadd X382.here hx rfl (hb hby dm4_29) rfl k) ?_
    try dsimp only [mkF]
    show own_Go p e below (T382.setTop (mkF m 30 #[.val (.ref x), .val (.int (Int32.ofNat off)), .val (.int c), .val (.int f), .val (.int q)] [(.int ((Int32.ofNat off) + (2 : Int32))), (.ref x)])) _
    rw [own_inc2]
    obtain ⟨cq383, kq383, q383a, q383b, q383c⟩ := isOf hZ e382 E_x
    obtain ⟨v383, _, ⟨T383, L383, k383, n383⟩, -, X383, ⟨Lc383, hQ383, l383, y383, z383⟩, st383⟩ := X382.virtualBack hx (y := (⟨"java/lang/String", "charAt", "(I)C"⟩ : MethodName)) (z := (⟨"java/lang/String", "charAt", "(I)C"⟩ : MethodName)) hown (mvT hZ (tw hw 192 rfl)) (mvT hZ (tw hw 118 rfl)) (notFace_of_selects (args := #[]) (mvT hZ (tw hw 120 rfl))) (mvT hZ (tw hw 120 rfl)) (mvT hZ (tw hw 119 rfl)) (by decide) (backOf (W := 0) (rm_ca l Z a0 hw [] x t k cs cd N2 vs (off + 2) G1 G3 h0 n0 O0 O2 P5 O4 rG3 OA OH OL E_x Fv_x Fc_x V_t hC_x hok (by omega)) hZ (tw hw 121 rfl) (tw hw 2 rfl) (by decide) (by decide)) q383a q383c (g := (mkF m 30 #[.val (.ref x), .val (.int (Int32.ofNat off)), .val (.int c), .val (.int f), .val (.int q)] [(.int (Int32.ofNat (off + 2))), (.ref x)])) rfl (by rw [hml]; rfl) (Steps.refl _) (argsL := [(.int (Int32.ofNat (off + 2)))]) (rest := []) (lenOf pd_37 rfl) rfl (by show 2 * 0 + _ ≤ _; exact Nat.le_of_eq rfl) (hb hby dm4_30) (fun _ _ => ⟨rfl, e382, (by decide : 0 + 0 ≤ _), (by decide : 0 + 0 ≤ _)⟩)
    dsimp only [Pt.U, Pt.locs, Pt.cells, Pt.slots] at X383 l383 y383 z383 st383 hQ383
    subst l383 y383 z383
    refine own_gos st383 ?_
    obtain ⟨rfl, Nq383, e383⟩ := hQ383
    have N383 := Fr.app N382 Nq383
    refine og (fun _ k => XS.bipush X383.here hx rfl (hb hby dm4_33) k) ?_
    refine og (fun _ k => XS.icmpNo X383.here hx rfl (hb hby dm4_35) rfl (teq (hat 2 (Nat.le_of_ble_eq_true rfl))).2 k) ?_
    refine og (fun _ k => XS.iconst X383.here hx rfl (hb hby dm4_38) k) ?_
    try dsimp only [mkF]
    refine og (fun _ k => XS.goto X383.here hx rfl (pc0 := 39) (pc' := 43) rfl (hb hby dm4_39) (by decide) (by decide) k) ?_
    refine own_fin (v := (some (.int (nar .boolean (1 : Int32))))) X383 (fun h => by rw [hrt] at h; cases h) hlk (fun fs hr => retN X383 hx (t := .boolean) hrt (by simp) (hb hby dm4_43) hr) (QQ := QPure (some (.int (1 : Int32))) h0 n0) ?_ (by decide) (by decide)
    rw [e383]
    exact ⟨rfl, N383, rfl⟩
  · skip
    refine og (fun _ k => XS.ifYes X0.here hx rfl (pc0 := 1) (pc' := 44) rfl (hb hby dm4_1) rfl ((if0 _ _).trans (feq hc380).2) (by decide) (by decide) k) ?_
    refine og (fun _ k => XS.iloadN X0.here hx rfl (hb hby dm4_44) rfl k) ?_
    refine og (fun _ k => XS.iloadN X0.here hx rfl (hb hby dm4_45) rfl k) ?_
    try dsimp only [mkF]
    refine og (fun _ k => XS.iload X0.here hx rfl (hb hby dm4_46) rfl k) ?_
    obtain ⟨v384, _, ⟨T384, L384, k384, n384⟩, -, X384, ⟨Lc384, hQ384, l384, y384, z384⟩, st384⟩ := Jvm.LawKit.callS X0 hx (y := (⟨"com/example/rolelattice/rolelattice/decision/DistinguishedNameEscapeValuePinLaw", "special", "(CZZ)Z"⟩ : MethodName)) hown (mvT hZ (tw hw 186 rfl)) (mvT hZ (tw hw 187 rfl)) (mvT hZ (tw hw 184 rfl)) (mvT hZ (tw hw 188 rfl)) (by decide) (backOf (W := 0) (rm_sp l Z a0 hw [] c f q h0 n0 O0 ) hZ (tw hw 188 rfl) (tw hw 184 rfl) (by decide) (by decide)) (g := (mkF m 48 #[.val (.ref x), .val (.int (Int32.ofNat off)), .val (.int c), .val (.int f), .val (.int q)] [(.int q), (.int f), (.int c)])) rfl (by rw [hml]; rfl) (argsL := [(.int c), (.int f), (.int q)]) (rest := []) (lenOf pd_36 rfl) rfl (by show 2 * 0 + _ ≤ _; exact Nat.le_of_eq rfl) (hb hby dm4_48) (fun _ _ => ⟨rfl, e0, (by decide : 0 + 0 ≤ _), (by decide : 0 + 0 ≤ _)⟩)
    dsimp only [Pt.U, Pt.locs, Pt.cells, Pt.slots] at X384 l384 y384 z384 st384 hQ384
    subst l384 y384 z384
    refine own_go st384 ?_
    obtain ⟨rfl, Nq384, e384⟩ := hQ384
    have N384 := Fr.app N0 Nq384
    by_cases hc385 : (own_sp c f q) = (0 : Int32)
    · skip
      refine og (fun _ k => XS.ifYes X384.here hx rfl (pc0 := 51) (pc' := 81) rfl (hb hby dm4_51) rfl ((if0 _ _).trans (teq hc385).1) (by decide) (by decide) k) ?_
      have eX : own_ex c f q = [c] := by unfold own_ex; rw [if_neg hc380, if_pos hc385]
      rw [eX] at hle hat
      have hle' : off + 1 ≤ cs.length := hle
      refine og (fun _ k => XS.aloadN X384.here hx rfl (hb hby dm4_81) rfl rfl k) ?_
      refine og (fun _ k => XS.iloadN X384.here hx rfl (hb hby dm4_82) rfl k) ?_
      try dsimp only [mkF]
      obtain ⟨cq386, kq386, q386a, q386b, q386c⟩ := isOf hZ e384 E_x
      obtain ⟨v386, _, ⟨T386, L386, k386, n386⟩, -, X386, ⟨Lc386, hQ386, l386, y386, z386⟩, st386⟩ := X384.virtualBack hx (y := (⟨"java/lang/String", "charAt", "(I)C"⟩ : MethodName)) (z := (⟨"java/lang/String", "charAt", "(I)C"⟩ : MethodName)) hown (mvT hZ (tw hw 192 rfl)) (mvT hZ (tw hw 118 rfl)) (notFace_of_selects (args := #[]) (mvT hZ (tw hw 120 rfl))) (mvT hZ (tw hw 120 rfl)) (mvT hZ (tw hw 119 rfl)) (by decide) (backOf (W := 0) (rm_ca l Z a0 hw [] x t k cs cd N2 vs off G1 G3 h0 n0 O0 O2 P5 O4 rG3 OA OH OL E_x Fv_x Fc_x V_t hC_x hok (by omega)) hZ (tw hw 121 rfl) (tw hw 2 rfl) (by decide) (by decide)) q386a q386c (g := (mkF m 83 #[.val (.ref x), .val (.int (Int32.ofNat off)), .val (.int c), .val (.int f), .val (.int q)] [(.int (Int32.ofNat off)), (.ref x)])) rfl (by rw [hml]; rfl) (Steps.refl _) (argsL := [(.int (Int32.ofNat off))]) (rest := []) (lenOf pd_37 rfl) rfl (by show 2 * 0 + _ ≤ _; exact Nat.le_of_eq rfl) (hb hby dm4_83) (fun _ _ => ⟨rfl, e384, (by decide : 0 + 0 ≤ _), (by decide : 0 + 0 ≤ _)⟩)
      dsimp only [Pt.U, Pt.locs, Pt.cells, Pt.slots] at X386 l386 y386 z386 st386 hQ386
      subst l386 y386 z386
      refine own_gos st386 ?_
      obtain ⟨rfl, Nq386, e386⟩ := hQ386
      have N386 := Fr.app N384 Nq386
      refine og (fun _ k => XS.iloadN X386.here hx rfl (hb hby dm4_86) rfl k) ?_
      refine og (fun _ k => XS.icmpNo X386.here hx rfl (hb hby dm4_87) rfl (teq (hat 0 (Nat.le_of_ble_eq_true rfl))).2 k) ?_
      refine og (fun _ k => XS.iconst X386.here hx rfl (hb hby dm4_90) k) ?_
      refine og (fun _ k => XS.goto X386.here hx rfl (pc0 := 91) (pc' := 95) rfl (hb hby dm4_91) (by decide) (by decide) k) ?_
      try dsimp only [mkF]
      refine own_fin (v := (some (.int (nar .boolean (1 : Int32))))) X386 (fun h => by rw [hrt] at h; cases h) hlk (fun fs hr => retN X386 hx (t := .boolean) hrt (by simp) (hb hby dm4_95) hr) (QQ := QPure (some (.int (1 : Int32))) h0 n0) ?_ (by decide) (by decide)
      rw [e386]
      exact ⟨rfl, N386, rfl⟩
    · skip
      refine og (fun _ k => XS.ifNo X384.here hx rfl (hb hby dm4_51) rfl ((if0 _ _).trans (feq hc385).1) k) ?_
      have eX : own_ex c f q = [92, c] := by unfold own_ex; rw [if_neg hc380, if_neg hc385]
      rw [eX] at hle hat
      have hle' : off + 2 ≤ cs.length := hle
      refine og (fun _ k => XS.aloadN X384.here hx rfl (hb hby dm4_54) rfl rfl k) ?_
      refine og (fun _ k => XS.iloadN X384.here hx rfl (hb hby dm4_55) rfl k) ?_
      try dsimp only [mkF]
      obtain ⟨cq387, kq387, q387a, q387b, q387c⟩ := isOf hZ e384 E_x
      obtain ⟨v387, _, ⟨T387, L387, k387, n387⟩, -, X387, ⟨Lc387, hQ387, l387, y387, z387⟩, st387⟩ := X384.virtualBack hx (y := (⟨"java/lang/String", "charAt", "(I)C"⟩ : MethodName)) (z := (⟨"java/lang/String", "charAt", "(I)C"⟩ : MethodName)) hown (mvT hZ (tw hw 192 rfl)) (mvT hZ (tw hw 118 rfl)) (notFace_of_selects (args := #[]) (mvT hZ (tw hw 120 rfl))) (mvT hZ (tw hw 120 rfl)) (mvT hZ (tw hw 119 rfl)) (by decide) (backOf (W := 0) (rm_ca l Z a0 hw [] x t k cs cd N2 vs off G1 G3 h0 n0 O0 O2 P5 O4 rG3 OA OH OL E_x Fv_x Fc_x V_t hC_x hok (by omega)) hZ (tw hw 121 rfl) (tw hw 2 rfl) (by decide) (by decide)) q387a q387c (g := (mkF m 56 #[.val (.ref x), .val (.int (Int32.ofNat off)), .val (.int c), .val (.int f), .val (.int q)] [(.int (Int32.ofNat off)), (.ref x)])) rfl (by rw [hml]; rfl) (Steps.refl _) (argsL := [(.int (Int32.ofNat off))]) (rest := []) (lenOf pd_37 rfl) rfl (by show 2 * 0 + _ ≤ _; exact Nat.le_of_eq rfl) (hb hby dm4_56) (fun _ _ => ⟨rfl, e384, (by decide : 0 + 0 ≤ _), (by decide : 0 + 0 ≤ _)⟩)
      dsimp only [Pt.U, Pt.locs, Pt.cells, Pt.slots] at X387 l387 y387 z387 st387 hQ387
      subst l387 y387 z387
      refine own_gos st387 ?_
      obtain ⟨rfl, Nq387, e387⟩ := hQ387
      have N387 := Fr.app N384 Nq387
      refine og (fun _ k => XS.bipush X387.here hx rfl (hb hby dm4_59) k) ?_
      refine og (fun _ k => XS.icmpNo X387.here hx rfl (hb hby dm4_61) rfl (teq (hat 0 (Nat.le_of_ble_eq_true rfl))).2 k) ?_
      refine og (fun _ k => XS.aloadN X387.here hx rfl (hb hby dm4_64) rfl rfl k) ?_
      refine og (fun _ k => XS.iloadN X387.here hx rfl (hb hby dm4_65) rfl k) ?_
      try dsimp only [mkF]
      refine og (fun _ k => XS.iconst X387.here hx rfl (hb hby dm4_66) k) ?_
      refine og (fun _ k => XS.iadd X387.here hx rfl (hb hby dm4_67) rfl k) ?_
      show own_Go p e below (T387.setTop (mkF m 68 #[.val (.ref x), .val (.int (Int32.ofNat off)), .val (.int c), .val (.int f), .val (.int q)] [(.int ((Int32.ofNat off) + (1 : Int32))), (.ref x)])) _
      rw [own_inc]
      obtain ⟨cq388, kq388, q388a, q388b, q388c⟩ := isOf hZ e387 E_x
      obtain ⟨v388, _, ⟨T388, L388, k388, n388⟩, -, X388, ⟨Lc388, hQ388, l388, y388, z388⟩, st388⟩ := X387.virtualBack hx (y := (⟨"java/lang/String", "charAt", "(I)C"⟩ : MethodName)) (z := (⟨"java/lang/String", "charAt", "(I)C"⟩ : MethodName)) hown (mvT hZ (tw hw 192 rfl)) (mvT hZ (tw hw 118 rfl)) (notFace_of_selects (args := #[]) (mvT hZ (tw hw 120 rfl))) (mvT hZ (tw hw 120 rfl)) (mvT hZ (tw hw 119 rfl)) (by decide) (backOf (W := 0) (rm_ca l Z a0 hw [] x t k cs cd N2 vs (off + 1) G1 G3 h0 n0 O0 O2 P5 O4 rG3 OA OH OL E_x Fv_x Fc_x V_t hC_x hok (by omega)) hZ (tw hw 121 rfl) (tw hw 2 rfl) (by decide) (by decide)) q388a q388c (g := (mkF m 68 #[.val (.ref x), .val (.int (Int32.ofNat off)), .val (.int c), .val (.int f), .val (.int q)] [(.int (Int32.ofNat (off + 1))), (.ref x)])) rfl (by rw [hml]; rfl) (Steps.refl _) (argsL := [(.int (Int32.ofNat (off + 1)))]) (rest := []) (lenOf pd_37 rfl) rfl (by show 2 * 0 + _ ≤ _; exact Nat.le_of_eq rfl) (hb hby dm4_68) (fun _ _ => ⟨rfl, e387, (by decide : 0 + 0 ≤ _), (by decide : 0 + 0 ≤ _)⟩)
      dsimp only [Pt.U, Pt.locs, Pt.cells, Pt.slots] at X388 l388 y388 z388 st388 hQ388
      subst l388 y388 z388
      refine own_gos st388 ?_
      obtain ⟨rfl, Nq388, e388⟩ := hQ388
      have N388 := Fr.app N387 Nq388
      refine og (fun _ k => XS.iloadN X388.here hx rfl (hb hby dm4_71) rfl k) ?_
      try dsimp only [mkF]
      refine og (fun _ k => XS.icmpNo X388.here hx rfl (hb hby dm4_72) rfl (teq (hat 1 (Nat.le_of_ble_eq_true rfl))).2 k) ?_
      refine og (fun _ k => XS.iconst X388.here hx rfl (hb hby dm4_75) k) ?_
      refine og (fun _ k => XS.goto X388.here hx rfl (pc0 := 76) (pc' := 80) rfl (hb hby dm4_76) (by decide) (by decide) k) ?_
      refine own_fin (v := (some (.int (nar .boolean (1 : Int32))))) X388 (fun h => by rw [hrt] at h; cases h) hlk (fun fs hr => retN X388 hx (t := .boolean) hrt (by simp) (hb hby dm4_80) hr) (QQ := QPure (some (.int (1 : Int32))) h0 n0) ?_ (by decide) (by decide)
      rw [e388]
      exact ⟨rfl, N388, rfl⟩

theorem own_ok3 : own_Ok ([92, 48, 48] : List Int32) := ⟨fun c hc => by simp only [List.mem_cons, List.not_mem_nil, or_false] at hc; rcases hc with rfl | rfl | rfl <;> decide, Nat.le_of_ble_eq_true rfl⟩
theorem own_ok7 : own_Ok own_DS := ⟨fun c hc => by simp only [own_DS, List.mem_cons, List.not_mem_nil, or_false] at hc; rcases hc with rfl | rfl | rfl | rfl | rfl | rfl | rfl <;> decide, Nat.le_of_ble_eq_true rfl⟩
theorem own_la3 : ∀ c ∈ ([92, 48, 48] : List Int32), ¬ (255 : Int32) < c := by decide
theorem own_la7 : ∀ c ∈ own_DS, ¬ (255 : Int32) < c := by decide
theorem own_okA {cs : List Int32} {c : Int32} (h : own_Ok cs) (hc : ¬ c < 0 ∧ ¬ (65535 : Int32) < c) (hl : cs.length < 16) : own_Ok (cs ++ [c]) := ⟨fun d hd => (List.mem_append.mp hd).elim (h.1 d) (fun q => by rw [List.mem_singleton.mp q]; exact hc), by rw [List.length_append]; simp; omega⟩
theorem own_ixy {cs : List Int32} {r ch : Int32} (h : (¬ r < 0 ∧ ch ∈ cs) ∨ (r < 0 ∧ ¬ ch ∈ cs)) (q : ¬ r < 0) : ch ∈ cs := h.elim (fun z => z.2) fun z => absurd z.1 q
theorem own_ixn {cs : List Int32} {r ch : Int32} (h : (¬ r < 0 ∧ ch ∈ cs) ∨ (r < 0 ∧ ¬ ch ∈ cs)) (q : r < 0) : ¬ ch ∈ cs := h.elim (fun z => absurd q z.1) fun z => z.2
theorem own_flz {i : Nat} (h : ¬ Int32.ofNat i = (0 : Int32)) : own_fl i = 0 := by unfold own_fl; rw [if_neg (fun q => h (by rw [q]; rfl))]
theorem own_fl1 {i : Nat} (h : Int32.ofNat i = (0 : Int32)) (hi : i < 2147483648 := by omega) : ¬ own_fl i = 0 := by
  have e := congrArg Int32.toInt h
  rw [own_ti hi] at e
  have e2 : (0 : Int32).toInt = 0 := rfl
  unfold own_fl; rw [if_pos (by omega)]; decide
theorem own_la1 {n i : Nat} (hn : n ≤ 4000) (hi : i < n) (h : Int32.ofNat i = Int32.ofNat n - (1 : Int32)) : ¬ own_la n i = 0 := by
  have e0 : Int32.ofNat n - (1 : Int32) = Int32.ofNat (n - 1) := own_ofsub (i := 1) (by omega)
  rw [e0] at h
  have e := congrArg Int32.toInt h
  rw [own_ti (by omega), own_ti (by omega)] at e
  unfold own_la; rw [if_pos (by omega)]; decide
theorem own_laz {n i : Nat} (hn : n ≤ 4000) (hi : i < n) (h : ¬ Int32.ofNat i = Int32.ofNat n - (1 : Int32)) : own_la n i = 0 := by
  have e0 : Int32.ofNat n - (1 : Int32) = Int32.ofNat (n - 1) := own_ofsub (i := 1) (by omega)
  rw [e0] at h
  unfold own_la; rw [if_neg (fun q => h (congrArg Int32.ofNat (by omega)))]
abbrev kq13_8 := prog_13_method_8_code
theorem dq13_8_0 : Dk kq13_8 0 (.new 105) 3 := own_k
theorem dq13_8_3 : Dk kq13_8 3 .dup 1 := own_k
theorem dq13_8_4 : Dk kq13_8 4 (.invokespecial 107) 3 := own_k
theorem dq13_8_7 : Dk kq13_8 7 (.astore_n 1) 1 := own_k
theorem dq13_8_8 : Dk kq13_8 8 (.iconst 0) 1 := own_k
theorem dq13_8_9 : Dk kq13_8 9 (.istore_n 2) 1 := own_k
theorem dq13_8_10 : Dk kq13_8 10 (.iload_n 2) 1 := own_k
theorem dq13_8_11 : Dk kq13_8 11 (.aload_n 0) 1 := own_k
theorem dq13_8_12 : Dk kq13_8 12 (.invokevirtual 108) 3 := own_k
theorem dq13_8_15 : Dk kq13_8 15 (.if_icmp .ge 100) 3 := own_k
theorem dq13_8_115 : Dk kq13_8 115 (.aload_n 1) 1 := own_k
theorem dq13_8_116 : Dk kq13_8 116 (.invokevirtual 125) 3 := own_k
theorem pd_38 : parseMethodDescriptor "()Ljava/lang/String;" = some ⟨[], some (.object "java/lang/String")⟩ := by decide +kernel
theorem dq13_8_119 : Dk kq13_8 119 .areturn 1 := own_k
theorem dq13_8_18 : Dk kq13_8 18 (.aload_n 0) 1 := own_k
theorem dq13_8_19 : Dk kq13_8 19 (.iload_n 2) 1 := own_k
theorem dq13_8_20 : Dk kq13_8 20 (.invokevirtual 112) 3 := own_k
theorem dq13_8_23 : Dk kq13_8 23 (.istore_n 3) 1 := own_k
theorem dq13_8_45 : Dk kq13_8 45 (.iload_n 3) 1 := own_k
theorem dq13_8_46 : Dk kq13_8 46 (.ifCond .ne 13) 3 := own_k
theorem dq13_8_49 : Dk kq13_8 49 (.aload_n 1) 1 := own_k
theorem dq13_8_50 : Dk kq13_8 50 (.ldc 144) 2 := own_k
theorem dq13_8_52 : Dk kq13_8 52 (.invokevirtual 146) 3 := own_k
theorem pd_39 : parseMethodDescriptor "(Ljava/lang/String;)Ljava/lang/StringBuilder;" = some ⟨[(.object "java/lang/String")], some (.object "java/lang/StringBuilder")⟩ := by decide +kernel
theorem dq13_8_55 : Dk kq13_8 55 .pop 1 := own_k
theorem dq13_8_56 : Dk kq13_8 56 (.goto 53) 3 := own_k
theorem dq13_8_109 : Dk kq13_8 109 (.iinc 2 1) 3 := own_k
theorem dq13_8_112 : Dk kq13_8 112 (.goto (-102)) 3 := own_k
theorem dq13_8_59 : Dk kq13_8 59 (.ldc 149) 2 := own_k
theorem dq13_8_61 : Dk kq13_8 61 (.iload_n 3) 1 := own_k
theorem dq13_8_62 : Dk kq13_8 62 (.invokevirtual 151) 3 := own_k
theorem dq13_8_89 : Dk kq13_8 89 (.aload_n 1) 1 := own_k
theorem dq13_8_90 : Dk kq13_8 90 (.bipush 92) 2 := own_k
theorem dq13_8_92 : Dk kq13_8 92 (.invokevirtual 116) 3 := own_k
theorem pd_40 : parseMethodDescriptor "(C)Ljava/lang/StringBuilder;" = some ⟨[.char], some (.object "java/lang/StringBuilder")⟩ := by decide +kernel
theorem dq13_8_95 : Dk kq13_8 95 (.iload_n 3) 1 := own_k
theorem dq13_8_96 : Dk kq13_8 96 (.invokevirtual 116) 3 := own_k
theorem dq13_8_99 : Dk kq13_8 99 .pop 1 := own_k
theorem dq13_8_100 : Dk kq13_8 100 (.goto 9) 3 := own_k
theorem dq13_8_103 : Dk kq13_8 103 (.aload_n 1) 1 := own_k
theorem dq13_8_104 : Dk kq13_8 104 (.iload_n 3) 1 := own_k
theorem dq13_8_105 : Dk kq13_8 105 (.invokevirtual 116) 3 := own_k
theorem dq13_8_108 : Dk kq13_8 108 .pop 1 := own_k
theorem dq13_8_65 : Dk kq13_8 65 (.ifCond .ge 24) 3 := own_k
theorem dq13_8_68 : Dk kq13_8 68 (.iload_n 3) 1 := own_k
theorem dq13_8_69 : Dk kq13_8 69 (.bipush 35) 2 := own_k
theorem dq13_8_71 : Dk kq13_8 71 (.if_icmp .ne 7) 3 := own_k
theorem dq13_8_74 : Dk kq13_8 74 (.iload_n 2) 1 := own_k
theorem dq13_8_75 : Dk kq13_8 75 (.ifCond .eq 14) 3 := own_k
theorem dq13_8_78 : Dk kq13_8 78 (.iload_n 3) 1 := own_k
theorem dq13_8_79 : Dk kq13_8 79 (.bipush 32) 2 := own_k
theorem dq13_8_81 : Dk kq13_8 81 (.if_icmp .ne 22) 3 := own_k
theorem dq13_8_84 : Dk kq13_8 84 (.iload 4) 2 := own_k
theorem dq13_8_86 : Dk kq13_8 86 (.ifCond .eq 17) 3 := own_k
theorem dq13_8_24 : Dk kq13_8 24 (.iload_n 2) 1 := own_k
theorem dq13_8_25 : Dk kq13_8 25 (.ifCond .eq 13) 3 := own_k
theorem dq13_8_38 : Dk kq13_8 38 (.iconst 1) 1 := own_k
theorem dq13_8_39 : Dk kq13_8 39 (.goto 4) 3 := own_k
theorem dq13_8_43 : Dk kq13_8 43 (.istore 4) 2 := own_k
theorem dq13_8_28 : Dk kq13_8 28 (.iload_n 2) 1 := own_k
theorem dq13_8_29 : Dk kq13_8 29 (.aload_n 0) 1 := own_k
theorem dq13_8_30 : Dk kq13_8 30 (.invokevirtual 108) 3 := own_k
theorem dq13_8_33 : Dk kq13_8 33 (.iconst 1) 1 := own_k
theorem dq13_8_34 : Dk kq13_8 34 .isub 1 := own_k
theorem dq13_8_35 : Dk kq13_8 35 (.if_icmp .ne 7) 3 := own_k
theorem dq13_8_42 : Dk kq13_8 42 (.iconst 0) 1 := own_k
theorem pn_8 : plainName "com/example/rolelattice/rolelattice/decision/DistinguishedName" = true := by first | (simp [plainName, overriddenIn]; done) | decide +kernel
theorem ef_rm_esc (m : MethodId) (x0 : Addr) : entryFrame m #[(.ref x0)] 5 = mkF m 0 #[.val (.ref x0), .unset, .unset, .unset, .unset] [] := by
   first | (simp [entryFrame, mkF, argsToLocals, Value.category]; done) | rfl
set_option maxRecDepth 65536 in
set_option maxHeartbeats 40000000 in
theorem rm_esc (l : Launch) (Z : State) (a0 : Array Value) (hw : ∀ d ∈ tables_1, d.before a0 Z = true) (ws : List Jvm.Cond) (x t : Addr) (k : ClassId) (cs : List Int32) (cd N2 : Int32) (vs : List Value) (G1 : Int32) (G3 : Value) (h0 : Heap) (n0 : Nat) (O0 : Old Z n0 h0) (O2 : Sta Z Z.heap "java/lang/String" "COMPACT_STRINGS" "Z" (.int G1)) (P5 : ¬ (G1 = (0 : Int32))) (O4 : Sta Z Z.heap "jdk/internal/util/Preconditions" "SIOOBE_FORMATTER" "Ljava/util/function/BiFunction;" G3) (rG3 : G3.isRef = true) (OA : Sta Z Z.heap "java/lang/StringUTF16" "$assertionsDisabled" "Z" (.int (1 : Int32))) (OH : Sta Z Z.heap "java/lang/StringUTF16" "HI_BYTE_SHIFT" "I" (.int (0 : Int32))) (OL : Sta Z Z.heap "java/lang/StringUTF16" "LO_BYTE_SHIFT" "I" (.int (8 : Int32))) (E_x : Exa Z h0 x "java/lang/String") (Fv_x : Fld Z h0 x "java/lang/String" "value" "[B" (.ref t)) (Fc_x : Fld Z h0 x "java/lang/String" "coder" "B" (.int cd)) (V_t : Arv Z h0 t k .byte N2 vs (.int (0 : Int32))) (hC_x : StrChars.Road.CodA cs cd N2 vs) (hok : own_Ok cs) (h4 : cs.length ≤ 4) :
    MetFree l (⟨"com/example/rolelattice/rolelattice/decision/DistinguishedName", "escapeValue", "(Ljava/lang/String;)Ljava/lang/String;"⟩ : MethodName) (head1 (Jvm.Cond.code (⟨"com/example/rolelattice/rolelattice/decision/DistinguishedName", "escapeValue", "(Ljava/lang/String;)Ljava/lang/String;"⟩ : MethodName) prog_13_method_8_code 5 (some (.object "java/lang/String")) :: ws) ⟨9, 20, 616, 132⟩) (fun aA U => aA = #[(.ref x)] ∧ Z.Warmed39 U.vm ∧ U.heap = h0 ∧ CHv Z own_EL U.vm h0) (fun _ _ _ _ _ => True) (fun _ U oO U' => ∃ rV rL, oO = .returned rV ∧ QStrN Z (own_escP cs cs.length) h0 n0 rV U'.heap rL ∧ CHr Z own_EL U.vm U.heap U'.vm U'.heap ∧ ReturnedEndW U oO U' rL 20 616) := by
  refine MetFree.of_bodySF (plainFor_of_name pn_8) hisR ?_
  intro p e s m args below meth cC s₁ Bd hml0 hP hK
  obtain ⟨rfl, hZ, hh, hC0⟩ := hP
  have hx := Bd.exec
  have hby := Bd.bytes
  have hml : cC.maxLocals = 5 := hml0
  have hown : s.vm.findClass "com/example/rolelattice/rolelattice/decision/DistinguishedName" = some m.cls := findClass_of_methodNamed Bd.named
  have hnm := (name_of_methodNamed Bd.named Bd.method).1
  have hrt := Bd.returns
  have hlk : meth.locks = false := Bd.notSynchronized
  have X0 : Stand p l e ⟨9, 20, 616, 132⟩ (s.setVm s.vm) m #[(.ref x)] below meth cC s₁ [] 0 0 := Stand.of_body Bd
  have e0 : s₁.heap = h0 := by rw [← hh, Bd.state]; rfl
  have N0 := Fr.nil n0
  have Z0 : n0 ≤ h0.size := O0.1 ▸ O0.2.1
  have hS0 : s.Since s.vm 0 := (State.WarmedH.refl s).since 0
  have C0 : CHr Z own_EL s.vm h0 s.vm h0 := CHr.refl hC0
  have own_wS := own_wSt hw
  have own_hEL := own_hELt hw
  show own_Go p e below (s₁.setTop (entryFrame m #[(.ref x)] 5)) (fun oO U' => ∃ rV rL, oO = .returned rV ∧ QStrN Z (own_escP cs cs.length) h0 n0 rV U'.heap rL ∧ CHr Z own_EL s.vm s.heap U'.vm U'.heap ∧ ReturnedEndW s oO U' rL 20 616)
  refine own_go (fun _ k => castTop (ef_rm_esc m x) k) ?_
  have hlen : cs.length ≤ 4000 := hok.2
  obtain ⟨T389, h389, X389, e389, E389, A389, D389, U389, st389⟩ := newO X0 hx hZ hown (tw hw 26 rfl) (tw hw 27 rfl) (tw hw 28 rfl) e0 (g := (mkF m 0 #[.val (.ref x), .unset, .unset, .unset, .unset] [])) rfl (hb hby dq13_8_0) (by decide) (by decide)
  obtain ⟨b389, g389⟩ : ∃ z, z = h0.size := ⟨_, rfl⟩
  rw [← g389] at A389 D389 U389 st389
  refine own_go st389 ?_
  have C390 := C0.trans (CHr.ext E389 C0.1)
  have F389_value : Fld Z h389 b389 "java/lang/AbstractStringBuilder" "value" "[B" .null := D389 (Or.inl (tw hw 41 rfl)) (ty := (.array .byte)) (by decide)
  have F389_coder : Fld Z h389 b389 "java/lang/AbstractStringBuilder" "coder" "B" (.int (0 : Int32)) := D389 (Or.inl (tw hw 43 rfl)) (ty := .byte) (by decide)
  have F389_count : Fld Z h389 b389 "java/lang/AbstractStringBuilder" "count" "I" (.int (0 : Int32)) := D389 (Or.inl (tw hw 82 rfl)) (ty := .int) (by decide)
  have F389_maybeLatin1 : Fld Z h389 b389 "java/lang/AbstractStringBuilder" "maybeLatin1" "Z" (.int (0 : Int32)) := D389 (Or.inl (tw hw 258 rfl)) (ty := .boolean) (by decide)
  refine og (fun _ k => XS.dup X389.here hx rfl (hb hby dq13_8_3) rfl rfl k) ?_
  obtain ⟨v391, _, ⟨T391, L391, k391, n391⟩, -, X391, ⟨Lc391, hQ391, l391, y391, z391⟩, st391⟩ := X389.specialBack hx (y := (⟨"java/lang/StringBuilder", "<init>", "()V"⟩ : MethodName)) rfl hown (mvT hZ (tw hw 29 rfl)) (mvT hZ (tw hw 30 rfl)) (mvT hZ (tw hw 31 rfl)) (by decide) (backOf (W := 1) (rm_sb l Z a0 hw [] b389 G1 h389 n0 (O0.ext E389) A389 F389_value F389_coder F389_count F389_maybeLatin1 (Nat.le_trans Z0 (Nat.le_of_eq g389.symm)) O2 P5) hZ (tw hw 31 rfl) (tw hw 28 rfl) (by decide) (by decide)) (g := (mkF m 4 #[.val (.ref x), .unset, .unset, .unset, .unset] [(.ref b389), (.ref b389)])) rfl (by rw [hml]; rfl) (Steps.refl _) (a := b389) (argsL := []) (rest := [(.ref b389)]) (lenOf pd_20 rfl) rfl (by show 2 * 0 + _ ≤ _; exact Nat.le_of_eq rfl) (hb hby dq13_8_4) (fun _ _ => ⟨rfl, e389, (by decide : 1 + 1 ≤ _), (by decide : 4 + 16 ≤ _)⟩)
  dsimp only [Pt.U, Pt.locs, Pt.cells, Pt.slots] at X391 l391 y391 z391 st391 hQ391
  subst l391 y391 z391
  refine own_gos st391 ?_
  obtain ⟨v391, kv391, rfl, Nq391, K391, vg391, Fv391, Fc391, Fn391, Fm391, Vv391⟩ := hQ391
  have f392 := (Safe.ext E389 C0.1 (Safe.new (Nat.le_of_eq g389.symm)))
  have C393 := C390.trans (CHr.keep K391 (sfS f392 sf0) C390.1)
  have N391 := Fr.app N0 Nq391
  refine og (fun _ k => XS.astoreN X391.here hx rfl (hb hby dq13_8_7) rfl rfl (l' := #[.val (.ref x), .val (.ref b389), .unset, .unset, .unset]) rfl k) ?_
  try dsimp only [mkF]
  refine og (fun _ k => XS.iconst X391.here hx rfl (hb hby dq13_8_8) k) ?_
  refine og (fun _ k => XS.istoreN X391.here hx rfl (hb hby dq13_8_9) rfl (l' := #[.val (.ref x), .val (.ref b389), .val (.int (0 : Int32)), .unset, .unset]) rfl k) ?_
  have ne394 : t ≠ b389 := Nat.ne_of_lt (Nat.lt_of_lt_of_le V_t.lt (Nat.le_of_eq g389.symm))
  have ne395 : x ≠ b389 := Nat.ne_of_lt (Nat.lt_of_lt_of_le E_x.lt (Nat.le_of_eq g389.symm))
  have loop : ∀ (kT iloop : Nat) (vb : Addr) (kvb : ClassId) (cdb : Int32) (s3 : Slot) (s4 : Slot) (vmL : Vm) (k0L : Nat) (T : State) (locs : List Loc) (h : Heap), iloop + kT = cs.length → Stand p l e ⟨9, 20, 616, 132⟩ (s.setVm vmL) m #[(.ref x)] below meth cC T locs (2 + iloop * 4) (20 + iloop * 140) → T.heap = h → Fr n0 locs → Old Z n0 h → Keep h0 h [] → CHr Z own_EL s.vm h0 vmL h → k0L ≤ h.size → s.Since vmL k0L → Z.Warmed39 (s.setVm vmL).vm → (s.setVm vmL).vm.findClass "com/example/rolelattice/rolelattice/decision/DistinguishedName" = some m.cls → Exa Z h b389 "java/lang/StringBuilder" → Fld Z h b389 "java/lang/AbstractStringBuilder" "value" "[B" (.ref vb) → Fld Z h b389 "java/lang/AbstractStringBuilder" "coder" "B" (.int cdb) → Fld Z h b389 "java/lang/AbstractStringBuilder" "count" "I" (.int (Int32.ofNat (own_escP cs iloop).length)) → Fld Z h b389 "java/lang/AbstractStringBuilder" "maybeLatin1" "Z" (.int (0 : Int32)) → Arv Z h vb kvb .byte (own_sbN cdb) (own_sbv cdb (own_escP cs iloop)) (.int (0 : Int32)) → Safe Z own_EL vmL h vb → Exa Z h x "java/lang/String" → Fld Z h x "java/lang/String" "value" "[B" (.ref t) → Fld Z h x "java/lang/String" "coder" "B" (.int cd) → Arv Z h t k .byte N2 vs (.int (0 : Int32)) → (own_cdi cdb (own_escP cs iloop)) → (n0 ≤ vb) → (h0.size ≤ vb) → ((s3 = .unset ∨ ∃ w, s3 = .val w ∧ w.category = 1)) → ((s4 = .unset ∨ ∃ w, s4 = .val w ∧ w.category = 1)) → own_Go p e below (T.setTop (mkF m 10 #[.val (.ref x), .val (.ref b389), .val (.int (Int32.ofNat iloop)), s3, s4] [])) (fun oO U' => ∃ rV rL, oO = .returned rV ∧ QStrN Z (own_escP cs cs.length) h0 n0 rV U'.heap rL ∧ CHr Z own_EL s.vm s.heap U'.vm U'.heap ∧ ReturnedEndW s oO U' rL 20 616) := by
    intro kT
    induction kT with
    | zero =>
      intro iloop vb kvb cdb s3 s4 vm397 k0397 T397 L397 h397 hik X397 e397 N397 O397 K397 C397 hk397 hS397 hZ397 hown397 J0_397 J1_397 J2_397 J3_397 J4_397 J5_397 J6_397 J7_397 J8_397 J9_397 J10_397 hcdl gvb gev hs3 hs4
      have Z0_397 : n0 ≤ h397.size := O397.1 ▸ O397.2.1
      have nx_vb : x ≠ vb := Nat.ne_of_lt (Nat.lt_of_lt_of_le E_x.lt gev)
      have nt_vb : t ≠ vb := Nat.ne_of_lt (Nat.lt_of_lt_of_le V_t.lt gev)
      have nb_vb := Exa.neArv J0_397 J5_397 (tw hw 27 rfl)
      have hel := own_escl cs iloop
      have hin : iloop = cs.length := by omega
      have hlt : ¬ ((Int32.ofNat iloop) < (Int32.ofNat cs.length)) := by rw [own_lti (by omega) (by omega)]; omega
      refine og (fun _ k => XS.iloadN X397.here hx rfl (hb hby dq13_8_10) rfl k) ?_
      refine og (fun _ k => XS.aloadN X397.here hx rfl (hb hby dq13_8_11) rfl rfl k) ?_
      try dsimp only [mkF]
      obtain ⟨cq398, kq398, q398a, q398b, q398c⟩ := isOf hZ397 e397 J7_397
      obtain ⟨v398, _, ⟨T398, L398, k398, n398⟩, -, X398, ⟨Lc398, hQ398, l398, y398, z398⟩, st398⟩ := X397.virtualBack hx (y := (⟨"java/lang/String", "length", "()I"⟩ : MethodName)) (z := (⟨"java/lang/String", "length", "()I"⟩ : MethodName)) hown397 (mvT hZ397 (tw hw 44 rfl)) (mvT hZ397 (tw hw 45 rfl)) (notFace_of_selects (args := #[]) (mvT hZ397 (tw hw 47 rfl))) (mvT hZ397 (tw hw 47 rfl)) (mvT hZ397 (tw hw 46 rfl)) own_b (StrChars.Road.lenW (W := 1) hZ397 (own_wLen hw) (kI := 4) (tw hw 1 rfl) J7_397 J8_397 J9_397 J10_397 hC_x (hok.1) (O2.ext O397.2) P5 hok.2 own_b own_b) q398a q398c (g := (mkF m 12 #[.val (.ref x), .val (.ref b389), .val (.int (Int32.ofNat iloop)), s3, s4] [(.ref x), (.int (Int32.ofNat iloop))])) rfl (by rw [hml]; rfl) (Steps.refl _) (argsL := []) (rest := [(.int (Int32.ofNat iloop))]) (lenOf pd_9 rfl) rfl (by show 2 * 0 + _ ≤ _; exact Nat.le_of_eq rfl) (hb hby dq13_8_12) (fun _ _ => ⟨rfl, e397, own_b, own_b⟩)
      dsimp only [Pt.U, Pt.locs, Pt.cells, Pt.slots] at X398 l398 y398 z398 st398 hQ398
      subst l398 y398 z398
      refine own_gos st398 ?_
      obtain ⟨rfl, rfl, e398⟩ := hQ398
      have Nq398 : Fr n0 ([] : List Loc) := Fr.nil n0
      have N398 := Fr.app N397 Nq398
      refine og (fun _ k => XS.icmpYes X398.here hx rfl (pc0 := 15) (pc' := 115) rfl (hb hby dq13_8_15) rfl (flt hlt).2.1 own_b own_b k) ?_
      refine og (fun _ k => XS.aloadN X398.here hx rfl (hb hby dq13_8_115) rfl rfl k) ?_
      obtain ⟨cq399, kq399, q399a, q399b, q399c⟩ := isOf hZ397 e398 J0_397
      obtain ⟨v399, _, ⟨T399, L399, k399, n399⟩, -, X399, ⟨Lc399, hQ399, l399, y399, z399⟩, st399⟩ := X398.virtualBack hx (y := (⟨"java/lang/StringBuilder", "toString", "()Ljava/lang/String;"⟩ : MethodName)) (z := (⟨"java/lang/StringBuilder", "toString", "()Ljava/lang/String;"⟩ : MethodName)) hown397 (mvT hZ397 (tw hw 55 rfl)) (mvT hZ397 (tw hw 56 rfl)) (notFace_of_selects (args := #[]) (mvT hZ397 (tw hw 58 rfl))) (mvT hZ397 (tw hw 58 rfl)) (mvT hZ397 (tw hw 57 rfl)) own_b (backOf (W := 0) (rm_tos l Z a0 hw [] b389 vb kvb cdb (own_escP cs iloop) G1 G3 h397 n0 O397 O2 P5 O4 rG3 OA OH OL J0_397 J1_397 J2_397 J3_397 J4_397 J5_397 hcdl (Nat.le_trans Z0 (Nat.le_of_eq g389.symm)) (Nat.le_trans Z0 gev) (by omega)) hZ397 (tw hw 59 rfl) (tw hw 28 rfl) own_b own_b) q399a q399c (g := (mkF m 116 #[.val (.ref x), .val (.ref b389), .val (.int (Int32.ofNat iloop)), s3, s4] [(.ref b389)])) rfl (by rw [hml]; rfl) (Steps.refl _) (argsL := []) (rest := []) (lenOf pd_38 rfl) rfl (by show 2 * 0 + _ ≤ _; exact Nat.le_of_eq rfl) (hb hby dq13_8_116) (fun _ _ => ⟨rfl, e398, own_b, own_b⟩)
      dsimp only [Pt.U, Pt.locs, Pt.cells, Pt.slots] at X399 l399 y399 z399 st399 hQ399
      subst l399 y399 z399
      refine own_gos st399 ?_
      obtain ⟨x399, t399, kt399, cd399, N2399, vs399, rfl, Nq399, K399, xg399, Ex399, Fv399, Fc399, Vt399, hC399⟩ := hQ399
      have C400 := C397.trans (CHr.keep K399 sf0 C397.1)
      have N399 := Fr.app N398 Nq399
      refine own_finW (v := (some (.ref x399))) X399 hh hZ397 hS397 (by rw [(rfl : T399.heap = T399.heap)]; exact (Nat.le_trans hk397 K399.1)) (fun h => by rw [hrt] at h; cases h) hlk (fun fs hr => retR X399 hx hrt (by rfl) rfl rfl (hb hby dq13_8_119) hr) (QQ := QStrN Z (own_escP cs cs.length) h0 n0) ?_ own_hEL (rfl : T399.heap = T399.heap) (C400) own_b own_b
      exact ⟨x399, t399, _, _, _, _, rfl, N399, (K397.trans K399 all0), (Nat.le_trans K397.1 xg399), Ex399, Fv399, Fc399, Vt399, (hin ▸ hC399)⟩
    | succ kT ih =>
      intro iloop vb kvb cdb s3 s4 vm401 k0401 T401 L401 h401 hik X401 e401 N401 O401 K401 C401 hk401 hS401 hZ401 hown401 J0_401 J1_401 J2_401 J3_401 J4_401 J5_401 J6_401 J7_401 J8_401 J9_401 J10_401 hcdl gvb gev hs3 hs4
      have Z0_401 : n0 ≤ h401.size := O401.1 ▸ O401.2.1
      have nx_vb : x ≠ vb := Nat.ne_of_lt (Nat.lt_of_lt_of_le E_x.lt gev)
      have nt_vb : t ≠ vb := Nat.ne_of_lt (Nat.lt_of_lt_of_le V_t.lt gev)
      have nb_vb := Exa.neArv J0_401 J5_401 (tw hw 27 rfl)
      have hel := own_escl cs iloop
      have hi : iloop < cs.length := by omega
      have hlt : (Int32.ofNat iloop) < (Int32.ofNat cs.length) := (own_lti (by omega) (by omega)).mpr hi
      refine og (fun _ k => XS.iloadN X401.here hx rfl (hb hby dq13_8_10) rfl k) ?_
      refine og (fun _ k => XS.aloadN X401.here hx rfl (hb hby dq13_8_11) rfl rfl k) ?_
      try dsimp only [mkF]
      obtain ⟨cq402, kq402, q402a, q402b, q402c⟩ := isOf hZ401 e401 J7_401
      obtain ⟨v402, _, ⟨T402, L402, k402, n402⟩, -, X402, ⟨Lc402, hQ402, l402, y402, z402⟩, st402⟩ := X401.virtualBack hx (y := (⟨"java/lang/String", "length", "()I"⟩ : MethodName)) (z := (⟨"java/lang/String", "length", "()I"⟩ : MethodName)) hown401 (mvT hZ401 (tw hw 44 rfl)) (mvT hZ401 (tw hw 45 rfl)) (notFace_of_selects (args := #[]) (mvT hZ401 (tw hw 47 rfl))) (mvT hZ401 (tw hw 47 rfl)) (mvT hZ401 (tw hw 46 rfl)) own_b (StrChars.Road.lenW (W := 1) hZ401 (own_wLen hw) (kI := 4) (tw hw 1 rfl) J7_401 J8_401 J9_401 J10_401 hC_x (hok.1) (O2.ext O401.2) P5 hok.2 own_b own_b) q402a q402c (g := (mkF m 12 #[.val (.ref x), .val (.ref b389), .val (.int (Int32.ofNat iloop)), s3, s4] [(.ref x), (.int (Int32.ofNat iloop))])) rfl (by rw [hml]; rfl) (Steps.refl _) (argsL := []) (rest := [(.int (Int32.ofNat iloop))]) (lenOf pd_9 rfl) rfl (by show 2 * 0 + _ ≤ _; exact Nat.le_of_eq rfl) (hb hby dq13_8_12) (fun _ _ => ⟨rfl, e401, own_b, own_b⟩)
      dsimp only [Pt.U, Pt.locs, Pt.cells, Pt.slots] at X402 l402 y402 z402 st402 hQ402
      subst l402 y402 z402
      refine own_gos st402 ?_
      obtain ⟨rfl, rfl, e402⟩ := hQ402
      have Nq402 : Fr n0 ([] : List Loc) := Fr.nil n0
      have N402 := Fr.app N401 Nq402
      refine og (fun _ k => XS.icmpNo X402.here hx rfl (hb hby dq13_8_15) rfl (tlt hlt).2.1 k) ?_
      refine og (fun _ k => XS.aloadN X402.here hx rfl (hb hby dq13_8_18) rfl rfl k) ?_
      refine og (fun _ k => XS.iloadN X402.here hx rfl (hb hby dq13_8_19) rfl k) ?_
      obtain ⟨cq403, kq403, q403a, q403b, q403c⟩ := isOf hZ401 e402 J7_401
      obtain ⟨v403, _, ⟨T403, L403, k403, n403⟩, -, X403, ⟨Lc403, hQ403, l403, y403, z403⟩, st403⟩ := X402.virtualBack hx (y := (⟨"java/lang/String", "charAt", "(I)C"⟩ : MethodName)) (z := (⟨"java/lang/String", "charAt", "(I)C"⟩ : MethodName)) hown401 (mvT hZ401 (tw hw 117 rfl)) (mvT hZ401 (tw hw 118 rfl)) (notFace_of_selects (args := #[]) (mvT hZ401 (tw hw 120 rfl))) (mvT hZ401 (tw hw 120 rfl)) (mvT hZ401 (tw hw 119 rfl)) own_b (backOf (W := 0) (rm_ca l Z a0 hw [] x t k cs cd N2 vs iloop G1 G3 h401 n0 O401 O2 P5 O4 rG3 OA OH OL J7_401 J8_401 J9_401 J10_401 hC_x hok hi) hZ401 (tw hw 121 rfl) (tw hw 2 rfl) own_b own_b) q403a q403c (g := (mkF m 20 #[.val (.ref x), .val (.ref b389), .val (.int (Int32.ofNat iloop)), s3, s4] [(.int (Int32.ofNat iloop)), (.ref x)])) rfl (by rw [hml]; rfl) (Steps.refl _) (argsL := [(.int (Int32.ofNat iloop))]) (rest := []) (lenOf pd_37 rfl) rfl (by show 2 * 0 + _ ≤ _; exact Nat.le_of_eq rfl) (hb hby dq13_8_20) (fun _ _ => ⟨rfl, e402, own_b, own_b⟩)
      dsimp only [Pt.U, Pt.locs, Pt.cells, Pt.slots] at X403 l403 y403 z403 st403 hQ403
      subst l403 y403 z403
      refine own_gos st403 ?_
      obtain ⟨rfl, Nq403, e403⟩ := hQ403
      have N403 := Fr.app N402 Nq403
      try dsimp only [mkF]
      refine og (fun _ k => XS.istoreNS X403.here hx rfl (hb hby dq13_8_23) rfl rfl hs3 k) ?_
      have j45 : ∀ (ed : Int32) (TJ : State) (LJ : List Loc) (cJ sJ : Nat), Stand p l e ⟨9, 20, 616, 132⟩ (s.setVm vm401) m #[(.ref x)] below meth cC TJ LJ cJ sJ → TJ.heap = h401 → Fr n0 LJ → cJ ≤ 2 + iloop * 4 → sJ ≤ 20 + iloop * 140 → (ed = 0 → own_fl iloop = 0 ∧ own_la cs.length iloop = 0) → (¬ ed = 0 → ¬ own_fl iloop = 0 ∨ ¬ own_la cs.length iloop = 0) → own_Go p e below (TJ.setTop (mkF m 45 #[.val (.ref x), .val (.ref b389), .val (.int (Int32.ofNat iloop)), .val (.int (cs.getD iloop 0)), .val (.int ed)] [])) (fun oO U' => ∃ rV rL, oO = .returned rV ∧ QStrN Z (own_escP cs cs.length) h0 n0 rV U'.heap rL ∧ CHr Z own_EL s.vm s.heap U'.vm U'.heap ∧ ReturnedEndW s oO U' rL 20 616) := by
        intro ed TJ LJ cJ sJ XJ eJ NJ hcJ hsJ he0 he1
        refine og (fun _ k => XS.iloadN XJ.here hx rfl (hb hby dq13_8_45) rfl k) ?_
        by_cases hc404 : (cs.getD iloop 0) = (0 : Int32)
        · skip
          refine og (fun _ k => XS.ifNo XJ.here hx rfl (hb hby dq13_8_46) rfl ((if0 _ _).trans (teq hc404).2) k) ?_
          refine og (fun _ k => XS.aloadN XJ.here hx rfl (hb hby dq13_8_49) rfl rfl k) ?_
          try dsimp only [mkF]
          obtain ⟨aL405, T405, h405, k1405, b405, kb405, X405, e405, E405, hS405, hk405, hZ405, hown405, Ea405, Fc405, Fv405, Va405, la405, lb405, A405, Li405, sf405, st405⟩ := ldcCH XJ hx hZ401 hown401 (tw hw 259 rfl) own_wS eJ hS401 hk401 own_hEL own_b C401.1 (vs := [(.int (92 : Int32)), (.int (48 : Int32)), (.int (48 : Int32))]) (z := (3 : Int32)) ⟨by decide, by decide⟩ own_b own_b (g := (mkF m 50 #[.val (.ref x), .val (.ref b389), .val (.int (Int32.ofNat iloop)), .val (.int (cs.getD iloop 0)), .val (.int ed)] [(.ref b389)])) rfl (hb hby dq13_8_50) (n := 12) own_b own_b own_b own_b
          refine own_go st405 ?_
          have C406 := C401.trans A405
          have f407 := (A405.safe J5_401.lt J6_401)
          obtain ⟨cq408, kq408, q408a, q408b, q408c⟩ := isOf hZ405 e405 (J0_401.ext E405)
          obtain ⟨v408, _, ⟨T408, L408, k408, n408⟩, -, X408, ⟨Lc408, hQ408, l408, y408, z408⟩, st408⟩ := X405.virtualBack hx (y := (⟨"java/lang/StringBuilder", "append", "(Ljava/lang/String;)Ljava/lang/StringBuilder;"⟩ : MethodName)) (z := (⟨"java/lang/StringBuilder", "append", "(Ljava/lang/String;)Ljava/lang/StringBuilder;"⟩ : MethodName)) hown405 (mvT hZ405 (tw hw 260 rfl)) (mvT hZ405 (tw hw 261 rfl)) (notFace_of_selects (args := #[]) (mvT hZ405 (tw hw 263 rfl))) (mvT hZ405 (tw hw 263 rfl)) (mvT hZ405 (tw hw 262 rfl)) own_b (backOf (W := 0) (rm_apS l Z a0 hw [] b389 vb kvb cdb (own_escP cs iloop) aL405 b405 kb405 ([92, 48, 48] : List Int32) G1 G3 h405 n0 (O401.ext E405) O2 P5 O4 rG3 OA OH OL (J0_401.ext E405) (J1_401.ext E405) (J2_401.ext E405) (J3_401.ext E405) (J4_401.ext E405) (J5_401.ext E405) hcdl (Nat.le_trans Z0 (Nat.le_of_eq g389.symm)) (Nat.le_trans Z0 gev) Ea405 Fv405 Fc405 Va405 own_la3 own_ok3 (Ne.symm (sf405 _ (Safe.exa hZ405.alike (J0_401.ext E405) own_b own_b)).1) (Ne.symm (sf405 _ f407).2) (by show _ + 3 ≤ 16; omega)) hZ405 (tw hw 264 rfl) (tw hw 28 rfl) own_b own_b) q408a q408c (g := (mkF m 52 #[.val (.ref x), .val (.ref b389), .val (.int (Int32.ofNat iloop)), .val (.int (cs.getD iloop 0)), .val (.int ed)] [(.ref aL405), (.ref b389)])) rfl (by rw [hml]; rfl) (Steps.refl _) (argsL := [(.ref aL405)]) (rest := []) (lenOf pd_39 rfl) rfl (by show 2 * 0 + _ ≤ _; exact Nat.le_of_eq rfl) (hb hby dq13_8_52) (fun _ _ => ⟨rfl, e405, own_b, own_b⟩)
          dsimp only [Pt.U, Pt.locs, Pt.cells, Pt.slots] at X408 l408 y408 z408 st408 hQ408
          subst l408 y408 z408
          refine own_gos st408 ?_
          obtain ⟨v408, kv408, cd408, rfl, Nq408, K408, hor408, Fv408, Fc408, Fn408, Fm408, Vv408, hcd408⟩ := hQ408
          have gv408 : n0 ≤ v408 := hor408.elim (fun q => q ▸ (Nat.le_trans Z0 gev)) (fun q => Nat.le_trans (Nat.le_trans Z0 (K401.ext E405).1) q)
          have ge408 : h0.size ≤ v408 := hor408.elim (fun q => q ▸ gev) (fun q => Nat.le_trans (K401.ext E405).1 q)
          have sfv408 : Safe Z own_EL T405.vm h405 v408 := hor408.elim (fun q => q ▸ f407) (fun q => Safe.new q)
          have C409 := C406.trans (CHr.keep K408 (sfS (Safe.exa hZ405.alike (J0_401.ext E405) own_b own_b) (sfS f407 sf0)) C406.1)
          have N408 := Fr.app NJ Nq408
          have f410 := ((J0_401.ext E405).keep K408)
          have nx_v408 : x ≠ v408 := Nat.ne_of_lt (Nat.lt_of_lt_of_le E_x.lt ge408)
          have nt_v408 : t ≠ v408 := Nat.ne_of_lt (Nat.lt_of_lt_of_le V_t.lt ge408)
          have nb_v408 := Exa.neArv f410 Vv408 (tw hw 27 rfl)
          refine og (fun _ k => XS.pop X408.here hx rfl (hb hby dq13_8_55) rfl rfl k) ?_
          refine og (fun _ k => XS.goto X408.here hx rfl (pc0 := 56) (pc' := 109) rfl (hb hby dq13_8_56) own_b own_b k) ?_
          refine og (fun _ k => XS.iinc X408.here hx rfl (hb hby dq13_8_109) rfl (l' := #[.val (.ref x), .val (.ref b389), .val (.int ((Int32.ofNat iloop) + (1 : Int32))), .val (.int (cs.getD iloop 0)), .val (.int ed)]) rfl k) ?_
          try dsimp only [mkF]
          refine og (fun _ k => XS.goto X408.here hx rfl (pc0 := 112) (pc' := 10) rfl (hb hby dq13_8_112) own_b own_b k) ?_
          show own_Go p e below (T408.setTop (mkF m 10 #[.val (.ref x), .val (.ref b389), .val (.int ((Int32.ofNat iloop) + (1 : Int32))), .val (.int (cs.getD iloop 0)), .val (.int ed)] [])) _
          rw [own_inc]
          have f411 := (Safe.keep K408 (sfS (Safe.exa hZ405.alike (J0_401.ext E405) own_b own_b) (sfS f407 sf0)) C406.1 sfv408)
          have f412 := ((J7_401.ext E405).keep K408)
          have f413 := ((J8_401.ext E405).keep K408 (ninS ne395 (ninS nx_vb nin0)))
          have f414 := ((J9_401.ext E405).keep K408 (ninS ne395 (ninS nx_vb nin0)))
          have f415 := ((J10_401.ext E405).keep K408 (ninS ne394 (ninS nt_vb nin0)))
          have f416 := ((O401.ext E405).keep K408 (allS (Nat.le_trans Z0 (Nat.le_of_eq g389.symm)) (allS (Nat.le_trans Z0 gev) all0)))
          have f417 := ((K401.ext E405).trans K408 (allS (Or.inr (Nat.le_of_eq g389.symm)) (allS (Or.inr gev) all0)))
          exact ih (iloop + 1) v408 kv408 cd408 (.val (.int (cs.getD iloop 0))) (.val (.int ed)) T405.vm _ T408 _ T408.heap (by omega) (X408.loosen (by omega) (by omega)) (rfl : T408.heap = T408.heap) N408 f416 f417 C409 (Nat.le_trans hk405 K408.1) hS405 hZ405 hown405 f410 Fv408 Fc408 ((own_e0 hc404) ▸ Fn408) Fm408 ((own_e0 hc404) ▸ Vv408) f411 f412 f413 f414 f415 ((own_e0 hc404) ▸ hcd408) gv408 ge408 (Or.inr ⟨_, rfl, rfl⟩) (Or.inr ⟨_, rfl, rfl⟩)
        · skip
          refine og (fun _ k => XS.ifYes XJ.here hx rfl (pc0 := 46) (pc' := 59) rfl (hb hby dq13_8_46) rfl ((if0 _ _).trans (feq hc404).2) own_b own_b k) ?_
          obtain ⟨aL418, T418, h418, k1418, b418, kb418, X418, e418, E418, hS418, hk418, hZ418, hown418, Ea418, Fc418, Fv418, Va418, la418, lb418, A418, Li418, sf418, st418⟩ := ldcCH XJ hx hZ401 hown401 (tw hw 139 rfl) own_wS eJ hS401 hk401 own_hEL own_b C401.1 (vs := [(.int (92 : Int32)), (.int (44 : Int32)), (.int (43 : Int32)), (.int (34 : Int32)), (.int (59 : Int32)), (.int (60 : Int32)), (.int (62 : Int32))]) (z := (7 : Int32)) ⟨by decide, by decide⟩ own_b own_b (g := (mkF m 59 #[.val (.ref x), .val (.ref b389), .val (.int (Int32.ofNat iloop)), .val (.int (cs.getD iloop 0)), .val (.int ed)] [])) rfl (hb hby dq13_8_59) (n := 28) own_b own_b own_b own_b
          refine own_go st418 ?_
          have C419 := C401.trans A418
          have f420 := (A418.safe J5_401.lt J6_401)
          try dsimp only [mkF]
          refine og (fun _ k => XS.iloadN X418.here hx rfl (hb hby dq13_8_61) rfl k) ?_
          obtain ⟨cq421, kq421, q421a, q421b, q421c⟩ := isOf hZ418 e418 Ea418
          obtain ⟨v421, _, ⟨T421, L421, k421, n421⟩, -, X421, ⟨Lc421, hQ421, l421, y421, z421⟩, st421⟩ := X418.virtualBack hx (y := (⟨"java/lang/String", "indexOf", "(I)I"⟩ : MethodName)) (z := (⟨"java/lang/String", "indexOf", "(I)I"⟩ : MethodName)) hown418 (mvT hZ418 (tw hw 140 rfl)) (mvT hZ418 (tw hw 141 rfl)) (notFace_of_selects (args := #[]) (mvT hZ418 (tw hw 143 rfl))) (mvT hZ418 (tw hw 143 rfl)) (mvT hZ418 (tw hw 142 rfl)) own_b (backOf (W := 0) (rm_si1 l Z a0 hw [] aL418 b418 kb418 own_DS (cs.getD iloop 0) G1 G3 h418 n0 (O401.ext E418) O2 P5 O4 rG3 OA OH OL Ea418 Fv418 Fc418 Va418 own_la7 own_ok7 (hok.at hi).1) hZ418 (tw hw 144 rfl) (tw hw 2 rfl) own_b own_b) q421a q421c (g := (mkF m 62 #[.val (.ref x), .val (.ref b389), .val (.int (Int32.ofNat iloop)), .val (.int (cs.getD iloop 0)), .val (.int ed)] [(.int (cs.getD iloop 0)), (.ref aL418)])) rfl (by rw [hml]; rfl) (Steps.refl _) (argsL := [(.int (cs.getD iloop 0))]) (rest := []) (lenOf pd_1 rfl) rfl (by show 2 * 0 + _ ≤ _; exact Nat.le_of_eq rfl) (hb hby dq13_8_62) (fun _ _ => ⟨rfl, e418, own_b, own_b⟩)
          dsimp only [Pt.U, Pt.locs, Pt.cells, Pt.slots] at X421 l421 y421 z421 st421 hQ421
          subst l421 y421 z421
          refine own_gos st421 ?_
          obtain ⟨r421, rfl, Nq421, e421, hr421⟩ := hQ421
          have N421 := Fr.app NJ Nq421
          have j89 : ¬ own_sp (cs.getD iloop 0) (own_fl iloop) (own_la cs.length iloop) = 0 → own_Go p e below (T421.setTop (mkF m 89 #[.val (.ref x), .val (.ref b389), .val (.int (Int32.ofNat iloop)), .val (.int (cs.getD iloop 0)), .val (.int ed)] [])) (fun oO U' => ∃ rV rL, oO = .returned rV ∧ QStrN Z (own_escP cs cs.length) h0 n0 rV U'.heap rL ∧ CHr Z own_EL s.vm s.heap U'.vm U'.heap ∧ ReturnedEndW s oO U' rL 20 616) := by
            intro hsp
            refine og (fun _ k => XS.aloadN X421.here hx rfl (hb hby dq13_8_89) rfl rfl k) ?_
            refine og (fun _ k => XS.bipush X421.here hx rfl (hb hby dq13_8_90) k) ?_
            try dsimp only [mkF]
            obtain ⟨cq422, kq422, q422a, q422b, q422c⟩ := isOf hZ418 e421 (J0_401.ext E418)
            obtain ⟨v422, _, ⟨T422, L422, k422, n422⟩, -, X422, ⟨Lc422, hQ422, l422, y422, z422⟩, st422⟩ := X421.virtualBack hx (y := (⟨"java/lang/StringBuilder", "append", "(C)Ljava/lang/StringBuilder;"⟩ : MethodName)) (z := (⟨"java/lang/StringBuilder", "append", "(C)Ljava/lang/StringBuilder;"⟩ : MethodName)) hown418 (mvT hZ418 (tw hw 164 rfl)) (mvT hZ418 (tw hw 165 rfl)) (notFace_of_selects (args := #[]) (mvT hZ418 (tw hw 167 rfl))) (mvT hZ418 (tw hw 167 rfl)) (mvT hZ418 (tw hw 166 rfl)) own_b (backOf (W := 0) (rm_apC l Z a0 hw [] b389 vb kvb cdb (own_escP cs iloop) (92 : Int32) G1 G3 h418 n0 (O401.ext E418) O2 P5 O4 rG3 OA OH OL (J0_401.ext E418) (J1_401.ext E418) (J2_401.ext E418) (J3_401.ext E418) (J4_401.ext E418) (J5_401.ext E418) hcdl (Nat.le_trans Z0 (Nat.le_of_eq g389.symm)) (Nat.le_trans Z0 gev) (by decide : ¬ (92 : Int32) < 0 ∧ ¬ (65535 : Int32) < (92 : Int32)) (own_escOk hok h4 (by omega)) (by omega)) hZ418 (tw hw 168 rfl) (tw hw 28 rfl) own_b own_b) q422a q422c (g := (mkF m 92 #[.val (.ref x), .val (.ref b389), .val (.int (Int32.ofNat iloop)), .val (.int (cs.getD iloop 0)), .val (.int ed)] [(.int (92 : Int32)), (.ref b389)])) rfl (by rw [hml]; rfl) (Steps.refl _) (argsL := [(.int (92 : Int32))]) (rest := []) (lenOf pd_40 rfl) rfl (by show 2 * 0 + _ ≤ _; exact Nat.le_of_eq rfl) (hb hby dq13_8_92) (fun _ _ => ⟨rfl, e421, own_b, own_b⟩)
            dsimp only [Pt.U, Pt.locs, Pt.cells, Pt.slots] at X422 l422 y422 z422 st422 hQ422
            subst l422 y422 z422
            refine own_gos st422 ?_
            obtain ⟨v422, kv422, cd422, rfl, Nq422, K422, hor422, Fv422, Fc422, Fn422, Fm422, Vv422, hcd422⟩ := hQ422
            have gv422 : n0 ≤ v422 := hor422.elim (fun q => q ▸ (Nat.le_trans Z0 gev)) (fun q => Nat.le_trans (Nat.le_trans Z0 (K401.ext E418).1) q)
            have ge422 : h0.size ≤ v422 := hor422.elim (fun q => q ▸ gev) (fun q => Nat.le_trans (K401.ext E418).1 q)
            have sfv422 : Safe Z own_EL T418.vm h418 v422 := hor422.elim (fun q => q ▸ f420) (fun q => Safe.new q)
            have C423 := C419.trans (CHr.keep K422 (sfS (Safe.exa hZ418.alike (J0_401.ext E418) own_b own_b) (sfS f420 sf0)) C419.1)
            have N422 := Fr.app N421 Nq422
            have f424 := ((J0_401.ext E418).keep K422)
            have nx_v422 : x ≠ v422 := Nat.ne_of_lt (Nat.lt_of_lt_of_le E_x.lt ge422)
            have nt_v422 : t ≠ v422 := Nat.ne_of_lt (Nat.lt_of_lt_of_le V_t.lt ge422)
            have nb_v422 := Exa.neArv f424 Vv422 (tw hw 27 rfl)
            refine og (fun _ k => XS.iloadN X422.here hx rfl (hb hby dq13_8_95) rfl k) ?_
            have f425 := ((O401.ext E418).keep K422 (allS (Nat.le_trans Z0 (Nat.le_of_eq g389.symm)) (allS (Nat.le_trans Z0 gev) all0)))
            obtain ⟨cq426, kq426, q426a, q426b, q426c⟩ := isOf hZ418 (rfl : T422.heap = T422.heap) f424
            obtain ⟨v426, _, ⟨T426, L426, k426, n426⟩, -, X426, ⟨Lc426, hQ426, l426, y426, z426⟩, st426⟩ := X422.virtualBack hx (y := (⟨"java/lang/StringBuilder", "append", "(C)Ljava/lang/StringBuilder;"⟩ : MethodName)) (z := (⟨"java/lang/StringBuilder", "append", "(C)Ljava/lang/StringBuilder;"⟩ : MethodName)) hown418 (mvT hZ418 (tw hw 164 rfl)) (mvT hZ418 (tw hw 165 rfl)) (notFace_of_selects (args := #[]) (mvT hZ418 (tw hw 167 rfl))) (mvT hZ418 (tw hw 167 rfl)) (mvT hZ418 (tw hw 166 rfl)) own_b (backOf (W := 0) (rm_apC l Z a0 hw [] b389 v422 kv422 cd422 ((own_escP cs iloop) ++ [(92 : Int32)]) (cs.getD iloop 0) G1 G3 T422.heap n0 f425 O2 P5 O4 rG3 OA OH OL f424 Fv422 Fc422 Fn422 Fm422 Vv422 hcd422 (Nat.le_trans Z0 (Nat.le_of_eq g389.symm)) (Nat.le_trans Z0 ge422) (hok.at hi) (own_okA (own_escOk hok h4 (by omega)) (by decide : ¬ (92 : Int32) < 0 ∧ ¬ (65535 : Int32) < (92 : Int32)) (by omega)) (by rw [List.length_append]; show _ + 1 < 16; omega)) hZ418 (tw hw 168 rfl) (tw hw 28 rfl) own_b own_b) q426a q426c (g := (mkF m 96 #[.val (.ref x), .val (.ref b389), .val (.int (Int32.ofNat iloop)), .val (.int (cs.getD iloop 0)), .val (.int ed)] [(.int (cs.getD iloop 0)), (.ref b389)])) rfl (by rw [hml]; rfl) (Steps.refl _) (argsL := [(.int (cs.getD iloop 0))]) (rest := []) (lenOf pd_40 rfl) rfl (by show 2 * 0 + _ ≤ _; exact Nat.le_of_eq rfl) (hb hby dq13_8_96) (fun _ _ => ⟨rfl, (rfl : T422.heap = T422.heap), own_b, own_b⟩)
            dsimp only [Pt.U, Pt.locs, Pt.cells, Pt.slots] at X426 l426 y426 z426 st426 hQ426
            subst l426 y426 z426
            refine own_gos st426 ?_
            have f427 := ((K401.ext E418).trans K422 (allS (Or.inr (Nat.le_of_eq g389.symm)) (allS (Or.inr gev) all0)))
            obtain ⟨v426, kv426, cd426, rfl, Nq426, K426, hor426, Fv426, Fc426, Fn426, Fm426, Vv426, hcd426⟩ := hQ426
            have gv426 : n0 ≤ v426 := hor426.elim (fun q => q ▸ (Nat.le_trans Z0 ge422)) (fun q => Nat.le_trans (Nat.le_trans Z0 f427.1) q)
            have ge426 : h0.size ≤ v426 := hor426.elim (fun q => q ▸ ge422) (fun q => Nat.le_trans f427.1 q)
            have f428 := (Safe.keep K422 (sfS (Safe.exa hZ418.alike (J0_401.ext E418) own_b own_b) (sfS f420 sf0)) C419.1 sfv422)
            have sfv426 : Safe Z own_EL T418.vm T422.heap v426 := hor426.elim (fun q => q ▸ f428) (fun q => Safe.new q)
            have C429 := C423.trans (CHr.keep K426 (sfS (Safe.exa hZ418.alike f424 own_b own_b) (sfS f428 sf0)) C423.1)
            have N426 := Fr.app N422 Nq426
            have nx_v426 : x ≠ v426 := Nat.ne_of_lt (Nat.lt_of_lt_of_le E_x.lt ge426)
            have nt_v426 : t ≠ v426 := Nat.ne_of_lt (Nat.lt_of_lt_of_le V_t.lt ge426)
            have nb_v426 := Exa.neArv (f424.keep K426) Vv426 (tw hw 27 rfl)
            refine og (fun _ k => XS.pop X426.here hx rfl (hb hby dq13_8_99) rfl rfl k) ?_
            refine og (fun _ k => XS.goto X426.here hx rfl (pc0 := 100) (pc' := 109) rfl (hb hby dq13_8_100) own_b own_b k) ?_
            try dsimp only [mkF]
            refine og (fun _ k => XS.iinc X426.here hx rfl (hb hby dq13_8_109) rfl (l' := #[.val (.ref x), .val (.ref b389), .val (.int ((Int32.ofNat iloop) + (1 : Int32))), .val (.int (cs.getD iloop 0)), .val (.int ed)]) rfl k) ?_
            refine og (fun _ k => XS.goto X426.here hx rfl (pc0 := 112) (pc' := 10) rfl (hb hby dq13_8_112) own_b own_b k) ?_
            show own_Go p e below (T426.setTop (mkF m 10 #[.val (.ref x), .val (.ref b389), .val (.int ((Int32.ofNat iloop) + (1 : Int32))), .val (.int (cs.getD iloop 0)), .val (.int ed)] [])) _
            rw [own_inc]
            have f430 := (Safe.keep K426 (sfS (Safe.exa hZ418.alike f424 own_b own_b) (sfS f428 sf0)) C423.1 sfv426)
            have f431 := (((J7_401.ext E418).keep K422).keep K426)
            have f432 := (((J8_401.ext E418).keep K422 (ninS ne395 (ninS nx_vb nin0))).keep K426 (ninS ne395 (ninS nx_v422 nin0)))
            have f433 := (((J9_401.ext E418).keep K422 (ninS ne395 (ninS nx_vb nin0))).keep K426 (ninS ne395 (ninS nx_v422 nin0)))
            have f434 := (((J10_401.ext E418).keep K422 (ninS ne394 (ninS nt_vb nin0))).keep K426 (ninS ne394 (ninS nt_v422 nin0)))
            have f435 := (f425.keep K426 (allS (Nat.le_trans Z0 (Nat.le_of_eq g389.symm)) (allS (Nat.le_trans Z0 ge422) all0)))
            have f436 := (f427.trans K426 (allS (Or.inr (Nat.le_of_eq g389.symm)) (allS (Or.inr ge422) all0)))
            exact ih (iloop + 1) v426 kv426 cd426 (.val (.int (cs.getD iloop 0))) (.val (.int ed)) T418.vm _ T426 _ T426.heap (by omega) (X426.loosen (by omega) (by omega)) (rfl : T426.heap = T426.heap) N426 f435 f436 C429 (Nat.le_trans hk418 (Nat.le_trans K422.1 K426.1)) hS418 hZ418 hown418 (f424.keep K426) Fv426 Fc426 ((own_e2 hc404 hsp) ▸ Fn426) Fm426 ((own_e2 hc404 hsp) ▸ Vv426) f430 f431 f432 f433 f434 ((own_e2 hc404 hsp) ▸ hcd426) gv426 ge426 (Or.inr ⟨_, rfl, rfl⟩) (Or.inr ⟨_, rfl, rfl⟩)
          have j103 : own_sp (cs.getD iloop 0) (own_fl iloop) (own_la cs.length iloop) = 0 → own_Go p e below (T421.setTop (mkF m 103 #[.val (.ref x), .val (.ref b389), .val (.int (Int32.ofNat iloop)), .val (.int (cs.getD iloop 0)), .val (.int ed)] [])) (fun oO U' => ∃ rV rL, oO = .returned rV ∧ QStrN Z (own_escP cs cs.length) h0 n0 rV U'.heap rL ∧ CHr Z own_EL s.vm s.heap U'.vm U'.heap ∧ ReturnedEndW s oO U' rL 20 616) := by
            intro hsp
            refine og (fun _ k => XS.aloadN X421.here hx rfl (hb hby dq13_8_103) rfl rfl k) ?_
            refine og (fun _ k => XS.iloadN X421.here hx rfl (hb hby dq13_8_104) rfl k) ?_
            try dsimp only [mkF]
            obtain ⟨cq437, kq437, q437a, q437b, q437c⟩ := isOf hZ418 e421 (J0_401.ext E418)
            obtain ⟨v437, _, ⟨T437, L437, k437, n437⟩, -, X437, ⟨Lc437, hQ437, l437, y437, z437⟩, st437⟩ := X421.virtualBack hx (y := (⟨"java/lang/StringBuilder", "append", "(C)Ljava/lang/StringBuilder;"⟩ : MethodName)) (z := (⟨"java/lang/StringBuilder", "append", "(C)Ljava/lang/StringBuilder;"⟩ : MethodName)) hown418 (mvT hZ418 (tw hw 164 rfl)) (mvT hZ418 (tw hw 165 rfl)) (notFace_of_selects (args := #[]) (mvT hZ418 (tw hw 167 rfl))) (mvT hZ418 (tw hw 167 rfl)) (mvT hZ418 (tw hw 166 rfl)) own_b (backOf (W := 0) (rm_apC l Z a0 hw [] b389 vb kvb cdb (own_escP cs iloop) (cs.getD iloop 0) G1 G3 h418 n0 (O401.ext E418) O2 P5 O4 rG3 OA OH OL (J0_401.ext E418) (J1_401.ext E418) (J2_401.ext E418) (J3_401.ext E418) (J4_401.ext E418) (J5_401.ext E418) hcdl (Nat.le_trans Z0 (Nat.le_of_eq g389.symm)) (Nat.le_trans Z0 gev) (hok.at hi) (own_escOk hok h4 (by omega)) (by omega)) hZ418 (tw hw 168 rfl) (tw hw 28 rfl) own_b own_b) q437a q437c (g := (mkF m 105 #[.val (.ref x), .val (.ref b389), .val (.int (Int32.ofNat iloop)), .val (.int (cs.getD iloop 0)), .val (.int ed)] [(.int (cs.getD iloop 0)), (.ref b389)])) rfl (by rw [hml]; rfl) (Steps.refl _) (argsL := [(.int (cs.getD iloop 0))]) (rest := []) (lenOf pd_40 rfl) rfl (by show 2 * 0 + _ ≤ _; exact Nat.le_of_eq rfl) (hb hby dq13_8_105) (fun _ _ => ⟨rfl, e421, own_b, own_b⟩)
            dsimp only [Pt.U, Pt.locs, Pt.cells, Pt.slots] at X437 l437 y437 z437 st437 hQ437
            subst l437 y437 z437
            refine own_gos st437 ?_
            obtain ⟨v437, kv437, cd437, rfl, Nq437, K437, hor437, Fv437, Fc437, Fn437, Fm437, Vv437, hcd437⟩ := hQ437
            have gv437 : n0 ≤ v437 := hor437.elim (fun q => q ▸ (Nat.le_trans Z0 gev)) (fun q => Nat.le_trans (Nat.le_trans Z0 (K401.ext E418).1) q)
            have ge437 : h0.size ≤ v437 := hor437.elim (fun q => q ▸ gev) (fun q => Nat.le_trans (K401.ext E418).1 q)
            have sfv437 : Safe Z own_EL T418.vm h418 v437 := hor437.elim (fun q => q ▸ f420) (fun q => Safe.new q)
            have C438 := C419.trans (CHr.keep K437 (sfS (Safe.exa hZ418.alike (J0_401.ext E418) own_b own_b) (sfS f420 sf0)) C419.1)
            have N437 := Fr.app N421 Nq437
            have f439 := ((J0_401.ext E418).keep K437)
            have nx_v437 : x ≠ v437 := Nat.ne_of_lt (Nat.lt_of_lt_of_le E_x.lt ge437)
            have nt_v437 : t ≠ v437 := Nat.ne_of_lt (Nat.lt_of_lt_of_le V_t.lt ge437)
            have nb_v437 := Exa.neArv f439 Vv437 (tw hw 27 rfl)
            refine og (fun _ k => XS.pop X437.here hx rfl (hb hby dq13_8_108) rfl rfl k) ?_
            refine og (fun _ k => XS.iinc X437.here hx rfl (hb hby dq13_8_109) rfl (l' := #[.val (.ref x), .val (.ref b389), .val (.int ((Int32.ofNat iloop) + (1 : Int32))), .val (.int (cs.getD iloop 0)), .val (.int ed)]) rfl k) ?_
            refine og (fun _ k => XS.goto X437.here hx rfl (pc0 := 112) (pc' := 10) rfl (hb hby dq13_8_112) own_b own_b k) ?_
            show own_Go p e below (T437.setTop (mkF m 10 #[.val (.ref x), .val (.ref b389), .val (.int ((Int32.ofNat iloop) + (1 : Int32))), .val (.int (cs.getD iloop 0)), .val (.int ed)] [])) _
            rw [own_inc]
            have f440 := (Safe.keep K437 (sfS (Safe.exa hZ418.alike (J0_401.ext E418) own_b own_b) (sfS f420 sf0)) C419.1 sfv437)
            have f441 := ((J7_401.ext E418).keep K437)
            have f442 := ((J8_401.ext E418).keep K437 (ninS ne395 (ninS nx_vb nin0)))
            have f443 := ((J9_401.ext E418).keep K437 (ninS ne395 (ninS nx_vb nin0)))
            have f444 := ((J10_401.ext E418).keep K437 (ninS ne394 (ninS nt_vb nin0)))
            have f445 := ((O401.ext E418).keep K437 (allS (Nat.le_trans Z0 (Nat.le_of_eq g389.symm)) (allS (Nat.le_trans Z0 gev) all0)))
            have f446 := ((K401.ext E418).trans K437 (allS (Or.inr (Nat.le_of_eq g389.symm)) (allS (Or.inr gev) all0)))
            exact ih (iloop + 1) v437 kv437 cd437 (.val (.int (cs.getD iloop 0))) (.val (.int ed)) T418.vm _ T437 _ T437.heap (by omega) (X437.loosen (by omega) (by omega)) (rfl : T437.heap = T437.heap) N437 f445 f446 C438 (Nat.le_trans hk418 K437.1) hS418 hZ418 hown418 f439 Fv437 Fc437 ((own_e1 hc404 hsp) ▸ Fn437) Fm437 ((own_e1 hc404 hsp) ▸ Vv437) f440 f441 f442 f443 f444 ((own_e1 hc404 hsp) ▸ hcd437) gv437 ge437 (Or.inr ⟨_, rfl, rfl⟩) (Or.inr ⟨_, rfl, rfl⟩)
          by_cases hc447 : r421 < (0 : Int32)
          · skip
            refine og (fun _ k => XS.ifNo X421.here hx rfl (hb hby dq13_8_65) rfl ((if0 _ _).trans (tlt hc447).2.1) k) ?_
            refine og (fun _ k => XS.iloadN X421.here hx rfl (hb hby dq13_8_68) rfl k) ?_
            refine og (fun _ k => XS.bipush X421.here hx rfl (hb hby dq13_8_69) k) ?_
            try dsimp only [mkF]
            by_cases hc448 : (cs.getD iloop 0) = (35 : Int32)
            · skip
              refine og (fun _ k => XS.icmpNo X421.here hx rfl (hb hby dq13_8_71) rfl (teq hc448).2 k) ?_
              refine og (fun _ k => XS.iloadN X421.here hx rfl (hb hby dq13_8_74) rfl k) ?_
              by_cases hc449 : (Int32.ofNat iloop) = (0 : Int32)
              · skip
                refine og (fun _ k => XS.ifYes X421.here hx rfl (pc0 := 75) (pc' := 89) rfl (hb hby dq13_8_75) rfl ((if0 _ _).trans (teq hc449).1) own_b own_b k) ?_
                show own_Go p e below (T421.setTop (mkF m 89 #[.val (.ref x), .val (.ref b389), .val (.int (Int32.ofNat iloop)), .val (.int (cs.getD iloop 0)), .val (.int ed)] [])) _
                exact j89 (own_spY2 hc448 (own_fl1 hc449))
              · skip
                refine og (fun _ k => XS.ifNo X421.here hx rfl (hb hby dq13_8_75) rfl ((if0 _ _).trans (feq hc449).1) k) ?_
                refine og (fun _ k => XS.iloadN X421.here hx rfl (hb hby dq13_8_78) rfl k) ?_
                refine og (fun _ k => XS.bipush X421.here hx rfl (hb hby dq13_8_79) k) ?_
                try dsimp only [mkF]
                by_cases hc450 : (cs.getD iloop 0) = (32 : Int32)
                · skip
                  refine og (fun _ k => XS.icmpNo X421.here hx rfl (hb hby dq13_8_81) rfl (teq hc450).2 k) ?_
                  refine og (fun _ k => XS.iload X421.here hx rfl (hb hby dq13_8_84) rfl k) ?_
                  by_cases hc451 : ed = (0 : Int32)
                  · skip
                    refine og (fun _ k => XS.ifYes X421.here hx rfl (pc0 := 86) (pc' := 103) rfl (hb hby dq13_8_86) rfl ((if0 _ _).trans (teq hc451).1) own_b own_b k) ?_
                    show own_Go p e below (T421.setTop (mkF m 103 #[.val (.ref x), .val (.ref b389), .val (.int (Int32.ofNat iloop)), .val (.int (cs.getD iloop 0)), .val (.int ed)] [])) _
                    exact j103 (own_spN (own_ixn hr421 hc447) (fun _ => own_flz hc449) (fun _ => he0 hc451))
                  · skip
                    refine og (fun _ k => XS.ifNo X421.here hx rfl (hb hby dq13_8_86) rfl ((if0 _ _).trans (feq hc451).1) k) ?_
                    show own_Go p e below (T421.setTop (mkF m 89 #[.val (.ref x), .val (.ref b389), .val (.int (Int32.ofNat iloop)), .val (.int (cs.getD iloop 0)), .val (.int ed)] [])) _
                    exact j89 (own_spY3 hc450 (he1 hc451))
                · skip
                  refine og (fun _ k => XS.icmpYes X421.here hx rfl (pc0 := 81) (pc' := 103) rfl (hb hby dq13_8_81) rfl (feq hc450).2 own_b own_b k) ?_
                  show own_Go p e below (T421.setTop (mkF m 103 #[.val (.ref x), .val (.ref b389), .val (.int (Int32.ofNat iloop)), .val (.int (cs.getD iloop 0)), .val (.int ed)] [])) _
                  exact j103 (own_spN (own_ixn hr421 hc447) (fun _ => own_flz hc449) (fun z => absurd z hc450))
            · skip
              refine og (fun _ k => XS.icmpYes X421.here hx rfl (pc0 := 71) (pc' := 78) rfl (hb hby dq13_8_71) rfl (feq hc448).2 own_b own_b k) ?_
              refine og (fun _ k => XS.iloadN X421.here hx rfl (hb hby dq13_8_78) rfl k) ?_
              refine og (fun _ k => XS.bipush X421.here hx rfl (hb hby dq13_8_79) k) ?_
              by_cases hc452 : (cs.getD iloop 0) = (32 : Int32)
              · skip
                refine og (fun _ k => XS.icmpNo X421.here hx rfl (hb hby dq13_8_81) rfl (teq hc452).2 k) ?_
                refine og (fun _ k => XS.iload X421.here hx rfl (hb hby dq13_8_84) rfl k) ?_
                try dsimp only [mkF]
                by_cases hc453 : ed = (0 : Int32)
                · skip
                  refine og (fun _ k => XS.ifYes X421.here hx rfl (pc0 := 86) (pc' := 103) rfl (hb hby dq13_8_86) rfl ((if0 _ _).trans (teq hc453).1) own_b own_b k) ?_
                  show own_Go p e below (T421.setTop (mkF m 103 #[.val (.ref x), .val (.ref b389), .val (.int (Int32.ofNat iloop)), .val (.int (cs.getD iloop 0)), .val (.int ed)] [])) _
                  exact j103 (own_spN (own_ixn hr421 hc447) (fun z => absurd z hc448) (fun _ => he0 hc453))
                · skip
                  refine og (fun _ k => XS.ifNo X421.here hx rfl (hb hby dq13_8_86) rfl ((if0 _ _).trans (feq hc453).1) k) ?_
                  show own_Go p e below (T421.setTop (mkF m 89 #[.val (.ref x), .val (.ref b389), .val (.int (Int32.ofNat iloop)), .val (.int (cs.getD iloop 0)), .val (.int ed)] [])) _
                  exact j89 (own_spY3 hc452 (he1 hc453))
              · skip
                refine og (fun _ k => XS.icmpYes X421.here hx rfl (pc0 := 81) (pc' := 103) rfl (hb hby dq13_8_81) rfl (feq hc452).2 own_b own_b k) ?_
                show own_Go p e below (T421.setTop (mkF m 103 #[.val (.ref x), .val (.ref b389), .val (.int (Int32.ofNat iloop)), .val (.int (cs.getD iloop 0)), .val (.int ed)] [])) _
                exact j103 (own_spN (own_ixn hr421 hc447) (fun z => absurd z hc448) (fun z => absurd z hc452))
          · skip
            refine og (fun _ k => XS.ifYes X421.here hx rfl (pc0 := 65) (pc' := 89) rfl (hb hby dq13_8_65) rfl ((if0 _ _).trans (flt hc447).2.1) own_b own_b k) ?_
            show own_Go p e below (T421.setTop (mkF m 89 #[.val (.ref x), .val (.ref b389), .val (.int (Int32.ofNat iloop)), .val (.int (cs.getD iloop 0)), .val (.int ed)] [])) _
            exact j89 (own_spY1 (own_ixy hr421 hc447))
      refine og (fun _ k => XS.iloadN X403.here hx rfl (hb hby dq13_8_24) rfl k) ?_
      by_cases hc454 : (Int32.ofNat iloop) = (0 : Int32)
      · skip
        refine og (fun _ k => XS.ifYes X403.here hx rfl (pc0 := 25) (pc' := 38) rfl (hb hby dq13_8_25) rfl ((if0 _ _).trans (teq hc454).1) own_b own_b k) ?_
        refine og (fun _ k => XS.iconst X403.here hx rfl (hb hby dq13_8_38) k) ?_
        refine og (fun _ k => XS.goto X403.here hx rfl (pc0 := 39) (pc' := 43) rfl (hb hby dq13_8_39) own_b own_b k) ?_
        try dsimp only [mkF]
        refine og (fun _ k => XS.istoreS X403.here hx rfl (hb hby dq13_8_43) rfl rfl hs4 k) ?_
        show own_Go p e below (T403.setTop (mkF m 45 #[.val (.ref x), .val (.ref b389), .val (.int (Int32.ofNat iloop)), .val (.int (cs.getD iloop 0)), .val (.int (1 : Int32))] [])) _
        exact j45 (1 : Int32) _ _ _ _ X403 e403 N403 own_b own_b (fun q => absurd q own_b) (fun _ => Or.inl (own_fl1 hc454))
      · skip
        refine og (fun _ k => XS.ifNo X403.here hx rfl (hb hby dq13_8_25) rfl ((if0 _ _).trans (feq hc454).1) k) ?_
        refine og (fun _ k => XS.iloadN X403.here hx rfl (hb hby dq13_8_28) rfl k) ?_
        refine og (fun _ k => XS.aloadN X403.here hx rfl (hb hby dq13_8_29) rfl rfl k) ?_
        try dsimp only [mkF]
        obtain ⟨cq455, kq455, q455a, q455b, q455c⟩ := isOf hZ401 e403 J7_401
        obtain ⟨v455, _, ⟨T455, L455, k455, n455⟩, -, X455, ⟨Lc455, hQ455, l455, y455, z455⟩, st455⟩ := X403.virtualBack hx (y := (⟨"java/lang/String", "length", "()I"⟩ : MethodName)) (z := (⟨"java/lang/String", "length", "()I"⟩ : MethodName)) hown401 (mvT hZ401 (tw hw 44 rfl)) (mvT hZ401 (tw hw 45 rfl)) (notFace_of_selects (args := #[]) (mvT hZ401 (tw hw 47 rfl))) (mvT hZ401 (tw hw 47 rfl)) (mvT hZ401 (tw hw 46 rfl)) own_b (StrChars.Road.lenW (W := 1) hZ401 (own_wLen hw) (kI := 4) (tw hw 1 rfl) J7_401 J8_401 J9_401 J10_401 hC_x (hok.1) (O2.ext O401.2) P5 hok.2 own_b own_b) q455a q455c (g := (mkF m 30 #[.val (.ref x), .val (.ref b389), .val (.int (Int32.ofNat iloop)), .val (.int (cs.getD iloop 0)), s4] [(.ref x), (.int (Int32.ofNat iloop))])) rfl (by rw [hml]; rfl) (Steps.refl _) (argsL := []) (rest := [(.int (Int32.ofNat iloop))]) (lenOf pd_9 rfl) rfl (by show 2 * 0 + _ ≤ _; exact Nat.le_of_eq rfl) (hb hby dq13_8_30) (fun _ _ => ⟨rfl, e403, own_b, own_b⟩)
        dsimp only [Pt.U, Pt.locs, Pt.cells, Pt.slots] at X455 l455 y455 z455 st455 hQ455
        subst l455 y455 z455
        refine own_gos st455 ?_
        obtain ⟨rfl, rfl, e455⟩ := hQ455
        have Nq455 : Fr n0 ([] : List Loc) := Fr.nil n0
        have N455 := Fr.app N403 Nq455
        refine og (fun _ k => XS.iconst X455.here hx rfl (hb hby dq13_8_33) k) ?_
        refine og (fun _ k => XS.isub X455.here hx rfl (hb hby dq13_8_34) rfl k) ?_
        by_cases hc456 : (Int32.ofNat iloop) = ((Int32.ofNat cs.length) - (1 : Int32))
        · skip
          refine og (fun _ k => XS.icmpNo X455.here hx rfl (hb hby dq13_8_35) rfl (teq hc456).2 k) ?_
          refine og (fun _ k => XS.iconst X455.here hx rfl (hb hby dq13_8_38) k) ?_
          try dsimp only [mkF]
          refine og (fun _ k => XS.goto X455.here hx rfl (pc0 := 39) (pc' := 43) rfl (hb hby dq13_8_39) own_b own_b k) ?_
          refine og (fun _ k => XS.istoreS X455.here hx rfl (hb hby dq13_8_43) rfl rfl hs4 k) ?_
          show own_Go p e below (T455.setTop (mkF m 45 #[.val (.ref x), .val (.ref b389), .val (.int (Int32.ofNat iloop)), .val (.int (cs.getD iloop 0)), .val (.int (1 : Int32))] [])) _
          exact j45 (1 : Int32) _ _ _ _ X455 e455 N455 own_b own_b (fun q => absurd q own_b) (fun _ => Or.inr (own_la1 hlen hi hc456))
        · skip
          refine og (fun _ k => XS.icmpYes X455.here hx rfl (pc0 := 35) (pc' := 42) rfl (hb hby dq13_8_35) rfl (feq hc456).2 own_b own_b k) ?_
          refine og (fun _ k => XS.iconst X455.here hx rfl (hb hby dq13_8_42) k) ?_
          try dsimp only [mkF]
          refine og (fun _ k => XS.istoreS X455.here hx rfl (hb hby dq13_8_43) rfl rfl hs4 k) ?_
          show own_Go p e below (T455.setTop (mkF m 45 #[.val (.ref x), .val (.ref b389), .val (.int (Int32.ofNat iloop)), .val (.int (cs.getD iloop 0)), .val (.int (0 : Int32))] [])) _
          exact j45 (0 : Int32) _ _ _ _ X455 e455 N455 own_b own_b (fun _ => ⟨own_flz hc454, own_laz hlen hi hc456⟩) (fun q => absurd rfl q)
  have f457 := ((O0.ext E389).keep K391 (allS (Nat.le_trans Z0 (Nat.le_of_eq g389.symm)) all0))
  have f458 := (((Keep.refl h0 []).ext E389).trans K391 (allS (Or.inr (Nat.le_of_eq g389.symm)) all0))
  have f459 := (Safe.keep K391 (sfS f392 sf0) C390.1 (Safe.new vg391))
  have f460 := ((E_x.ext E389).keep K391)
  have f461 := ((Fv_x.ext E389).keep K391 (ninS ne395 nin0))
  have f462 := ((Fc_x.ext E389).keep K391 (ninS ne395 nin0))
  have f463 := ((V_t.ext E389).keep K391 (ninS ne394 nin0))
  exact loop (cs.length) 0 v391 kv391 (0 : Int32) .unset .unset s.vm _ T391 _ T391.heap (by omega) (X391.loosen (by omega) (by omega)) (rfl : T391.heap = T391.heap) N391 f457 f458 C393 (Nat.zero_le _) hS0 hZ hown (A389.keep K391) Fv391 Fc391 Fn391 Fm391 Vv391 f459 f460 f461 f462 f463 (Or.inl ⟨rfl, fun c hc => nomatch hc⟩) (Nat.le_trans Z0 (Nat.le_trans E389.1 vg391)) (Nat.le_trans E389.1 vg391) (Or.inl rfl) (Or.inl rfl)

theorem own_okL0 : own_Ok ([] : List Int32) := ⟨fun c hc => by simp only [List.mem_cons, List.not_mem_nil, or_false] at hc, Nat.le_of_ble_eq_true rfl⟩
theorem own_escK0 : own_escP ([] : List Int32) ([] : List Int32).length = ([] : List Int32) := by first | rfl | (simp only [own_escP]; rfl) | simp [own_escP, own_fl, own_la]
theorem own_okL1 {c0 : Int32} (b_c0 : ¬ c0 < 0 ∧ ¬ (65535 : Int32) < c0) : own_Ok ([c0] : List Int32) := ⟨fun c hc => by simp only [List.mem_cons, List.not_mem_nil, or_false] at hc; rcases hc with rfl <;> assumption, Nat.le_of_ble_eq_true rfl⟩
theorem own_escK1 (c0 : Int32) : own_escP ([c0] : List Int32) ([c0] : List Int32).length = (own_ex c0 (1 : Int32) (1 : Int32)) := by first | rfl | (simp only [own_escP]; rfl) | simp [own_escP, own_fl, own_la]
theorem own_okL2 {c0 c1 : Int32} (b_c0 : ¬ c0 < 0 ∧ ¬ (65535 : Int32) < c0) (b_c1 : ¬ c1 < 0 ∧ ¬ (65535 : Int32) < c1) : own_Ok ([c0, c1] : List Int32) := ⟨fun c hc => by simp only [List.mem_cons, List.not_mem_nil, or_false] at hc; rcases hc with rfl | rfl <;> assumption, Nat.le_of_ble_eq_true rfl⟩
theorem own_escK2 (c0 c1 : Int32) : own_escP ([c0, c1] : List Int32) ([c0, c1] : List Int32).length = ((own_ex c0 (1 : Int32) (0 : Int32)) ++ (own_ex c1 (0 : Int32) (1 : Int32))) := by first | rfl | (simp only [own_escP]; rfl) | simp [own_escP, own_fl, own_la]
theorem own_okL3 {c0 c1 c2 : Int32} (b_c0 : ¬ c0 < 0 ∧ ¬ (65535 : Int32) < c0) (b_c1 : ¬ c1 < 0 ∧ ¬ (65535 : Int32) < c1) (b_c2 : ¬ c2 < 0 ∧ ¬ (65535 : Int32) < c2) : own_Ok ([c0, c1, c2] : List Int32) := ⟨fun c hc => by simp only [List.mem_cons, List.not_mem_nil, or_false] at hc; rcases hc with rfl | rfl | rfl <;> assumption, Nat.le_of_ble_eq_true rfl⟩
theorem own_escK3 (c0 c1 c2 : Int32) : own_escP ([c0, c1, c2] : List Int32) ([c0, c1, c2] : List Int32).length = ((own_ex c0 (1 : Int32) (0 : Int32)) ++ (own_ex c1 (0 : Int32) (0 : Int32)) ++ (own_ex c2 (0 : Int32) (1 : Int32))) := by first | rfl | (simp only [own_escP]; rfl) | simp [own_escP, own_fl, own_la]
theorem own_okL4 {c0 c1 c2 c3 : Int32} (b_c0 : ¬ c0 < 0 ∧ ¬ (65535 : Int32) < c0) (b_c1 : ¬ c1 < 0 ∧ ¬ (65535 : Int32) < c1) (b_c2 : ¬ c2 < 0 ∧ ¬ (65535 : Int32) < c2) (b_c3 : ¬ c3 < 0 ∧ ¬ (65535 : Int32) < c3) : own_Ok ([c0, c1, c2, c3] : List Int32) := ⟨fun c hc => by simp only [List.mem_cons, List.not_mem_nil, or_false] at hc; rcases hc with rfl | rfl | rfl | rfl <;> assumption, Nat.le_of_ble_eq_true rfl⟩
theorem own_escK4 (c0 c1 c2 c3 : Int32) : own_escP ([c0, c1, c2, c3] : List Int32) ([c0, c1, c2, c3] : List Int32).length = ((own_ex c0 (1 : Int32) (0 : Int32)) ++ (own_ex c1 (0 : Int32) (0 : Int32)) ++ (own_ex c2 (0 : Int32) (0 : Int32)) ++ (own_ex c3 (0 : Int32) (1 : Int32))) := by first | rfl | (simp only [own_escP]; rfl) | simp [own_escP, own_fl, own_la]
theorem own_cod0 : StrChars.Road.CodA ([] : List Int32) 0 0 [] := Or.inl ⟨rfl, rfl, rfl, fun c hc => nomatch hc⟩
theorem own_at (as bs ds : List Int32) : ∀ j, j < bs.length → ((as ++ bs) ++ ds).getD (as.length + j) 0 = bs.getD j 0 := fun j h => by
  rw [List.append_assoc, List.getD_eq_getElem?_getD, List.getD_eq_getElem?_getD, List.getElem?_append_right (Nat.le_add_right _ _), Nat.add_sub_cancel_left, List.getElem?_append_left h]
theorem own_at2 {CS as bs ds : List Int32} {off : Nat} (e : CS = as ++ bs ++ ds) (eo : off = as.length) : ∀ j, j < bs.length → CS.getD (off + j) 0 = bs.getD j 0 := by subst e eo; exact own_at as bs ds
theorem own_le2 {CS as bs ds : List Int32} {off : Nat} (e : CS = as ++ bs ++ ds) (eo : off = as.length) : off + bs.length ≤ CS.length := by subst e eo; simp only [List.length_append]; omega
def QQ0 (n0 : Nat) (v : Option Value) (h : Heap) (L : List Loc) : Prop := v = some (.int 1) ∧ Fr n0 L
set_option maxRecDepth 65536 in
set_option maxHeartbeats 40000000 in
theorem own_mid0 (l : Launch) (Z : State) (a0 : Array Value) (hw : ∀ d ∈ tables_1, d.before a0 Z = true) (p1 p2 p3 p4 p5 c0 c1 c2 c3 : Int32) (xs xr tr : Addr) (kr : ClassId) (cdr N2r : Int32) (vsr : List Value) (G1 : Int32) (G3 : Value) (h0 : Heap) (n0 : Nat) {p : Program} {e : Env} {s : State} {vm0 : Vm} {m : MethodId} {below : List Frame} {meth : Method} {cC : Code} {T0 : State} {locs : List Loc} (X0 : Stand p l e room_1 (s.setVm vm0) m #[(.int p1), (.int p2), (.int p3), (.int p4), (.int p5)] below meth cC T0 locs 26 628) (hx : p.tables.exec = Jvm.exec) (hby : cC.code = code) (hml : cC.maxLocals = maxLocals) (hown : (s.setVm vm0).vm.findClass "com/example/rolelattice/rolelattice/decision/DistinguishedNameEscapeValuePinLaw" = some m.cls) (hZ : Z.Warmed39 (s.setVm vm0).vm) (hrt : meth.sig.returnType = ret) (hlk : meth.locks = false) (h1 : Heap) (e0 : T0.heap = h1) (N0 : Fr n0 locs) (Z0 : n0 ≤ h1.size) (O1 : Old Z n0 h1) (hh : s.heap = h0) {k0 : Nat} (hS0 : s.Since vm0 k0) (hk0 : k0 ≤ h1.size) (C0 : CHr Z own_EL s.vm h0 vm0 h1) (E_xr : Exa Z h1 xr "java/lang/String") (Fv_xr : Fld Z h1 xr "java/lang/String" "value" "[B" (.ref tr)) (Fc_xr : Fld Z h1 xr "java/lang/String" "coder" "B" (.int cdr)) (V_tr : Arv Z h1 tr kr .byte N2r vsr (.int (0 : Int32))) (O2 : Sta Z Z.heap "java/lang/String" "COMPACT_STRINGS" "Z" (.int G1)) (P5 : ¬ (G1 = (0 : Int32))) (O4 : Sta Z Z.heap "jdk/internal/util/Preconditions" "SIOOBE_FORMATTER" "Ljava/util/function/BiFunction;" G3) (rG3 : G3.isRef = true) (OA : Sta Z Z.heap "java/lang/StringUTF16" "$assertionsDisabled" "Z" (.int (1 : Int32))) (OH : Sta Z Z.heap "java/lang/StringUTF16" "HI_BYTE_SHIFT" "I" (.int (0 : Int32))) (OL : Sta Z Z.heap "java/lang/StringUTF16" "LO_BYTE_SHIFT" "I" (.int (8 : Int32))) (hC : StrChars.Road.CodA ([] : List Int32) cdr N2r vsr) (hok : own_Ok ([] : List Int32)) :
    own_Go p e below (T0.setTop (mkF m 167 #[.val (.int p1), .val (.int p2), .val (.int p3), .val (.int p4), .val (.int p5), .val (.int (0 : Int32)), .val (.int c0), .val (.int c1), .val (.int c2), .val (.int c3), .val (.ref xs), .val (.ref xr), .unset, .unset, .unset, .unset] [])) (fun oO U' => ∃ rV rL, oO = .returned rV ∧ QQ0 n0 rV U'.heap rL ∧ CHr Z own_EL s.vm s.heap U'.vm U'.heap ∧ ReturnedEndW s oO U' rL 32 3328) := by
  have own_wS := own_wSt hw
  have own_hEL := own_hELt hw
  refine og (fun _ k => XS.iload X0.here hx rfl (hb hby at_167) rfl k) ?_
  refine og (fun _ k => XS.iconst X0.here hx rfl (hb hby at_169) k) ?_
  refine og (fun _ k => XS.icmpYes X0.here hx rfl (pc0 := 170) (pc' := 193) rfl (hb hby at_170) rfl (tlt (by decide : (0 : Int32) < (1 : Int32))).1 (by decide) (by decide) k) ?_
  refine og (fun _ k => XS.iconst X0.here hx rfl (hb hby at_193) k) ?_
  try dsimp only [mkF]
  refine og (fun _ k => XS.istore X0.here hx rfl (hb hby at_194) rfl (l' := #[.val (.int p1), .val (.int p2), .val (.int p3), .val (.int p4), .val (.int p5), .val (.int (0 : Int32)), .val (.int c0), .val (.int c1), .val (.int c2), .val (.int c3), .val (.ref xs), .val (.ref xr), .val (.int (0 : Int32)), .unset, .unset, .unset]) rfl k) ?_
  refine og (fun _ k => XS.iload X0.here hx rfl (hb hby at_196) rfl k) ?_
  refine og (fun _ k => XS.iconst X0.here hx rfl (hb hby at_198) k) ?_
  refine og (fun _ k => XS.icmpYes X0.here hx rfl (pc0 := 199) (pc' := 222) rfl (hb hby at_199) rfl (tlt (by decide : (0 : Int32) < (2 : Int32))).1 (by decide) (by decide) k) ?_
  refine og (fun _ k => XS.iconst X0.here hx rfl (hb hby at_222) k) ?_
  try dsimp only [mkF]
  refine og (fun _ k => XS.istore X0.here hx rfl (hb hby at_223) rfl (l' := #[.val (.int p1), .val (.int p2), .val (.int p3), .val (.int p4), .val (.int p5), .val (.int (0 : Int32)), .val (.int c0), .val (.int c1), .val (.int c2), .val (.int c3), .val (.ref xs), .val (.ref xr), .val (.int (0 : Int32)), .val (.int (0 : Int32)), .unset, .unset]) rfl k) ?_
  refine og (fun _ k => XS.iload X0.here hx rfl (hb hby at_225) rfl k) ?_
  refine og (fun _ k => XS.iconst X0.here hx rfl (hb hby at_227) k) ?_
  refine og (fun _ k => XS.icmpYes X0.here hx rfl (pc0 := 228) (pc' := 251) rfl (hb hby at_228) rfl (tlt (by decide : (0 : Int32) < (3 : Int32))).1 (by decide) (by decide) k) ?_
  refine og (fun _ k => XS.iconst X0.here hx rfl (hb hby at_251) k) ?_
  try dsimp only [mkF]
  refine og (fun _ k => XS.istore X0.here hx rfl (hb hby at_252) rfl (l' := #[.val (.int p1), .val (.int p2), .val (.int p3), .val (.int p4), .val (.int p5), .val (.int (0 : Int32)), .val (.int c0), .val (.int c1), .val (.int c2), .val (.int c3), .val (.ref xs), .val (.ref xr), .val (.int (0 : Int32)), .val (.int (0 : Int32)), .val (.int (0 : Int32)), .unset]) rfl k) ?_
  refine og (fun _ k => XS.iload X0.here hx rfl (hb hby at_254) rfl k) ?_
  refine og (fun _ k => XS.iconst X0.here hx rfl (hb hby at_256) k) ?_
  refine og (fun _ k => XS.icmpYes X0.here hx rfl (pc0 := 257) (pc' := 270) rfl (hb hby at_257) rfl (tlt (by decide : (0 : Int32) < (4 : Int32))).1 (by decide) (by decide) k) ?_
  refine og (fun _ k => XS.iconst X0.here hx rfl (hb hby at_270) k) ?_
  try dsimp only [mkF]
  refine og (fun _ k => XS.istore X0.here hx rfl (hb hby at_271) rfl (l' := #[.val (.int p1), .val (.int p2), .val (.int p3), .val (.int p4), .val (.int p5), .val (.int (0 : Int32)), .val (.int c0), .val (.int c1), .val (.int c2), .val (.int c3), .val (.ref xs), .val (.ref xr), .val (.int (0 : Int32)), .val (.int (0 : Int32)), .val (.int (0 : Int32)), .val (.int (0 : Int32))]) rfl k) ?_
  refine og (fun _ k => XS.aload X0.here hx rfl (hb hby at_273) rfl rfl k) ?_
  obtain ⟨cq464, kq464, q464a, q464b, q464c⟩ := isOf hZ e0 E_xr
  obtain ⟨v464, _, ⟨T464, L464, k464, n464⟩, -, X464, ⟨Lc464, hQ464, l464, y464, z464⟩, st464⟩ := X0.virtualBack hx (y := (⟨"java/lang/String", "length", "()I"⟩ : MethodName)) (z := (⟨"java/lang/String", "length", "()I"⟩ : MethodName)) hown (mvT hZ (tw hw 106 rfl)) (mvT hZ (tw hw 45 rfl)) (notFace_of_selects (args := #[]) (mvT hZ (tw hw 47 rfl))) (mvT hZ (tw hw 47 rfl)) (mvT hZ (tw hw 46 rfl)) (by decide) (StrChars.Road.lenW (W := 0) hZ (own_wLen hw) (kI := 4) (tw hw 1 rfl) E_xr Fv_xr Fc_xr V_tr hC (hok.1) (O2.ext O1.2) P5 hok.2 (by decide) (by decide)) q464a q464c (g := (mkF m 275 #[.val (.int p1), .val (.int p2), .val (.int p3), .val (.int p4), .val (.int p5), .val (.int (0 : Int32)), .val (.int c0), .val (.int c1), .val (.int c2), .val (.int c3), .val (.ref xs), .val (.ref xr), .val (.int (0 : Int32)), .val (.int (0 : Int32)), .val (.int (0 : Int32)), .val (.int (0 : Int32))] [(.ref xr)])) rfl (by rw [hml]; rfl) (Steps.refl _) (argsL := []) (rest := []) (lenOf pd_9 rfl) rfl (by show 2 * 0 + _ ≤ _; exact Nat.le_of_eq rfl) (hb hby at_275) (fun _ _ => ⟨rfl, e0, (by decide : 26 + 0 ≤ _), (by decide : 628 + 0 ≤ _)⟩)
  dsimp only [Pt.U, Pt.locs, Pt.cells, Pt.slots] at X464 l464 y464 z464 st464 hQ464
  subst l464 y464 z464
  refine own_gos st464 ?_
  obtain ⟨rfl, rfl, e464⟩ := hQ464
  have Nq464 : Fr n0 ([] : List Loc) := Fr.nil n0
  have N464 := Fr.app N0 Nq464
  refine og (fun _ k => XS.iload X464.here hx rfl (hb hby at_278) rfl k) ?_
  refine og (fun _ k => XS.iload X464.here hx rfl (hb hby at_280) rfl k) ?_
  try dsimp only [mkF]
  refine og (fun _ k => XS.iadd X464.here hx rfl (hb hby at_282) rfl k) ?_
  refine og (fun _ k => XS.iload X464.here hx rfl (hb hby at_283) rfl k) ?_
  refine og (fun _ k => XS.iadd X464.here hx rfl (hb hby at_285) rfl k) ?_
  refine og (fun _ k => XS.iload X464.here hx rfl (hb hby at_286) rfl k) ?_
  refine og (fun _ k => XS.iadd X464.here hx rfl (hb hby at_288) rfl k) ?_
  try dsimp only [mkF]
  refine og (fun _ k => XS.icmpYes X464.here hx rfl (pc0 := 289) (pc' := 294) rfl (hb hby at_289) rfl (teq (by first | rfl | (simp only [Int32.add_zero, List.length_append, own_ofadd]; done) | simp [own_ofadd] : (Int32.ofNat ([] : List Int32).length) = (0 : Int32))).1 (by decide) (by decide) k) ?_
  refine og (fun _ k => XS.iload X464.here hx rfl (hb hby at_294) rfl k) ?_
  refine og (fun _ k => XS.iconst X464.here hx rfl (hb hby at_296) k) ?_
  refine og (fun _ k => XS.icmpYes X464.here hx rfl (pc0 := 297) (pc' := 323) rfl (hb hby at_297) rfl (tlt (by decide : (0 : Int32) < (1 : Int32))).1 (by decide) (by decide) k) ?_
  refine og (fun _ k => XS.iload X464.here hx rfl (hb hby at_323) rfl k) ?_
  try dsimp only [mkF]
  refine og (fun _ k => XS.iconst X464.here hx rfl (hb hby at_325) k) ?_
  refine og (fun _ k => XS.icmpYes X464.here hx rfl (pc0 := 326) (pc' := 353) rfl (hb hby at_326) rfl (tlt (by decide : (0 : Int32) < (2 : Int32))).1 (by decide) (by decide) k) ?_
  refine og (fun _ k => XS.iload X464.here hx rfl (hb hby at_353) rfl k) ?_
  refine og (fun _ k => XS.iconst X464.here hx rfl (hb hby at_355) k) ?_
  refine og (fun _ k => XS.icmpYes X464.here hx rfl (pc0 := 356) (pc' := 386) rfl (hb hby at_356) rfl (tlt (by decide : (0 : Int32) < (3 : Int32))).1 (by decide) (by decide) k) ?_
  try dsimp only [mkF]
  refine og (fun _ k => XS.iload X464.here hx rfl (hb hby at_386) rfl k) ?_
  refine og (fun _ k => XS.iconst X464.here hx rfl (hb hby at_388) k) ?_
  refine og (fun _ k => XS.icmpYes X464.here hx rfl (pc0 := 389) (pc' := 412) rfl (hb hby at_389) rfl (tlt (by decide : (0 : Int32) < (4 : Int32))).1 (by decide) (by decide) k) ?_
  refine og (fun _ k => XS.iconst X464.here hx rfl (hb hby at_412) k) ?_
  refine og (fun _ k => XS.goto X464.here hx rfl (pc0 := 413) (pc' := 417) rfl (hb hby at_413) (by decide) (by decide) k) ?_
  try dsimp only [mkF]
  refine own_finW (v := (some (.int (nar .boolean (1 : Int32))))) X464 hh hZ hS0 (by rw [e464]; exact hk0) (fun h => by rw [hrt] at h; cases h) hlk (fun fs hr => retN X464 hx (t := .boolean) hrt (by simp) (hb hby at_417) hr) (QQ := QQ0 n0) ?_ own_hEL e464 (C0) (by decide) (by decide)
  rw [e464]
  exact ⟨rfl, N464⟩

theorem pd_41 : parseMethodDescriptor "([C)V" = some ⟨[(.array .char)], none⟩ := by decide +kernel
theorem pd_42 : parseMethodDescriptor "(Ljava/lang/String;)Ljava/lang/String;" = some ⟨[(.object "java/lang/String")], some (.object "java/lang/String")⟩ := by decide +kernel
set_option maxRecDepth 65536 in
set_option maxHeartbeats 40000000 in
theorem own_fst0 (l : Launch) (Z : State) (a0 : Array Value) (hw : ∀ d ∈ tables_1, d.before a0 Z = true) (p1 p2 p3 p4 p5 c0 c1 c2 c3 G1 : Int32) (G3 : Value) (h0 : Heap) (n0 : Nat) {p : Program} {e : Env} {s : State} {vm0 : Vm} {m : MethodId} {below : List Frame} {meth : Method} {cC : Code} {T0 : State} {locs : List Loc} (X0 : Stand p l e room_1 (s.setVm vm0) m #[(.int p1), (.int p2), (.int p3), (.int p4), (.int p5)] below meth cC T0 locs 0 0) (hx : p.tables.exec = Jvm.exec) (hby : cC.code = code) (hml : cC.maxLocals = maxLocals) (hown : (s.setVm vm0).vm.findClass "com/example/rolelattice/rolelattice/decision/DistinguishedNameEscapeValuePinLaw" = some m.cls) (hZ : Z.Warmed39 (s.setVm vm0).vm) (hrt : meth.sig.returnType = ret) (hlk : meth.locks = false) (h1 : Heap) (e0 : T0.heap = h1) (N0 : Fr n0 locs) (Z0 : n0 ≤ h1.size) (O1 : Old Z n0 h1) (hh : s.heap = h0) {k0 : Nat} (hS0 : s.Since vm0 k0) (hk0 : k0 ≤ h1.size) (C0 : CHr Z own_EL s.vm h0 vm0 h1) (O2 : Sta Z Z.heap "java/lang/String" "COMPACT_STRINGS" "Z" (.int G1)) (P5 : ¬ (G1 = (0 : Int32))) (O4 : Sta Z Z.heap "jdk/internal/util/Preconditions" "SIOOBE_FORMATTER" "Ljava/util/function/BiFunction;" G3) (rG3 : G3.isRef = true) (OA : Sta Z Z.heap "java/lang/StringUTF16" "$assertionsDisabled" "Z" (.int (1 : Int32))) (OH : Sta Z Z.heap "java/lang/StringUTF16" "HI_BYTE_SHIFT" "I" (.int (0 : Int32))) (OL : Sta Z Z.heap "java/lang/StringUTF16" "LO_BYTE_SHIFT" "I" (.int (8 : Int32))) (b_c0 : ¬ c0 < 0 ∧ ¬ (65535 : Int32) < c0) (b_c1 : ¬ c1 < 0 ∧ ¬ (65535 : Int32) < c1) (b_c2 : ¬ c2 < 0 ∧ ¬ (65535 : Int32) < c2) (b_c3 : ¬ c3 < 0 ∧ ¬ (65535 : Int32) < c3) :
    own_Go p e below (T0.setTop (mkF m 25 #[.val (.int p1), .val (.int p2), .val (.int p3), .val (.int p4), .val (.int p5), .val (.int (0 : Int32)), .val (.int c0), .val (.int c1), .val (.int c2), .val (.int c3), .unset, .unset, .unset, .unset, .unset, .unset] [])) (fun oO U' => ∃ rV rL, oO = .returned rV ∧ QQ0 n0 rV U'.heap rL ∧ CHr Z own_EL s.vm s.heap U'.vm U'.heap ∧ ReturnedEndW s oO U' rL 32 3328) := by
  have own_wS := own_wSt hw
  have own_hEL := own_hELt hw
  refine og (fun _ k => XS.iload X0.here hx rfl (hb hby at_25) rfl k) ?_
  refine og (fun _ k => XS.ifNo X0.here hx rfl (hb hby at_27) rfl ((if0 _ _).trans (teq (by decide : (0 : Int32) = (0 : Int32))).2) k) ?_
  obtain ⟨T465, h465, X465, e465, E465, A465, D465, U465, st465⟩ := newO X0 hx hZ hown (tw hw 0 rfl) (tw hw 1 rfl) (tw hw 2 rfl) e0 (g := (mkF m 30 #[.val (.int p1), .val (.int p2), .val (.int p3), .val (.int p4), .val (.int p5), .val (.int (0 : Int32)), .val (.int c0), .val (.int c1), .val (.int c2), .val (.int c3), .unset, .unset, .unset, .unset, .unset, .unset] [])) rfl (hb hby at_30) (by decide) (by decide)
  obtain ⟨b465, g465⟩ : ∃ z, z = h1.size := ⟨_, rfl⟩
  rw [← g465] at A465 D465 U465 st465
  refine own_go st465 ?_
  have C466 := C0.trans (CHr.ext E465 C0.1)
  have F465_value : Fld Z h465 b465 "java/lang/String" "value" "[B" .null := D465 (Or.inr (tw hw 16 rfl)) (ty := (.array .byte)) (by decide)
  have F465_coder : Fld Z h465 b465 "java/lang/String" "coder" "B" (.int (0 : Int32)) := D465 (Or.inr (tw hw 17 rfl)) (ty := .byte) (by decide)
  refine og (fun _ k => XS.dup X465.here hx rfl (hb hby at_33) rfl rfl k) ?_
  try dsimp only [mkF]
  refine og (fun _ k => XS.iconst X465.here hx rfl (hb hby at_34) k) ?_
  obtain ⟨T467, h467, k467, X467, e467, E467, A467, st467⟩ := newP X465 hx hZ (tw hw 3 rfl) e465 (g := (mkF m 35 #[.val (.int p1), .val (.int p2), .val (.int p3), .val (.int p4), .val (.int p5), .val (.int (0 : Int32)), .val (.int c0), .val (.int c1), .val (.int c2), .val (.int c3), .unset, .unset, .unset, .unset, .unset, .unset] [(.int (0 : Int32)), (.ref b465), (.ref b465)])) rfl (hb hby at_35) rfl (by decide) (cap := 0) (by decide) (by decide) (by decide) (by decide)
  obtain ⟨b467, g467⟩ : ∃ z, z = h465.size := ⟨_, rfl⟩
  rw [← g467] at A467 st467
  refine own_go st467 ?_
  have C468 := C466.trans (CHr.ext E467 C466.1)
  have V467 : Arv Z h467 b467 k467 .char (0 : Int32) [] (.int (0 : Int32)) := (Arv.new A467 (by decide)).pad (pad_rep [] (.int (0 : Int32)) 0)
  obtain ⟨v469, _, ⟨T469, L469, k469, n469⟩, -, X469, hS469, hg469, ⟨Lc469, hQ469, l469, y469, z469, A469⟩, st469⟩ := X467.specialBackS hx (y := (⟨"java/lang/String", "<init>", "([C)V"⟩ : MethodName)) rfl hown (mvT hZ (tw hw 4 rfl)) (mvT hZ (tw hw 5 rfl)) (mvT hZ (tw hw 6 rfl)) (by decide) (backOfSH (W := 1) (rm_i1e l Z a0 hw [] b465 b467 k467 h467 n0 ((O1.ext E465).ext E467) (A465.ext E467) (F465_value.ext E467) (F465_coder.ext E467) (Nat.le_trans Z0 (Nat.le_of_eq g465.symm)) V467) hZ (tw hw 6 rfl) (tw hw 2 rfl) (by decide) (by decide) own_hEL C468.1) (g := (mkF m 37 #[.val (.int p1), .val (.int p2), .val (.int p3), .val (.int p4), .val (.int p5), .val (.int (0 : Int32)), .val (.int c0), .val (.int c1), .val (.int c2), .val (.int c3), .unset, .unset, .unset, .unset, .unset, .unset] [(.ref b467), (.ref b465), (.ref b465)])) rfl (by rw [hml]; rfl) (Steps.refl _) (a := b465) (argsL := [(.ref b467)]) (rest := [(.ref b465)]) (lenOf pd_41 rfl) rfl (by show 2 * 0 + _ ≤ _; exact Nat.le_of_eq rfl) (hb hby at_37) (fun _ _ => ⟨rfl, e467, (by decide : 2 + 4 ≤ _), (by decide : 4 + 8 ≤ _)⟩)
  dsimp only [Pt.U, Pt.locs, Pt.cells, Pt.slots] at X469 l469 y469 z469 st469 hQ469 hS469 hg469 A469
  subst l469 y469 z469
  refine own_gos st469 ?_
  obtain ⟨X469, hS469, hZ469, hown469⟩ := rebS hS0 (k0 := _) (n1 := T467.heap.size) (by rw [e467]; exact (Nat.le_trans hk0 (Nat.le_trans E465.1 E467.1))) X469 hS469 hg469 hZ hown
  obtain ⟨t469, kt469, rfl, Nq469, K469, Fv469, Fc469, Vt469⟩ := hQ469
  have C470 := C468.trans A469
  have N469 := Fr.app N0 Nq469
  refine og (fun _ k => XS.astore X469.here hx rfl (hb hby at_40) rfl rfl (l' := #[.val (.int p1), .val (.int p2), .val (.int p3), .val (.int p4), .val (.int p5), .val (.int (0 : Int32)), .val (.int c0), .val (.int c1), .val (.int c2), .val (.int c3), .val (.ref b465), .unset, .unset, .unset, .unset, .unset]) rfl k) ?_
  refine og (fun _ k => XS.goto X469.here hx rfl (pc0 := 42) (pc' := 160) rfl (hb hby at_42) (by decide) (by decide) k) ?_
  try dsimp only [mkF]
  refine og (fun _ k => XS.aload X469.here hx rfl (hb hby at_160) rfl rfl k) ?_
  have f471 := ((A465.ext E467).keep K469)
  have f472 := (((O1.ext E465).ext E467).keep K469 (allS (Nat.le_trans Z0 (Nat.le_of_eq g465.symm)) all0))
  obtain ⟨v473, _, ⟨T473, L473, k473, n473⟩, -, X473, hS473, hg473, ⟨Lc473, hQ473, l473, y473, z473, A473⟩, st473⟩ := callSS X469 hx (y := (⟨"com/example/rolelattice/rolelattice/decision/DistinguishedName", "escapeValue", "(Ljava/lang/String;)Ljava/lang/String;"⟩ : MethodName)) hown469 (mvT hZ469 (tw hw 22 rfl)) (mvT hZ469 (tw hw 23 rfl)) (mvT hZ469 (tw hw 24 rfl)) (mvT hZ469 (tw hw 25 rfl)) (by decide) (backOfSH (W := 0) (rm_esc l Z a0 hw [] b465 t469 kt469 ([] : List Int32) (0 : Int32) (0 : Int32) [] G1 G3 T469.heap n0 f472 O2 P5 O4 rG3 OA OH OL f471 Fv469 Fc469 Vt469 own_cod0 (own_okL0) (Nat.le_of_ble_eq_true rfl)) hZ469 (tw hw 25 rfl) (tw hw 24 rfl) (by decide) (by decide) own_hEL C470.1) (g := (mkF m 162 #[.val (.int p1), .val (.int p2), .val (.int p3), .val (.int p4), .val (.int p5), .val (.int (0 : Int32)), .val (.int c0), .val (.int c1), .val (.int c2), .val (.int c3), .val (.ref b465), .unset, .unset, .unset, .unset, .unset] [(.ref b465)])) rfl (by rw [hml]; rfl) (argsL := [(.ref b465)]) (rest := []) (lenOf pd_42 rfl) rfl (by show 2 * 0 + _ ≤ _; exact Nat.le_of_eq rfl) (hb hby at_162) (fun _ _ => ⟨rfl, (rfl : T469.heap = T469.heap), (by decide : 6 + 20 ≤ _), (by decide : 12 + 616 ≤ _)⟩)
  dsimp only [Pt.U, Pt.locs, Pt.cells, Pt.slots] at X473 l473 y473 z473 st473 hQ473 hS473 hg473 A473
  subst l473 y473 z473
  refine own_gos st473 ?_
  obtain ⟨X473, hS473, hZ473, hown473⟩ := rebS hS469 (k0 := _) (n1 := T469.heap.size) (by rw [(rfl : T469.heap = T469.heap)]; exact (Nat.le_refl _)) X473 hS473 hg473 hZ469 hown469
  obtain ⟨x473, t473, kt473, cd473, N2473, vs473, rfl, Nq473, K473, xg473, Ex473, Fv473, Fc473, Vt473, hC473⟩ := hQ473
  have C474 := C470.trans A473
  have N473 := Fr.app N469 Nq473
  refine og (fun _ k => XS.astore X473.here hx rfl (hb hby at_165) rfl rfl (l' := #[.val (.int p1), .val (.int p2), .val (.int p3), .val (.int p4), .val (.int p5), .val (.int (0 : Int32)), .val (.int c0), .val (.int c1), .val (.int c2), .val (.int c3), .val (.ref b465), .val (.ref x473), .unset, .unset, .unset, .unset]) rfl k) ?_
  show own_Go p e below (T473.setTop (mkF m 167 #[.val (.int p1), .val (.int p2), .val (.int p3), .val (.int p4), .val (.int p5), .val (.int (0 : Int32)), .val (.int c0), .val (.int c1), .val (.int c2), .val (.int c3), .val (.ref b465), .val (.ref x473), .unset, .unset, .unset, .unset] [])) _
  have z475 := (Nat.le_trans (Nat.le_trans (Nat.le_trans E465.1 E467.1) K469.1) K473.1)
  exact own_mid0 l Z a0 hw p1 p2 p3 p4 p5 c0 c1 c2 c3 b465 x473 t473 kt473 cd473 N2473 vs473 G1 G3 h0 n0 X473 hx hby hml hown473 hZ473 hrt hlk T473.heap (rfl : T473.heap = T473.heap) N473 (Nat.le_trans Z0 z475) (f472.keep K473 all0) hh hS473 (Nat.le_refl _) C474 Ex473 Fv473 Fc473 Vt473 O2 P5 O4 rG3 OA OH OL (Eq.mp (congrArg (fun z => StrChars.Road.CodA z cd473 N2473 vs473) (own_escK0)) hC473) (Eq.mp (congrArg own_Ok (own_escK0)) (own_escOk (own_okL0) (Nat.le_of_ble_eq_true rfl) (Nat.le_refl _)))

theorem pd_43 : parseMethodDescriptor "(CZZ)I" = some ⟨[.char, .boolean, .boolean], some .int⟩ := by decide +kernel
theorem pd_44 : parseMethodDescriptor "(Ljava/lang/String;ICZZ)Z" = some ⟨[(.object "java/lang/String"), .int, .char, .boolean, .boolean], some .boolean⟩ := by decide +kernel
set_option maxRecDepth 65536 in
set_option maxHeartbeats 40000000 in
theorem own_mid1 (l : Launch) (Z : State) (a0 : Array Value) (hw : ∀ d ∈ tables_1, d.before a0 Z = true) (p1 p2 p3 p4 p5 c0 c1 c2 c3 : Int32) (xs xr tr : Addr) (kr : ClassId) (cdr N2r : Int32) (vsr : List Value) (G1 : Int32) (G3 : Value) (h0 : Heap) (n0 : Nat) {p : Program} {e : Env} {s : State} {vm0 : Vm} {m : MethodId} {below : List Frame} {meth : Method} {cC : Code} {T0 : State} {locs : List Loc} (X0 : Stand p l e room_1 (s.setVm vm0) m #[(.int p1), (.int p2), (.int p3), (.int p4), (.int p5)] below meth cC T0 locs 22 622) (hx : p.tables.exec = Jvm.exec) (hby : cC.code = code) (hml : cC.maxLocals = maxLocals) (hown : (s.setVm vm0).vm.findClass "com/example/rolelattice/rolelattice/decision/DistinguishedNameEscapeValuePinLaw" = some m.cls) (hZ : Z.Warmed39 (s.setVm vm0).vm) (hrt : meth.sig.returnType = ret) (hlk : meth.locks = false) (h1 : Heap) (e0 : T0.heap = h1) (N0 : Fr n0 locs) (Z0 : n0 ≤ h1.size) (O1 : Old Z n0 h1) (hh : s.heap = h0) {k0 : Nat} (hS0 : s.Since vm0 k0) (hk0 : k0 ≤ h1.size) (C0 : CHr Z own_EL s.vm h0 vm0 h1) (E_xr : Exa Z h1 xr "java/lang/String") (Fv_xr : Fld Z h1 xr "java/lang/String" "value" "[B" (.ref tr)) (Fc_xr : Fld Z h1 xr "java/lang/String" "coder" "B" (.int cdr)) (V_tr : Arv Z h1 tr kr .byte N2r vsr (.int (0 : Int32))) (O2 : Sta Z Z.heap "java/lang/String" "COMPACT_STRINGS" "Z" (.int G1)) (P5 : ¬ (G1 = (0 : Int32))) (O4 : Sta Z Z.heap "jdk/internal/util/Preconditions" "SIOOBE_FORMATTER" "Ljava/util/function/BiFunction;" G3) (rG3 : G3.isRef = true) (OA : Sta Z Z.heap "java/lang/StringUTF16" "$assertionsDisabled" "Z" (.int (1 : Int32))) (OH : Sta Z Z.heap "java/lang/StringUTF16" "HI_BYTE_SHIFT" "I" (.int (0 : Int32))) (OL : Sta Z Z.heap "java/lang/StringUTF16" "LO_BYTE_SHIFT" "I" (.int (8 : Int32))) (hC : StrChars.Road.CodA (own_ex c0 (1 : Int32) (1 : Int32)) cdr N2r vsr) (hok : own_Ok (own_ex c0 (1 : Int32) (1 : Int32))) :
    own_Go p e below (T0.setTop (mkF m 167 #[.val (.int p1), .val (.int p2), .val (.int p3), .val (.int p4), .val (.int p5), .val (.int (1 : Int32)), .val (.int c0), .val (.int c1), .val (.int c2), .val (.int c3), .val (.ref xs), .val (.ref xr), .unset, .unset, .unset, .unset] [])) (fun oO U' => ∃ rV rL, oO = .returned rV ∧ QQ0 n0 rV U'.heap rL ∧ CHr Z own_EL s.vm s.heap U'.vm U'.heap ∧ ReturnedEndW s oO U' rL 32 3328) := by
  have own_wS := own_wSt hw
  have own_hEL := own_hELt hw
  refine og (fun _ k => XS.iload X0.here hx rfl (hb hby at_167) rfl k) ?_
  refine og (fun _ k => XS.iconst X0.here hx rfl (hb hby at_169) k) ?_
  refine og (fun _ k => XS.icmpNo X0.here hx rfl (hb hby at_170) rfl (flt (by decide : ¬ ((1 : Int32) < (1 : Int32)))).1 k) ?_
  refine og (fun _ k => XS.iload X0.here hx rfl (hb hby at_173) rfl k) ?_
  try dsimp only [mkF]
  refine og (fun _ k => XS.iconst X0.here hx rfl (hb hby at_175) k) ?_
  refine og (fun _ k => XS.iload X0.here hx rfl (hb hby at_176) rfl k) ?_
  refine og (fun _ k => XS.iconst X0.here hx rfl (hb hby at_178) k) ?_
  refine og (fun _ k => XS.icmpNo X0.here hx rfl (hb hby at_179) rfl (teq (by decide : (1 : Int32) = (1 : Int32))).2 k) ?_
  refine og (fun _ k => XS.iconst X0.here hx rfl (hb hby at_182) k) ?_
  try dsimp only [mkF]
  refine og (fun _ k => XS.goto X0.here hx rfl (pc0 := 183) (pc' := 187) rfl (hb hby at_183) (by decide) (by decide) k) ?_
  obtain ⟨v476, _, ⟨T476, L476, k476, n476⟩, -, X476, ⟨Lc476, hQ476, l476, y476, z476⟩, st476⟩ := Jvm.LawKit.callS X0 hx (y := (⟨"com/example/rolelattice/rolelattice/decision/DistinguishedNameEscapeValuePinLaw", "width", "(CZZ)I"⟩ : MethodName)) hown (mvT hZ (tw hw 182 rfl)) (mvT hZ (tw hw 183 rfl)) (mvT hZ (tw hw 184 rfl)) (mvT hZ (tw hw 185 rfl)) (by decide) (backOf (W := 0) (rm_wd l Z a0 hw [] c0 (1 : Int32) (1 : Int32) h1 n0 O1 ) hZ (tw hw 185 rfl) (tw hw 184 rfl) (by decide) (by decide)) (g := (mkF m 187 #[.val (.int p1), .val (.int p2), .val (.int p3), .val (.int p4), .val (.int p5), .val (.int (1 : Int32)), .val (.int c0), .val (.int c1), .val (.int c2), .val (.int c3), .val (.ref xs), .val (.ref xr), .unset, .unset, .unset, .unset] [(.int (1 : Int32)), (.int (1 : Int32)), (.int c0)])) rfl (by rw [hml]; rfl) (argsL := [(.int c0), (.int (1 : Int32)), (.int (1 : Int32))]) (rest := []) (lenOf pd_43 rfl) rfl (by show 2 * 0 + _ ≤ _; exact Nat.le_of_eq rfl) (hb hby at_187) (fun _ _ => ⟨rfl, e0, (by decide : 22 + 0 ≤ _), (by decide : 622 + 0 ≤ _)⟩)
  dsimp only [Pt.U, Pt.locs, Pt.cells, Pt.slots] at X476 l476 y476 z476 st476 hQ476
  subst l476 y476 z476
  refine own_go st476 ?_
  obtain ⟨rfl, Nq476, e476⟩ := hQ476
  have N476 := Fr.app N0 Nq476
  refine og (fun _ k => XS.goto X476.here hx rfl (pc0 := 190) (pc' := 194) rfl (hb hby at_190) (by decide) (by decide) k) ?_
  refine og (fun _ k => XS.istore X476.here hx rfl (hb hby at_194) rfl (l' := #[.val (.int p1), .val (.int p2), .val (.int p3), .val (.int p4), .val (.int p5), .val (.int (1 : Int32)), .val (.int c0), .val (.int c1), .val (.int c2), .val (.int c3), .val (.ref xs), .val (.ref xr), .val (.int (Int32.ofNat (own_ex c0 (1 : Int32) (1 : Int32)).length)), .unset, .unset, .unset]) rfl k) ?_
  refine og (fun _ k => XS.iload X476.here hx rfl (hb hby at_196) rfl k) ?_
  try dsimp only [mkF]
  refine og (fun _ k => XS.iconst X476.here hx rfl (hb hby at_198) k) ?_
  refine og (fun _ k => XS.icmpYes X476.here hx rfl (pc0 := 199) (pc' := 222) rfl (hb hby at_199) rfl (tlt (by decide : (1 : Int32) < (2 : Int32))).1 (by decide) (by decide) k) ?_
  refine og (fun _ k => XS.iconst X476.here hx rfl (hb hby at_222) k) ?_
  refine og (fun _ k => XS.istore X476.here hx rfl (hb hby at_223) rfl (l' := #[.val (.int p1), .val (.int p2), .val (.int p3), .val (.int p4), .val (.int p5), .val (.int (1 : Int32)), .val (.int c0), .val (.int c1), .val (.int c2), .val (.int c3), .val (.ref xs), .val (.ref xr), .val (.int (Int32.ofNat (own_ex c0 (1 : Int32) (1 : Int32)).length)), .val (.int (0 : Int32)), .unset, .unset]) rfl k) ?_
  refine og (fun _ k => XS.iload X476.here hx rfl (hb hby at_225) rfl k) ?_
  try dsimp only [mkF]
  refine og (fun _ k => XS.iconst X476.here hx rfl (hb hby at_227) k) ?_
  refine og (fun _ k => XS.icmpYes X476.here hx rfl (pc0 := 228) (pc' := 251) rfl (hb hby at_228) rfl (tlt (by decide : (1 : Int32) < (3 : Int32))).1 (by decide) (by decide) k) ?_
  refine og (fun _ k => XS.iconst X476.here hx rfl (hb hby at_251) k) ?_
  refine og (fun _ k => XS.istore X476.here hx rfl (hb hby at_252) rfl (l' := #[.val (.int p1), .val (.int p2), .val (.int p3), .val (.int p4), .val (.int p5), .val (.int (1 : Int32)), .val (.int c0), .val (.int c1), .val (.int c2), .val (.int c3), .val (.ref xs), .val (.ref xr), .val (.int (Int32.ofNat (own_ex c0 (1 : Int32) (1 : Int32)).length)), .val (.int (0 : Int32)), .val (.int (0 : Int32)), .unset]) rfl k) ?_
  refine og (fun _ k => XS.iload X476.here hx rfl (hb hby at_254) rfl k) ?_
  try dsimp only [mkF]
  refine og (fun _ k => XS.iconst X476.here hx rfl (hb hby at_256) k) ?_
  refine og (fun _ k => XS.icmpYes X476.here hx rfl (pc0 := 257) (pc' := 270) rfl (hb hby at_257) rfl (tlt (by decide : (1 : Int32) < (4 : Int32))).1 (by decide) (by decide) k) ?_
  refine og (fun _ k => XS.iconst X476.here hx rfl (hb hby at_270) k) ?_
  refine og (fun _ k => XS.istore X476.here hx rfl (hb hby at_271) rfl (l' := #[.val (.int p1), .val (.int p2), .val (.int p3), .val (.int p4), .val (.int p5), .val (.int (1 : Int32)), .val (.int c0), .val (.int c1), .val (.int c2), .val (.int c3), .val (.ref xs), .val (.ref xr), .val (.int (Int32.ofNat (own_ex c0 (1 : Int32) (1 : Int32)).length)), .val (.int (0 : Int32)), .val (.int (0 : Int32)), .val (.int (0 : Int32))]) rfl k) ?_
  refine og (fun _ k => XS.aload X476.here hx rfl (hb hby at_273) rfl rfl k) ?_
  try dsimp only [mkF]
  obtain ⟨cq477, kq477, q477a, q477b, q477c⟩ := isOf hZ e476 E_xr
  obtain ⟨v477, _, ⟨T477, L477, k477, n477⟩, -, X477, ⟨Lc477, hQ477, l477, y477, z477⟩, st477⟩ := X476.virtualBack hx (y := (⟨"java/lang/String", "length", "()I"⟩ : MethodName)) (z := (⟨"java/lang/String", "length", "()I"⟩ : MethodName)) hown (mvT hZ (tw hw 106 rfl)) (mvT hZ (tw hw 45 rfl)) (notFace_of_selects (args := #[]) (mvT hZ (tw hw 47 rfl))) (mvT hZ (tw hw 47 rfl)) (mvT hZ (tw hw 46 rfl)) (by decide) (StrChars.Road.lenW (W := 0) hZ (own_wLen hw) (kI := 4) (tw hw 1 rfl) E_xr Fv_xr Fc_xr V_tr hC (hok.1) (O2.ext O1.2) P5 hok.2 (by decide) (by decide)) q477a q477c (g := (mkF m 275 #[.val (.int p1), .val (.int p2), .val (.int p3), .val (.int p4), .val (.int p5), .val (.int (1 : Int32)), .val (.int c0), .val (.int c1), .val (.int c2), .val (.int c3), .val (.ref xs), .val (.ref xr), .val (.int (Int32.ofNat (own_ex c0 (1 : Int32) (1 : Int32)).length)), .val (.int (0 : Int32)), .val (.int (0 : Int32)), .val (.int (0 : Int32))] [(.ref xr)])) rfl (by rw [hml]; rfl) (Steps.refl _) (argsL := []) (rest := []) (lenOf pd_9 rfl) rfl (by show 2 * 0 + _ ≤ _; exact Nat.le_of_eq rfl) (hb hby at_275) (fun _ _ => ⟨rfl, e476, (by decide : 22 + 0 ≤ _), (by decide : 622 + 0 ≤ _)⟩)
  dsimp only [Pt.U, Pt.locs, Pt.cells, Pt.slots] at X477 l477 y477 z477 st477 hQ477
  subst l477 y477 z477
  refine own_gos st477 ?_
  obtain ⟨rfl, rfl, e477⟩ := hQ477
  have Nq477 : Fr n0 ([] : List Loc) := Fr.nil n0
  have N477 := Fr.app N476 Nq477
  refine og (fun _ k => XS.iload X477.here hx rfl (hb hby at_278) rfl k) ?_
  refine og (fun _ k => XS.iload X477.here hx rfl (hb hby at_280) rfl k) ?_
  refine og (fun _ k => XS.iadd X477.here hx rfl (hb hby at_282) rfl k) ?_
  refine og (fun _ k => XS.iload X477.here hx rfl (hb hby at_283) rfl k) ?_
  try dsimp only [mkF]
  refine og (fun _ k => XS.iadd X477.here hx rfl (hb hby at_285) rfl k) ?_
  refine og (fun _ k => XS.iload X477.here hx rfl (hb hby at_286) rfl k) ?_
  refine og (fun _ k => XS.iadd X477.here hx rfl (hb hby at_288) rfl k) ?_
  refine og (fun _ k => XS.icmpYes X477.here hx rfl (pc0 := 289) (pc' := 294) rfl (hb hby at_289) rfl (teq (by first | rfl | (simp only [Int32.add_zero, List.length_append, own_ofadd]; done) | simp [own_ofadd] : (Int32.ofNat (own_ex c0 (1 : Int32) (1 : Int32)).length) = ((((Int32.ofNat (own_ex c0 (1 : Int32) (1 : Int32)).length) + (0 : Int32)) + (0 : Int32)) + (0 : Int32)))).1 (by decide) (by decide) k) ?_
  refine og (fun _ k => XS.iload X477.here hx rfl (hb hby at_294) rfl k) ?_
  try dsimp only [mkF]
  refine og (fun _ k => XS.iconst X477.here hx rfl (hb hby at_296) k) ?_
  refine og (fun _ k => XS.icmpNo X477.here hx rfl (hb hby at_297) rfl (flt (by decide : ¬ ((1 : Int32) < (1 : Int32)))).1 k) ?_
  refine og (fun _ k => XS.aload X477.here hx rfl (hb hby at_300) rfl rfl k) ?_
  refine og (fun _ k => XS.iconst X477.here hx rfl (hb hby at_302) k) ?_
  show own_Go p e below (T477.setTop (mkF m 303 #[.val (.int p1), .val (.int p2), .val (.int p3), .val (.int p4), .val (.int p5), .val (.int (1 : Int32)), .val (.int c0), .val (.int c1), .val (.int c2), .val (.int c3), .val (.ref xs), .val (.ref xr), .val (.int (Int32.ofNat (own_ex c0 (1 : Int32) (1 : Int32)).length)), .val (.int (0 : Int32)), .val (.int (0 : Int32)), .val (.int (0 : Int32))] [(.int (Int32.ofNat 0)), (.ref xr)])) _
  refine og (fun _ k => XS.iload X477.here hx rfl (hb hby at_303) rfl k) ?_
  try dsimp only [mkF]
  refine og (fun _ k => XS.iconst X477.here hx rfl (hb hby at_305) k) ?_
  refine og (fun _ k => XS.iload X477.here hx rfl (hb hby at_306) rfl k) ?_
  refine og (fun _ k => XS.iconst X477.here hx rfl (hb hby at_308) k) ?_
  refine og (fun _ k => XS.icmpNo X477.here hx rfl (hb hby at_309) rfl (teq (by decide : (1 : Int32) = (1 : Int32))).2 k) ?_
  refine og (fun _ k => XS.iconst X477.here hx rfl (hb hby at_312) k) ?_
  try dsimp only [mkF]
  refine og (fun _ k => XS.goto X477.here hx rfl (pc0 := 313) (pc' := 317) rfl (hb hby at_313) (by decide) (by decide) k) ?_
  obtain ⟨v478, _, ⟨T478, L478, k478, n478⟩, -, X478, ⟨Lc478, hQ478, l478, y478, z478⟩, st478⟩ := Jvm.LawKit.callS X477 hx (y := (⟨"com/example/rolelattice/rolelattice/decision/DistinguishedNameEscapeValuePinLaw", "check", "(Ljava/lang/String;ICZZ)Z"⟩ : MethodName)) hown (mvT hZ (tw hw 189 rfl)) (mvT hZ (tw hw 190 rfl)) (mvT hZ (tw hw 184 rfl)) (mvT hZ (tw hw 191 rfl)) (by decide) (backOf (W := 0) (rm_chk l Z a0 hw [] xr tr kr (own_ex c0 (1 : Int32) (1 : Int32)) cdr N2r vsr 0 c0 (1 : Int32) (1 : Int32) G1 G3 h1 n0 O1 O2 P5 O4 rG3 OA OH OL E_xr Fv_xr Fc_xr V_tr hC hok (own_le2 (show (own_ex c0 (1 : Int32) (1 : Int32)) = ([] : List Int32) ++ (own_ex c0 (1 : Int32) (1 : Int32)) ++ ([] : List Int32) from by simp) (show 0 = ([] : List Int32).length from by first | rfl | simp only [List.length_append])) (own_at2 (show (own_ex c0 (1 : Int32) (1 : Int32)) = ([] : List Int32) ++ (own_ex c0 (1 : Int32) (1 : Int32)) ++ ([] : List Int32) from by simp) (show 0 = ([] : List Int32).length from by first | rfl | simp only [List.length_append]))) hZ (tw hw 191 rfl) (tw hw 184 rfl) (by decide) (by decide)) (g := (mkF m 317 #[.val (.int p1), .val (.int p2), .val (.int p3), .val (.int p4), .val (.int p5), .val (.int (1 : Int32)), .val (.int c0), .val (.int c1), .val (.int c2), .val (.int c3), .val (.ref xs), .val (.ref xr), .val (.int (Int32.ofNat (own_ex c0 (1 : Int32) (1 : Int32)).length)), .val (.int (0 : Int32)), .val (.int (0 : Int32)), .val (.int (0 : Int32))] [(.int (1 : Int32)), (.int (1 : Int32)), (.int c0), (.int (Int32.ofNat 0)), (.ref xr)])) rfl (by rw [hml]; rfl) (argsL := [(.ref xr), (.int (Int32.ofNat 0)), (.int c0), (.int (1 : Int32)), (.int (1 : Int32))]) (rest := []) (lenOf pd_44 rfl) rfl (by show 2 * 0 + _ ≤ _; exact Nat.le_of_eq rfl) (hb hby at_317) (fun _ _ => ⟨rfl, e477, (by decide : 22 + 0 ≤ _), (by decide : 622 + 0 ≤ _)⟩)
  dsimp only [Pt.U, Pt.locs, Pt.cells, Pt.slots] at X478 l478 y478 z478 st478 hQ478
  subst l478 y478 z478
  refine own_go st478 ?_
  obtain ⟨rfl, Nq478, e478⟩ := hQ478
  have N478 := Fr.app N477 Nq478
  refine og (fun _ k => XS.ifNo X478.here hx rfl (hb hby at_320) rfl ((if0 _ _).trans (feq (by decide : ¬ ((1 : Int32) = (0 : Int32)))).1) k) ?_
  refine og (fun _ k => XS.iload X478.here hx rfl (hb hby at_323) rfl k) ?_
  refine og (fun _ k => XS.iconst X478.here hx rfl (hb hby at_325) k) ?_
  try dsimp only [mkF]
  refine og (fun _ k => XS.icmpYes X478.here hx rfl (pc0 := 326) (pc' := 353) rfl (hb hby at_326) rfl (tlt (by decide : (1 : Int32) < (2 : Int32))).1 (by decide) (by decide) k) ?_
  refine og (fun _ k => XS.iload X478.here hx rfl (hb hby at_353) rfl k) ?_
  refine og (fun _ k => XS.iconst X478.here hx rfl (hb hby at_355) k) ?_
  refine og (fun _ k => XS.icmpYes X478.here hx rfl (pc0 := 356) (pc' := 386) rfl (hb hby at_356) rfl (tlt (by decide : (1 : Int32) < (3 : Int32))).1 (by decide) (by decide) k) ?_
  refine og (fun _ k => XS.iload X478.here hx rfl (hb hby at_386) rfl k) ?_
  try dsimp only [mkF]
  refine og (fun _ k => XS.iconst X478.here hx rfl (hb hby at_388) k) ?_
  refine og (fun _ k => XS.icmpYes X478.here hx rfl (pc0 := 389) (pc' := 412) rfl (hb hby at_389) rfl (tlt (by decide : (1 : Int32) < (4 : Int32))).1 (by decide) (by decide) k) ?_
  refine og (fun _ k => XS.iconst X478.here hx rfl (hb hby at_412) k) ?_
  refine og (fun _ k => XS.goto X478.here hx rfl (pc0 := 413) (pc' := 417) rfl (hb hby at_413) (by decide) (by decide) k) ?_
  refine own_finW (v := (some (.int (nar .boolean (1 : Int32))))) X478 hh hZ hS0 (by rw [e478]; exact hk0) (fun h => by rw [hrt] at h; cases h) hlk (fun fs hr => retN X478 hx (t := .boolean) hrt (by simp) (hb hby at_417) hr) (QQ := QQ0 n0) ?_ own_hEL e478 (C0) (by decide) (by decide)
  rw [e478]
  exact ⟨rfl, N478⟩

theorem pd_45 : parseMethodDescriptor "(C)Ljava/lang/String;" = some ⟨[.char], some (.object "java/lang/String")⟩ := by decide +kernel
set_option maxRecDepth 65536 in
set_option maxHeartbeats 40000000 in
theorem own_fst1 (l : Launch) (Z : State) (a0 : Array Value) (hw : ∀ d ∈ tables_1, d.before a0 Z = true) (p1 p2 p3 p4 p5 c0 c1 c2 c3 G1 : Int32) (G3 : Value) (h0 : Heap) (n0 : Nat) {p : Program} {e : Env} {s : State} {vm0 : Vm} {m : MethodId} {below : List Frame} {meth : Method} {cC : Code} {T0 : State} {locs : List Loc} (X0 : Stand p l e room_1 (s.setVm vm0) m #[(.int p1), (.int p2), (.int p3), (.int p4), (.int p5)] below meth cC T0 locs 0 0) (hx : p.tables.exec = Jvm.exec) (hby : cC.code = code) (hml : cC.maxLocals = maxLocals) (hown : (s.setVm vm0).vm.findClass "com/example/rolelattice/rolelattice/decision/DistinguishedNameEscapeValuePinLaw" = some m.cls) (hZ : Z.Warmed39 (s.setVm vm0).vm) (hrt : meth.sig.returnType = ret) (hlk : meth.locks = false) (h1 : Heap) (e0 : T0.heap = h1) (N0 : Fr n0 locs) (Z0 : n0 ≤ h1.size) (O1 : Old Z n0 h1) (hh : s.heap = h0) {k0 : Nat} (hS0 : s.Since vm0 k0) (hk0 : k0 ≤ h1.size) (C0 : CHr Z own_EL s.vm h0 vm0 h1) (O2 : Sta Z Z.heap "java/lang/String" "COMPACT_STRINGS" "Z" (.int G1)) (P5 : ¬ (G1 = (0 : Int32))) (O4 : Sta Z Z.heap "jdk/internal/util/Preconditions" "SIOOBE_FORMATTER" "Ljava/util/function/BiFunction;" G3) (rG3 : G3.isRef = true) (OA : Sta Z Z.heap "java/lang/StringUTF16" "$assertionsDisabled" "Z" (.int (1 : Int32))) (OH : Sta Z Z.heap "java/lang/StringUTF16" "HI_BYTE_SHIFT" "I" (.int (0 : Int32))) (OL : Sta Z Z.heap "java/lang/StringUTF16" "LO_BYTE_SHIFT" "I" (.int (8 : Int32))) (b_c0 : ¬ c0 < 0 ∧ ¬ (65535 : Int32) < c0) (b_c1 : ¬ c1 < 0 ∧ ¬ (65535 : Int32) < c1) (b_c2 : ¬ c2 < 0 ∧ ¬ (65535 : Int32) < c2) (b_c3 : ¬ c3 < 0 ∧ ¬ (65535 : Int32) < c3) :
    own_Go p e below (T0.setTop (mkF m 25 #[.val (.int p1), .val (.int p2), .val (.int p3), .val (.int p4), .val (.int p5), .val (.int (1 : Int32)), .val (.int c0), .val (.int c1), .val (.int c2), .val (.int c3), .unset, .unset, .unset, .unset, .unset, .unset] [])) (fun oO U' => ∃ rV rL, oO = .returned rV ∧ QQ0 n0 rV U'.heap rL ∧ CHr Z own_EL s.vm s.heap U'.vm U'.heap ∧ ReturnedEndW s oO U' rL 32 3328) := by
  have own_wS := own_wSt hw
  have own_hEL := own_hELt hw
  refine og (fun _ k => XS.iload X0.here hx rfl (hb hby at_25) rfl k) ?_
  refine og (fun _ k => XS.ifYes X0.here hx rfl (pc0 := 27) (pc' := 45) rfl (hb hby at_27) rfl ((if0 _ _).trans (feq (by decide : ¬ ((1 : Int32) = (0 : Int32)))).2) (by decide) (by decide) k) ?_
  refine og (fun _ k => XS.iload X0.here hx rfl (hb hby at_45) rfl k) ?_
  refine og (fun _ k => XS.iconst X0.here hx rfl (hb hby at_47) k) ?_
  try dsimp only [mkF]
  refine og (fun _ k => XS.icmpNo X0.here hx rfl (hb hby at_48) rfl (teq (by decide : (1 : Int32) = (1 : Int32))).2 k) ?_
  refine og (fun _ k => XS.iload X0.here hx rfl (hb hby at_51) rfl k) ?_
  obtain ⟨v479, _, ⟨T479, L479, k479, n479⟩, -, X479, ⟨Lc479, hQ479, l479, y479, z479⟩, st479⟩ := Jvm.LawKit.callS X0 hx (y := (⟨"java/lang/String", "valueOf", "(C)Ljava/lang/String;"⟩ : MethodName)) hown (mvT hZ (tw hw 193 rfl)) (mvT hZ (tw hw 194 rfl)) (mvT hZ (tw hw 2 rfl)) (mvT hZ (tw hw 195 rfl)) (by decide) (backOf (W := 0) (rm_vof l Z a0 hw [] c0 G1 h1 n0 O1 O2 P5 OA OH OL) hZ (tw hw 195 rfl) (tw hw 2 rfl) (by decide) (by decide)) (g := (mkF m 53 #[.val (.int p1), .val (.int p2), .val (.int p3), .val (.int p4), .val (.int p5), .val (.int (1 : Int32)), .val (.int c0), .val (.int c1), .val (.int c2), .val (.int c3), .unset, .unset, .unset, .unset, .unset, .unset] [(.int c0)])) rfl (by rw [hml]; rfl) (argsL := [(.int c0)]) (rest := []) (lenOf pd_45 rfl) rfl (by show 2 * 0 + _ ≤ _; exact Nat.le_of_eq rfl) (hb hby at_53) (fun _ _ => ⟨rfl, e0, (by decide : 0 + 2 ≤ _), (by decide : 0 + 6 ≤ _)⟩)
  dsimp only [Pt.U, Pt.locs, Pt.cells, Pt.slots] at X479 l479 y479 z479 st479 hQ479
  subst l479 y479 z479
  refine own_go st479 ?_
  obtain ⟨x479, t479, kt479, cd479, N2479, vs479, rfl, Nq479, K479, xg479, Ex479, Fv479, Fc479, Vt479, hC479⟩ := hQ479
  have C480 := C0.trans (CHr.keep K479 sf0 C0.1)
  have N479 := Fr.app N0 Nq479
  refine og (fun _ k => XS.astore X479.here hx rfl (hb hby at_56) rfl rfl (l' := #[.val (.int p1), .val (.int p2), .val (.int p3), .val (.int p4), .val (.int p5), .val (.int (1 : Int32)), .val (.int c0), .val (.int c1), .val (.int c2), .val (.int c3), .val (.ref x479), .unset, .unset, .unset, .unset, .unset]) rfl k) ?_
  refine og (fun _ k => XS.goto X479.here hx rfl (pc0 := 58) (pc' := 160) rfl (hb hby at_58) (by decide) (by decide) k) ?_
  try dsimp only [mkF]
  refine og (fun _ k => XS.aload X479.here hx rfl (hb hby at_160) rfl rfl k) ?_
  obtain ⟨v481, _, ⟨T481, L481, k481, n481⟩, -, X481, hS481, hg481, ⟨Lc481, hQ481, l481, y481, z481, A481⟩, st481⟩ := callSS X479 hx (y := (⟨"com/example/rolelattice/rolelattice/decision/DistinguishedName", "escapeValue", "(Ljava/lang/String;)Ljava/lang/String;"⟩ : MethodName)) hown (mvT hZ (tw hw 22 rfl)) (mvT hZ (tw hw 23 rfl)) (mvT hZ (tw hw 24 rfl)) (mvT hZ (tw hw 25 rfl)) (by decide) (backOfSH (W := 0) (rm_esc l Z a0 hw [] x479 t479 kt479 ([c0] : List Int32) cd479 N2479 vs479 G1 G3 T479.heap n0 (O1.keep K479 all0) O2 P5 O4 rG3 OA OH OL Ex479 Fv479 Fc479 Vt479 hC479 (own_okL1 b_c0) (Nat.le_of_ble_eq_true rfl)) hZ (tw hw 25 rfl) (tw hw 24 rfl) (by decide) (by decide) own_hEL C480.1) (g := (mkF m 162 #[.val (.int p1), .val (.int p2), .val (.int p3), .val (.int p4), .val (.int p5), .val (.int (1 : Int32)), .val (.int c0), .val (.int c1), .val (.int c2), .val (.int c3), .val (.ref x479), .unset, .unset, .unset, .unset, .unset] [(.ref x479)])) rfl (by rw [hml]; rfl) (argsL := [(.ref x479)]) (rest := []) (lenOf pd_42 rfl) rfl (by show 2 * 0 + _ ≤ _; exact Nat.le_of_eq rfl) (hb hby at_162) (fun _ _ => ⟨rfl, (rfl : T479.heap = T479.heap), (by decide : 2 + 20 ≤ _), (by decide : 6 + 616 ≤ _)⟩)
  dsimp only [Pt.U, Pt.locs, Pt.cells, Pt.slots] at X481 l481 y481 z481 st481 hQ481 hS481 hg481 A481
  subst l481 y481 z481
  refine own_gos st481 ?_
  obtain ⟨X481, hS481, hZ481, hown481⟩ := rebS hS0 (k0 := _) (n1 := T479.heap.size) (by rw [(rfl : T479.heap = T479.heap)]; exact (Nat.le_trans hk0 K479.1)) X481 hS481 hg481 hZ hown
  obtain ⟨x481, t481, kt481, cd481, N2481, vs481, rfl, Nq481, K481, xg481, Ex481, Fv481, Fc481, Vt481, hC481⟩ := hQ481
  have C482 := C480.trans A481
  have N481 := Fr.app N479 Nq481
  refine og (fun _ k => XS.astore X481.here hx rfl (hb hby at_165) rfl rfl (l' := #[.val (.int p1), .val (.int p2), .val (.int p3), .val (.int p4), .val (.int p5), .val (.int (1 : Int32)), .val (.int c0), .val (.int c1), .val (.int c2), .val (.int c3), .val (.ref x479), .val (.ref x481), .unset, .unset, .unset, .unset]) rfl k) ?_
  show own_Go p e below (T481.setTop (mkF m 167 #[.val (.int p1), .val (.int p2), .val (.int p3), .val (.int p4), .val (.int p5), .val (.int (1 : Int32)), .val (.int c0), .val (.int c1), .val (.int c2), .val (.int c3), .val (.ref x479), .val (.ref x481), .unset, .unset, .unset, .unset] [])) _
  have f483 := ((O1.keep K479 all0).keep K481 all0)
  exact own_mid1 l Z a0 hw p1 p2 p3 p4 p5 c0 c1 c2 c3 x479 x481 t481 kt481 cd481 N2481 vs481 G1 G3 h0 n0 X481 hx hby hml hown481 hZ481 hrt hlk T481.heap (rfl : T481.heap = T481.heap) N481 (Nat.le_trans Z0 (Nat.le_trans K479.1 K481.1)) f483 hh hS481 (Nat.le_refl _) C482 Ex481 Fv481 Fc481 Vt481 O2 P5 O4 rG3 OA OH OL (Eq.mp (congrArg (fun z => StrChars.Road.CodA z cd481 N2481 vs481) (own_escK1 c0)) hC481) (Eq.mp (congrArg own_Ok (own_escK1 c0)) (own_escOk (own_okL1 b_c0) (Nat.le_of_ble_eq_true rfl) (Nat.le_refl _)))

set_option maxRecDepth 65536 in
set_option maxHeartbeats 40000000 in
theorem own_mid2 (l : Launch) (Z : State) (a0 : Array Value) (hw : ∀ d ∈ tables_1, d.before a0 Z = true) (p1 p2 p3 p4 p5 c0 c1 c2 c3 : Int32) (xs xr tr : Addr) (kr : ClassId) (cdr N2r : Int32) (vsr : List Value) (G1 : Int32) (G3 : Value) (h0 : Heap) (n0 : Nat) {p : Program} {e : Env} {s : State} {vm0 : Vm} {m : MethodId} {below : List Frame} {meth : Method} {cC : Code} {T0 : State} {locs : List Loc} (X0 : Stand p l e room_1 (s.setVm vm0) m #[(.int p1), (.int p2), (.int p3), (.int p4), (.int p5)] below meth cC T0 locs 24 658) (hx : p.tables.exec = Jvm.exec) (hby : cC.code = code) (hml : cC.maxLocals = maxLocals) (hown : (s.setVm vm0).vm.findClass "com/example/rolelattice/rolelattice/decision/DistinguishedNameEscapeValuePinLaw" = some m.cls) (hZ : Z.Warmed39 (s.setVm vm0).vm) (hrt : meth.sig.returnType = ret) (hlk : meth.locks = false) (h1 : Heap) (e0 : T0.heap = h1) (N0 : Fr n0 locs) (Z0 : n0 ≤ h1.size) (O1 : Old Z n0 h1) (hh : s.heap = h0) {k0 : Nat} (hS0 : s.Since vm0 k0) (hk0 : k0 ≤ h1.size) (C0 : CHr Z own_EL s.vm h0 vm0 h1) (E_xr : Exa Z h1 xr "java/lang/String") (Fv_xr : Fld Z h1 xr "java/lang/String" "value" "[B" (.ref tr)) (Fc_xr : Fld Z h1 xr "java/lang/String" "coder" "B" (.int cdr)) (V_tr : Arv Z h1 tr kr .byte N2r vsr (.int (0 : Int32))) (O2 : Sta Z Z.heap "java/lang/String" "COMPACT_STRINGS" "Z" (.int G1)) (P5 : ¬ (G1 = (0 : Int32))) (O4 : Sta Z Z.heap "jdk/internal/util/Preconditions" "SIOOBE_FORMATTER" "Ljava/util/function/BiFunction;" G3) (rG3 : G3.isRef = true) (OA : Sta Z Z.heap "java/lang/StringUTF16" "$assertionsDisabled" "Z" (.int (1 : Int32))) (OH : Sta Z Z.heap "java/lang/StringUTF16" "HI_BYTE_SHIFT" "I" (.int (0 : Int32))) (OL : Sta Z Z.heap "java/lang/StringUTF16" "LO_BYTE_SHIFT" "I" (.int (8 : Int32))) (hC : StrChars.Road.CodA ((own_ex c0 (1 : Int32) (0 : Int32)) ++ (own_ex c1 (0 : Int32) (1 : Int32))) cdr N2r vsr) (hok : own_Ok ((own_ex c0 (1 : Int32) (0 : Int32)) ++ (own_ex c1 (0 : Int32) (1 : Int32)))) :
    own_Go p e below (T0.setTop (mkF m 167 #[.val (.int p1), .val (.int p2), .val (.int p3), .val (.int p4), .val (.int p5), .val (.int (2 : Int32)), .val (.int c0), .val (.int c1), .val (.int c2), .val (.int c3), .val (.ref xs), .val (.ref xr), .unset, .unset, .unset, .unset] [])) (fun oO U' => ∃ rV rL, oO = .returned rV ∧ QQ0 n0 rV U'.heap rL ∧ CHr Z own_EL s.vm s.heap U'.vm U'.heap ∧ ReturnedEndW s oO U' rL 32 3328) := by
  have own_wS := own_wSt hw
  have own_hEL := own_hELt hw
  refine og (fun _ k => XS.iload X0.here hx rfl (hb hby at_167) rfl k) ?_
  refine og (fun _ k => XS.iconst X0.here hx rfl (hb hby at_169) k) ?_
  refine og (fun _ k => XS.icmpNo X0.here hx rfl (hb hby at_170) rfl (flt (by decide : ¬ ((2 : Int32) < (1 : Int32)))).1 k) ?_
  refine og (fun _ k => XS.iload X0.here hx rfl (hb hby at_173) rfl k) ?_
  try dsimp only [mkF]
  refine og (fun _ k => XS.iconst X0.here hx rfl (hb hby at_175) k) ?_
  refine og (fun _ k => XS.iload X0.here hx rfl (hb hby at_176) rfl k) ?_
  refine og (fun _ k => XS.iconst X0.here hx rfl (hb hby at_178) k) ?_
  refine og (fun _ k => XS.icmpYes X0.here hx rfl (pc0 := 179) (pc' := 186) rfl (hb hby at_179) rfl (feq (by decide : ¬ ((2 : Int32) = (1 : Int32)))).2 (by decide) (by decide) k) ?_
  refine og (fun _ k => XS.iconst X0.here hx rfl (hb hby at_186) k) ?_
  try dsimp only [mkF]
  obtain ⟨v484, _, ⟨T484, L484, k484, n484⟩, -, X484, ⟨Lc484, hQ484, l484, y484, z484⟩, st484⟩ := Jvm.LawKit.callS X0 hx (y := (⟨"com/example/rolelattice/rolelattice/decision/DistinguishedNameEscapeValuePinLaw", "width", "(CZZ)I"⟩ : MethodName)) hown (mvT hZ (tw hw 182 rfl)) (mvT hZ (tw hw 183 rfl)) (mvT hZ (tw hw 184 rfl)) (mvT hZ (tw hw 185 rfl)) (by decide) (backOf (W := 0) (rm_wd l Z a0 hw [] c0 (1 : Int32) (0 : Int32) h1 n0 O1 ) hZ (tw hw 185 rfl) (tw hw 184 rfl) (by decide) (by decide)) (g := (mkF m 187 #[.val (.int p1), .val (.int p2), .val (.int p3), .val (.int p4), .val (.int p5), .val (.int (2 : Int32)), .val (.int c0), .val (.int c1), .val (.int c2), .val (.int c3), .val (.ref xs), .val (.ref xr), .unset, .unset, .unset, .unset] [(.int (0 : Int32)), (.int (1 : Int32)), (.int c0)])) rfl (by rw [hml]; rfl) (argsL := [(.int c0), (.int (1 : Int32)), (.int (0 : Int32))]) (rest := []) (lenOf pd_43 rfl) rfl (by show 2 * 0 + _ ≤ _; exact Nat.le_of_eq rfl) (hb hby at_187) (fun _ _ => ⟨rfl, e0, (by decide : 24 + 0 ≤ _), (by decide : 658 + 0 ≤ _)⟩)
  dsimp only [Pt.U, Pt.locs, Pt.cells, Pt.slots] at X484 l484 y484 z484 st484 hQ484
  subst l484 y484 z484
  refine own_go st484 ?_
  obtain ⟨rfl, Nq484, e484⟩ := hQ484
  have N484 := Fr.app N0 Nq484
  refine og (fun _ k => XS.goto X484.here hx rfl (pc0 := 190) (pc' := 194) rfl (hb hby at_190) (by decide) (by decide) k) ?_
  refine og (fun _ k => XS.istore X484.here hx rfl (hb hby at_194) rfl (l' := #[.val (.int p1), .val (.int p2), .val (.int p3), .val (.int p4), .val (.int p5), .val (.int (2 : Int32)), .val (.int c0), .val (.int c1), .val (.int c2), .val (.int c3), .val (.ref xs), .val (.ref xr), .val (.int (Int32.ofNat (own_ex c0 (1 : Int32) (0 : Int32)).length)), .unset, .unset, .unset]) rfl k) ?_
  refine og (fun _ k => XS.iload X484.here hx rfl (hb hby at_196) rfl k) ?_
  refine og (fun _ k => XS.iconst X484.here hx rfl (hb hby at_198) k) ?_
  try dsimp only [mkF]
  refine og (fun _ k => XS.icmpNo X484.here hx rfl (hb hby at_199) rfl (flt (by decide : ¬ ((2 : Int32) < (2 : Int32)))).1 k) ?_
  refine og (fun _ k => XS.iload X484.here hx rfl (hb hby at_202) rfl k) ?_
  refine og (fun _ k => XS.iconst X484.here hx rfl (hb hby at_204) k) ?_
  refine og (fun _ k => XS.iload X484.here hx rfl (hb hby at_205) rfl k) ?_
  refine og (fun _ k => XS.iconst X484.here hx rfl (hb hby at_207) k) ?_
  try dsimp only [mkF]
  refine og (fun _ k => XS.icmpNo X484.here hx rfl (hb hby at_208) rfl (teq (by decide : (2 : Int32) = (2 : Int32))).2 k) ?_
  refine og (fun _ k => XS.iconst X484.here hx rfl (hb hby at_211) k) ?_
  refine og (fun _ k => XS.goto X484.here hx rfl (pc0 := 212) (pc' := 216) rfl (hb hby at_212) (by decide) (by decide) k) ?_
  obtain ⟨v485, _, ⟨T485, L485, k485, n485⟩, -, X485, ⟨Lc485, hQ485, l485, y485, z485⟩, st485⟩ := Jvm.LawKit.callS X484 hx (y := (⟨"com/example/rolelattice/rolelattice/decision/DistinguishedNameEscapeValuePinLaw", "width", "(CZZ)I"⟩ : MethodName)) hown (mvT hZ (tw hw 182 rfl)) (mvT hZ (tw hw 183 rfl)) (mvT hZ (tw hw 184 rfl)) (mvT hZ (tw hw 185 rfl)) (by decide) (backOf (W := 0) (rm_wd l Z a0 hw [] c1 (0 : Int32) (1 : Int32) h1 n0 O1 ) hZ (tw hw 185 rfl) (tw hw 184 rfl) (by decide) (by decide)) (g := (mkF m 216 #[.val (.int p1), .val (.int p2), .val (.int p3), .val (.int p4), .val (.int p5), .val (.int (2 : Int32)), .val (.int c0), .val (.int c1), .val (.int c2), .val (.int c3), .val (.ref xs), .val (.ref xr), .val (.int (Int32.ofNat (own_ex c0 (1 : Int32) (0 : Int32)).length)), .unset, .unset, .unset] [(.int (1 : Int32)), (.int (0 : Int32)), (.int c1)])) rfl (by rw [hml]; rfl) (argsL := [(.int c1), (.int (0 : Int32)), (.int (1 : Int32))]) (rest := []) (lenOf pd_43 rfl) rfl (by show 2 * 0 + _ ≤ _; exact Nat.le_of_eq rfl) (hb hby at_216) (fun _ _ => ⟨rfl, e484, (by decide : 24 + 0 ≤ _), (by decide : 658 + 0 ≤ _)⟩)
  dsimp only [Pt.U, Pt.locs, Pt.cells, Pt.slots] at X485 l485 y485 z485 st485 hQ485
  subst l485 y485 z485
  refine own_go st485 ?_
  obtain ⟨rfl, Nq485, e485⟩ := hQ485
  have N485 := Fr.app N484 Nq485
  refine og (fun _ k => XS.goto X485.here hx rfl (pc0 := 219) (pc' := 223) rfl (hb hby at_219) (by decide) (by decide) k) ?_
  try dsimp only [mkF]
  refine og (fun _ k => XS.istore X485.here hx rfl (hb hby at_223) rfl (l' := #[.val (.int p1), .val (.int p2), .val (.int p3), .val (.int p4), .val (.int p5), .val (.int (2 : Int32)), .val (.int c0), .val (.int c1), .val (.int c2), .val (.int c3), .val (.ref xs), .val (.ref xr), .val (.int (Int32.ofNat (own_ex c0 (1 : Int32) (0 : Int32)).length)), .val (.int (Int32.ofNat (own_ex c1 (0 : Int32) (1 : Int32)).length)), .unset, .unset]) rfl k) ?_
  refine og (fun _ k => XS.iload X485.here hx rfl (hb hby at_225) rfl k) ?_
  refine og (fun _ k => XS.iconst X485.here hx rfl (hb hby at_227) k) ?_
  refine og (fun _ k => XS.icmpYes X485.here hx rfl (pc0 := 228) (pc' := 251) rfl (hb hby at_228) rfl (tlt (by decide : (2 : Int32) < (3 : Int32))).1 (by decide) (by decide) k) ?_
  refine og (fun _ k => XS.iconst X485.here hx rfl (hb hby at_251) k) ?_
  try dsimp only [mkF]
  refine og (fun _ k => XS.istore X485.here hx rfl (hb hby at_252) rfl (l' := #[.val (.int p1), .val (.int p2), .val (.int p3), .val (.int p4), .val (.int p5), .val (.int (2 : Int32)), .val (.int c0), .val (.int c1), .val (.int c2), .val (.int c3), .val (.ref xs), .val (.ref xr), .val (.int (Int32.ofNat (own_ex c0 (1 : Int32) (0 : Int32)).length)), .val (.int (Int32.ofNat (own_ex c1 (0 : Int32) (1 : Int32)).length)), .val (.int (0 : Int32)), .unset]) rfl k) ?_
  refine og (fun _ k => XS.iload X485.here hx rfl (hb hby at_254) rfl k) ?_
  refine og (fun _ k => XS.iconst X485.here hx rfl (hb hby at_256) k) ?_
  refine og (fun _ k => XS.icmpYes X485.here hx rfl (pc0 := 257) (pc' := 270) rfl (hb hby at_257) rfl (tlt (by decide : (2 : Int32) < (4 : Int32))).1 (by decide) (by decide) k) ?_
  refine og (fun _ k => XS.iconst X485.here hx rfl (hb hby at_270) k) ?_
  try dsimp only [mkF]
  refine og (fun _ k => XS.istore X485.here hx rfl (hb hby at_271) rfl (l' := #[.val (.int p1), .val (.int p2), .val (.int p3), .val (.int p4), .val (.int p5), .val (.int (2 : Int32)), .val (.int c0), .val (.int c1), .val (.int c2), .val (.int c3), .val (.ref xs), .val (.ref xr), .val (.int (Int32.ofNat (own_ex c0 (1 : Int32) (0 : Int32)).length)), .val (.int (Int32.ofNat (own_ex c1 (0 : Int32) (1 : Int32)).length)), .val (.int (0 : Int32)), .val (.int (0 : Int32))]) rfl k) ?_
  refine og (fun _ k => XS.aload X485.here hx rfl (hb hby at_273) rfl rfl k) ?_
  obtain ⟨cq486, kq486, q486a, q486b, q486c⟩ := isOf hZ e485 E_xr
  obtain ⟨v486, _, ⟨T486, L486, k486, n486⟩, -, X486, ⟨Lc486, hQ486, l486, y486, z486⟩, st486⟩ := X485.virtualBack hx (y := (⟨"java/lang/String", "length", "()I"⟩ : MethodName)) (z := (⟨"java/lang/String", "length", "()I"⟩ : MethodName)) hown (mvT hZ (tw hw 106 rfl)) (mvT hZ (tw hw 45 rfl)) (notFace_of_selects (args := #[]) (mvT hZ (tw hw 47 rfl))) (mvT hZ (tw hw 47 rfl)) (mvT hZ (tw hw 46 rfl)) (by decide) (StrChars.Road.lenW (W := 0) hZ (own_wLen hw) (kI := 4) (tw hw 1 rfl) E_xr Fv_xr Fc_xr V_tr hC (hok.1) (O2.ext O1.2) P5 hok.2 (by decide) (by decide)) q486a q486c (g := (mkF m 275 #[.val (.int p1), .val (.int p2), .val (.int p3), .val (.int p4), .val (.int p5), .val (.int (2 : Int32)), .val (.int c0), .val (.int c1), .val (.int c2), .val (.int c3), .val (.ref xs), .val (.ref xr), .val (.int (Int32.ofNat (own_ex c0 (1 : Int32) (0 : Int32)).length)), .val (.int (Int32.ofNat (own_ex c1 (0 : Int32) (1 : Int32)).length)), .val (.int (0 : Int32)), .val (.int (0 : Int32))] [(.ref xr)])) rfl (by rw [hml]; rfl) (Steps.refl _) (argsL := []) (rest := []) (lenOf pd_9 rfl) rfl (by show 2 * 0 + _ ≤ _; exact Nat.le_of_eq rfl) (hb hby at_275) (fun _ _ => ⟨rfl, e485, (by decide : 24 + 0 ≤ _), (by decide : 658 + 0 ≤ _)⟩)
  dsimp only [Pt.U, Pt.locs, Pt.cells, Pt.slots] at X486 l486 y486 z486 st486 hQ486
  subst l486 y486 z486
  refine own_gos st486 ?_
  obtain ⟨rfl, rfl, e486⟩ := hQ486
  have Nq486 : Fr n0 ([] : List Loc) := Fr.nil n0
  have N486 := Fr.app N485 Nq486
  refine og (fun _ k => XS.iload X486.here hx rfl (hb hby at_278) rfl k) ?_
  refine og (fun _ k => XS.iload X486.here hx rfl (hb hby at_280) rfl k) ?_
  try dsimp only [mkF]
  refine og (fun _ k => XS.iadd X486.here hx rfl (hb hby at_282) rfl k) ?_
  refine og (fun _ k => XS.iload X486.here hx rfl (hb hby at_283) rfl k) ?_
  refine og (fun _ k => XS.iadd X486.here hx rfl (hb hby at_285) rfl k) ?_
  refine og (fun _ k => XS.iload X486.here hx rfl (hb hby at_286) rfl k) ?_
  refine og (fun _ k => XS.iadd X486.here hx rfl (hb hby at_288) rfl k) ?_
  try dsimp only [mkF]
  refine og (fun _ k => XS.icmpYes X486.here hx rfl (pc0 := 289) (pc' := 294) rfl (hb hby at_289) rfl (teq (by first | rfl | (simp only [Int32.add_zero, List.length_append, own_ofadd]; done) | simp [own_ofadd] : (Int32.ofNat ((own_ex c0 (1 : Int32) (0 : Int32)) ++ (own_ex c1 (0 : Int32) (1 : Int32))).length) = ((((Int32.ofNat (own_ex c0 (1 : Int32) (0 : Int32)).length) + (Int32.ofNat (own_ex c1 (0 : Int32) (1 : Int32)).length)) + (0 : Int32)) + (0 : Int32)))).1 (by decide) (by decide) k) ?_
  refine og (fun _ k => XS.iload X486.here hx rfl (hb hby at_294) rfl k) ?_
  refine og (fun _ k => XS.iconst X486.here hx rfl (hb hby at_296) k) ?_
  refine og (fun _ k => XS.icmpNo X486.here hx rfl (hb hby at_297) rfl (flt (by decide : ¬ ((2 : Int32) < (1 : Int32)))).1 k) ?_
  refine og (fun _ k => XS.aload X486.here hx rfl (hb hby at_300) rfl rfl k) ?_
  try dsimp only [mkF]
  refine og (fun _ k => XS.iconst X486.here hx rfl (hb hby at_302) k) ?_
  show own_Go p e below (T486.setTop (mkF m 303 #[.val (.int p1), .val (.int p2), .val (.int p3), .val (.int p4), .val (.int p5), .val (.int (2 : Int32)), .val (.int c0), .val (.int c1), .val (.int c2), .val (.int c3), .val (.ref xs), .val (.ref xr), .val (.int (Int32.ofNat (own_ex c0 (1 : Int32) (0 : Int32)).length)), .val (.int (Int32.ofNat (own_ex c1 (0 : Int32) (1 : Int32)).length)), .val (.int (0 : Int32)), .val (.int (0 : Int32))] [(.int (Int32.ofNat 0)), (.ref xr)])) _
  refine og (fun _ k => XS.iload X486.here hx rfl (hb hby at_303) rfl k) ?_
  refine og (fun _ k => XS.iconst X486.here hx rfl (hb hby at_305) k) ?_
  refine og (fun _ k => XS.iload X486.here hx rfl (hb hby at_306) rfl k) ?_
  refine og (fun _ k => XS.iconst X486.here hx rfl (hb hby at_308) k) ?_
  try dsimp only [mkF]
  refine og (fun _ k => XS.icmpYes X486.here hx rfl (pc0 := 309) (pc' := 316) rfl (hb hby at_309) rfl (feq (by decide : ¬ ((2 : Int32) = (1 : Int32)))).2 (by decide) (by decide) k) ?_
  refine og (fun _ k => XS.iconst X486.here hx rfl (hb hby at_316) k) ?_
  obtain ⟨v487, _, ⟨T487, L487, k487, n487⟩, -, X487, ⟨Lc487, hQ487, l487, y487, z487⟩, st487⟩ := Jvm.LawKit.callS X486 hx (y := (⟨"com/example/rolelattice/rolelattice/decision/DistinguishedNameEscapeValuePinLaw", "check", "(Ljava/lang/String;ICZZ)Z"⟩ : MethodName)) hown (mvT hZ (tw hw 189 rfl)) (mvT hZ (tw hw 190 rfl)) (mvT hZ (tw hw 184 rfl)) (mvT hZ (tw hw 191 rfl)) (by decide) (backOf (W := 0) (rm_chk l Z a0 hw [] xr tr kr ((own_ex c0 (1 : Int32) (0 : Int32)) ++ (own_ex c1 (0 : Int32) (1 : Int32))) cdr N2r vsr 0 c0 (1 : Int32) (0 : Int32) G1 G3 h1 n0 O1 O2 P5 O4 rG3 OA OH OL E_xr Fv_xr Fc_xr V_tr hC hok (own_le2 (show ((own_ex c0 (1 : Int32) (0 : Int32)) ++ (own_ex c1 (0 : Int32) (1 : Int32))) = ([] : List Int32) ++ (own_ex c0 (1 : Int32) (0 : Int32)) ++ (own_ex c1 (0 : Int32) (1 : Int32)) from by simp) (show 0 = ([] : List Int32).length from by first | rfl | simp only [List.length_append])) (own_at2 (show ((own_ex c0 (1 : Int32) (0 : Int32)) ++ (own_ex c1 (0 : Int32) (1 : Int32))) = ([] : List Int32) ++ (own_ex c0 (1 : Int32) (0 : Int32)) ++ (own_ex c1 (0 : Int32) (1 : Int32)) from by simp) (show 0 = ([] : List Int32).length from by first | rfl | simp only [List.length_append]))) hZ (tw hw 191 rfl) (tw hw 184 rfl) (by decide) (by decide)) (g := (mkF m 317 #[.val (.int p1), .val (.int p2), .val (.int p3), .val (.int p4), .val (.int p5), .val (.int (2 : Int32)), .val (.int c0), .val (.int c1), .val (.int c2), .val (.int c3), .val (.ref xs), .val (.ref xr), .val (.int (Int32.ofNat (own_ex c0 (1 : Int32) (0 : Int32)).length)), .val (.int (Int32.ofNat (own_ex c1 (0 : Int32) (1 : Int32)).length)), .val (.int (0 : Int32)), .val (.int (0 : Int32))] [(.int (0 : Int32)), (.int (1 : Int32)), (.int c0), (.int (Int32.ofNat 0)), (.ref xr)])) rfl (by rw [hml]; rfl) (argsL := [(.ref xr), (.int (Int32.ofNat 0)), (.int c0), (.int (1 : Int32)), (.int (0 : Int32))]) (rest := []) (lenOf pd_44 rfl) rfl (by show 2 * 0 + _ ≤ _; exact Nat.le_of_eq rfl) (hb hby at_317) (fun _ _ => ⟨rfl, e486, (by decide : 24 + 0 ≤ _), (by decide : 658 + 0 ≤ _)⟩)
  dsimp only [Pt.U, Pt.locs, Pt.cells, Pt.slots] at X487 l487 y487 z487 st487 hQ487
  subst l487 y487 z487
  refine own_go st487 ?_
  obtain ⟨rfl, Nq487, e487⟩ := hQ487
  have N487 := Fr.app N486 Nq487
  refine og (fun _ k => XS.ifNo X487.here hx rfl (hb hby at_320) rfl ((if0 _ _).trans (feq (by decide : ¬ ((1 : Int32) = (0 : Int32)))).1) k) ?_
  refine og (fun _ k => XS.iload X487.here hx rfl (hb hby at_323) rfl k) ?_
  try dsimp only [mkF]
  refine og (fun _ k => XS.iconst X487.here hx rfl (hb hby at_325) k) ?_
  refine og (fun _ k => XS.icmpNo X487.here hx rfl (hb hby at_326) rfl (flt (by decide : ¬ ((2 : Int32) < (2 : Int32)))).1 k) ?_
  refine og (fun _ k => XS.aload X487.here hx rfl (hb hby at_329) rfl rfl k) ?_
  refine og (fun _ k => XS.iload X487.here hx rfl (hb hby at_331) rfl k) ?_
  refine og (fun _ k => XS.iload X487.here hx rfl (hb hby at_333) rfl k) ?_
  try dsimp only [mkF]
  refine og (fun _ k => XS.iconst X487.here hx rfl (hb hby at_335) k) ?_
  refine og (fun _ k => XS.iload X487.here hx rfl (hb hby at_336) rfl k) ?_
  refine og (fun _ k => XS.iconst X487.here hx rfl (hb hby at_338) k) ?_
  refine og (fun _ k => XS.icmpNo X487.here hx rfl (hb hby at_339) rfl (teq (by decide : (2 : Int32) = (2 : Int32))).2 k) ?_
  refine og (fun _ k => XS.iconst X487.here hx rfl (hb hby at_342) k) ?_
  try dsimp only [mkF]
  refine og (fun _ k => XS.goto X487.here hx rfl (pc0 := 343) (pc' := 347) rfl (hb hby at_343) (by decide) (by decide) k) ?_
  obtain ⟨v488, _, ⟨T488, L488, k488, n488⟩, -, X488, ⟨Lc488, hQ488, l488, y488, z488⟩, st488⟩ := Jvm.LawKit.callS X487 hx (y := (⟨"com/example/rolelattice/rolelattice/decision/DistinguishedNameEscapeValuePinLaw", "check", "(Ljava/lang/String;ICZZ)Z"⟩ : MethodName)) hown (mvT hZ (tw hw 189 rfl)) (mvT hZ (tw hw 190 rfl)) (mvT hZ (tw hw 184 rfl)) (mvT hZ (tw hw 191 rfl)) (by decide) (backOf (W := 0) (rm_chk l Z a0 hw [] xr tr kr ((own_ex c0 (1 : Int32) (0 : Int32)) ++ (own_ex c1 (0 : Int32) (1 : Int32))) cdr N2r vsr (own_ex c0 (1 : Int32) (0 : Int32)).length c1 (0 : Int32) (1 : Int32) G1 G3 h1 n0 O1 O2 P5 O4 rG3 OA OH OL E_xr Fv_xr Fc_xr V_tr hC hok (own_le2 (show ((own_ex c0 (1 : Int32) (0 : Int32)) ++ (own_ex c1 (0 : Int32) (1 : Int32))) = (own_ex c0 (1 : Int32) (0 : Int32)) ++ (own_ex c1 (0 : Int32) (1 : Int32)) ++ ([] : List Int32) from by simp) (show (own_ex c0 (1 : Int32) (0 : Int32)).length = (own_ex c0 (1 : Int32) (0 : Int32)).length from by first | rfl | simp only [List.length_append])) (own_at2 (show ((own_ex c0 (1 : Int32) (0 : Int32)) ++ (own_ex c1 (0 : Int32) (1 : Int32))) = (own_ex c0 (1 : Int32) (0 : Int32)) ++ (own_ex c1 (0 : Int32) (1 : Int32)) ++ ([] : List Int32) from by simp) (show (own_ex c0 (1 : Int32) (0 : Int32)).length = (own_ex c0 (1 : Int32) (0 : Int32)).length from by first | rfl | simp only [List.length_append]))) hZ (tw hw 191 rfl) (tw hw 184 rfl) (by decide) (by decide)) (g := (mkF m 347 #[.val (.int p1), .val (.int p2), .val (.int p3), .val (.int p4), .val (.int p5), .val (.int (2 : Int32)), .val (.int c0), .val (.int c1), .val (.int c2), .val (.int c3), .val (.ref xs), .val (.ref xr), .val (.int (Int32.ofNat (own_ex c0 (1 : Int32) (0 : Int32)).length)), .val (.int (Int32.ofNat (own_ex c1 (0 : Int32) (1 : Int32)).length)), .val (.int (0 : Int32)), .val (.int (0 : Int32))] [(.int (1 : Int32)), (.int (0 : Int32)), (.int c1), (.int (Int32.ofNat (own_ex c0 (1 : Int32) (0 : Int32)).length)), (.ref xr)])) rfl (by rw [hml]; rfl) (argsL := [(.ref xr), (.int (Int32.ofNat (own_ex c0 (1 : Int32) (0 : Int32)).length)), (.int c1), (.int (0 : Int32)), (.int (1 : Int32))]) (rest := []) (lenOf pd_44 rfl) rfl (by show 2 * 0 + _ ≤ _; exact Nat.le_of_eq rfl) (hb hby at_347) (fun _ _ => ⟨rfl, e487, (by decide : 24 + 0 ≤ _), (by decide : 658 + 0 ≤ _)⟩)
  dsimp only [Pt.U, Pt.locs, Pt.cells, Pt.slots] at X488 l488 y488 z488 st488 hQ488
  subst l488 y488 z488
  refine own_go st488 ?_
  obtain ⟨rfl, Nq488, e488⟩ := hQ488
  have N488 := Fr.app N487 Nq488
  refine og (fun _ k => XS.ifNo X488.here hx rfl (hb hby at_350) rfl ((if0 _ _).trans (feq (by decide : ¬ ((1 : Int32) = (0 : Int32)))).1) k) ?_
  refine og (fun _ k => XS.iload X488.here hx rfl (hb hby at_353) rfl k) ?_
  refine og (fun _ k => XS.iconst X488.here hx rfl (hb hby at_355) k) ?_
  try dsimp only [mkF]
  refine og (fun _ k => XS.icmpYes X488.here hx rfl (pc0 := 356) (pc' := 386) rfl (hb hby at_356) rfl (tlt (by decide : (2 : Int32) < (3 : Int32))).1 (by decide) (by decide) k) ?_
  refine og (fun _ k => XS.iload X488.here hx rfl (hb hby at_386) rfl k) ?_
  refine og (fun _ k => XS.iconst X488.here hx rfl (hb hby at_388) k) ?_
  refine og (fun _ k => XS.icmpYes X488.here hx rfl (pc0 := 389) (pc' := 412) rfl (hb hby at_389) rfl (tlt (by decide : (2 : Int32) < (4 : Int32))).1 (by decide) (by decide) k) ?_
  refine og (fun _ k => XS.iconst X488.here hx rfl (hb hby at_412) k) ?_
  try dsimp only [mkF]
  refine og (fun _ k => XS.goto X488.here hx rfl (pc0 := 413) (pc' := 417) rfl (hb hby at_413) (by decide) (by decide) k) ?_
  refine own_finW (v := (some (.int (nar .boolean (1 : Int32))))) X488 hh hZ hS0 (by rw [e488]; exact hk0) (fun h => by rw [hrt] at h; cases h) hlk (fun fs hr => retN X488 hx (t := .boolean) hrt (by simp) (hb hby at_417) hr) (QQ := QQ0 n0) ?_ own_hEL e488 (C0) (by decide) (by decide)
  rw [e488]
  exact ⟨rfl, N488⟩

set_option maxRecDepth 65536 in
set_option maxHeartbeats 40000000 in
theorem own_fst2 (l : Launch) (Z : State) (a0 : Array Value) (hw : ∀ d ∈ tables_1, d.before a0 Z = true) (p1 p2 p3 p4 p5 c0 c1 c2 c3 G1 : Int32) (G3 : Value) (h0 : Heap) (n0 : Nat) {p : Program} {e : Env} {s : State} {vm0 : Vm} {m : MethodId} {below : List Frame} {meth : Method} {cC : Code} {T0 : State} {locs : List Loc} (X0 : Stand p l e room_1 (s.setVm vm0) m #[(.int p1), (.int p2), (.int p3), (.int p4), (.int p5)] below meth cC T0 locs 0 0) (hx : p.tables.exec = Jvm.exec) (hby : cC.code = code) (hml : cC.maxLocals = maxLocals) (hown : (s.setVm vm0).vm.findClass "com/example/rolelattice/rolelattice/decision/DistinguishedNameEscapeValuePinLaw" = some m.cls) (hZ : Z.Warmed39 (s.setVm vm0).vm) (hrt : meth.sig.returnType = ret) (hlk : meth.locks = false) (h1 : Heap) (e0 : T0.heap = h1) (N0 : Fr n0 locs) (Z0 : n0 ≤ h1.size) (O1 : Old Z n0 h1) (hh : s.heap = h0) {k0 : Nat} (hS0 : s.Since vm0 k0) (hk0 : k0 ≤ h1.size) (C0 : CHr Z own_EL s.vm h0 vm0 h1) (O2 : Sta Z Z.heap "java/lang/String" "COMPACT_STRINGS" "Z" (.int G1)) (P5 : ¬ (G1 = (0 : Int32))) (O4 : Sta Z Z.heap "jdk/internal/util/Preconditions" "SIOOBE_FORMATTER" "Ljava/util/function/BiFunction;" G3) (rG3 : G3.isRef = true) (OA : Sta Z Z.heap "java/lang/StringUTF16" "$assertionsDisabled" "Z" (.int (1 : Int32))) (OH : Sta Z Z.heap "java/lang/StringUTF16" "HI_BYTE_SHIFT" "I" (.int (0 : Int32))) (OL : Sta Z Z.heap "java/lang/StringUTF16" "LO_BYTE_SHIFT" "I" (.int (8 : Int32))) (b_c0 : ¬ c0 < 0 ∧ ¬ (65535 : Int32) < c0) (b_c1 : ¬ c1 < 0 ∧ ¬ (65535 : Int32) < c1) (b_c2 : ¬ c2 < 0 ∧ ¬ (65535 : Int32) < c2) (b_c3 : ¬ c3 < 0 ∧ ¬ (65535 : Int32) < c3) :
    own_Go p e below (T0.setTop (mkF m 25 #[.val (.int p1), .val (.int p2), .val (.int p3), .val (.int p4), .val (.int p5), .val (.int (2 : Int32)), .val (.int c0), .val (.int c1), .val (.int c2), .val (.int c3), .unset, .unset, .unset, .unset, .unset, .unset] [])) (fun oO U' => ∃ rV rL, oO = .returned rV ∧ QQ0 n0 rV U'.heap rL ∧ CHr Z own_EL s.vm s.heap U'.vm U'.heap ∧ ReturnedEndW s oO U' rL 32 3328) := by
  have own_wS := own_wSt hw
  have own_hEL := own_hELt hw
  refine og (fun _ k => XS.iload X0.here hx rfl (hb hby at_25) rfl k) ?_
  refine og (fun _ k => XS.ifYes X0.here hx rfl (pc0 := 27) (pc' := 45) rfl (hb hby at_27) rfl ((if0 _ _).trans (feq (by decide : ¬ ((2 : Int32) = (0 : Int32)))).2) (by decide) (by decide) k) ?_
  refine og (fun _ k => XS.iload X0.here hx rfl (hb hby at_45) rfl k) ?_
  refine og (fun _ k => XS.iconst X0.here hx rfl (hb hby at_47) k) ?_
  try dsimp only [mkF]
  refine og (fun _ k => XS.icmpYes X0.here hx rfl (pc0 := 48) (pc' := 61) rfl (hb hby at_48) rfl (feq (by decide : ¬ ((2 : Int32) = (1 : Int32)))).2 (by decide) (by decide) k) ?_
  refine og (fun _ k => XS.iload X0.here hx rfl (hb hby at_61) rfl k) ?_
  refine og (fun _ k => XS.iconst X0.here hx rfl (hb hby at_63) k) ?_
  refine og (fun _ k => XS.icmpNo X0.here hx rfl (hb hby at_64) rfl (teq (by decide : (2 : Int32) = (2 : Int32))).2 k) ?_
  obtain ⟨T489, h489, X489, e489, E489, A489, D489, U489, st489⟩ := newO X0 hx hZ hown (tw hw 0 rfl) (tw hw 1 rfl) (tw hw 2 rfl) e0 (g := (mkF m 67 #[.val (.int p1), .val (.int p2), .val (.int p3), .val (.int p4), .val (.int p5), .val (.int (2 : Int32)), .val (.int c0), .val (.int c1), .val (.int c2), .val (.int c3), .unset, .unset, .unset, .unset, .unset, .unset] [])) rfl (hb hby at_67) (by decide) (by decide)
  obtain ⟨b489, g489⟩ : ∃ z, z = h1.size := ⟨_, rfl⟩
  rw [← g489] at A489 D489 U489 st489
  refine own_go st489 ?_
  have C490 := C0.trans (CHr.ext E489 C0.1)
  have F489_value : Fld Z h489 b489 "java/lang/String" "value" "[B" .null := D489 (Or.inr (tw hw 16 rfl)) (ty := (.array .byte)) (by decide)
  have F489_coder : Fld Z h489 b489 "java/lang/String" "coder" "B" (.int (0 : Int32)) := D489 (Or.inr (tw hw 17 rfl)) (ty := .byte) (by decide)
  try dsimp only [mkF]
  refine og (fun _ k => XS.dup X489.here hx rfl (hb hby at_70) rfl rfl k) ?_
  refine og (fun _ k => XS.iconst X489.here hx rfl (hb hby at_71) k) ?_
  obtain ⟨T491, h491, k491, X491, e491, E491, A491, st491⟩ := newP X489 hx hZ (tw hw 3 rfl) e489 (g := (mkF m 72 #[.val (.int p1), .val (.int p2), .val (.int p3), .val (.int p4), .val (.int p5), .val (.int (2 : Int32)), .val (.int c0), .val (.int c1), .val (.int c2), .val (.int c3), .unset, .unset, .unset, .unset, .unset, .unset] [(.int (2 : Int32)), (.ref b489), (.ref b489)])) rfl (hb hby at_72) rfl (by decide) (cap := 2) (by decide) (by decide) (by decide) (by decide)
  obtain ⟨b491, g491⟩ : ∃ z, z = h489.size := ⟨_, rfl⟩
  rw [← g491] at A491 st491
  refine own_go st491 ?_
  have C492 := C490.trans (CHr.ext E491 C490.1)
  have V491 : Arv Z h491 b491 k491 .char (2 : Int32) [(.int (0 : Int32)), (.int (0 : Int32))] (.int (0 : Int32)) := (Arv.new A491 (by decide)).pad (pad_rep [] (.int (0 : Int32)) 2)
  refine og (fun _ k => XS.dup X491.here hx rfl (hb hby at_74) rfl rfl k) ?_
  refine og (fun _ k => XS.iconst X491.here hx rfl (hb hby at_75) k) ?_
  try dsimp only [mkF]
  refine og (fun _ k => XS.iload X491.here hx rfl (hb hby at_76) rfl k) ?_
  obtain ⟨c493, A493, q493, S493, M493, Hs493, Gs493⟩ := id V491
  obtain ⟨T494, h494, X494, e494, W494, st494⟩ := stC X491 hx hZ e491 A493 (j := (0 : Int32)) (inb_of S493 ⟨by decide, by decide⟩) (g := (mkF m 78 #[.val (.int p1), .val (.int p2), .val (.int p3), .val (.int p4), .val (.int p5), .val (.int (2 : Int32)), .val (.int c0), .val (.int c1), .val (.int c2), .val (.int c3), .unset, .unset, .unset, .unset, .unset, .unset] [(.int c0), (.int (0 : Int32)), (.ref b491), (.ref b491), (.ref b489), (.ref b489)])) rfl rfl (hb hby at_78)
  refine own_go st494 ?_
  have N494 := Fr.snoc X494 N0 (Nat.le_trans Z0 (Nat.le_trans E489.1 (Nat.le_of_eq g491.symm)))
  have f495 := (Safe.ext E491 C490.1 (Safe.new (Nat.le_of_eq g491.symm)))
  have C496 := C492.trans (CHr.wr W494 f495 C492.1)
  have V494 : Arv Z h494 b491 k491 .char (2 : Int32) [(.int (nar .char c0)), (.int (0 : Int32))] (.int (0 : Int32)) := Arv.set A493 q493 S493 M493 Hs493 Gs493 (fits_nar_char _) W494 0 rfl (Nat.le_of_ble_eq_true rfl)
  have V494q : Arv Z h494 b491 k491 .char (2 : Int32) [(.int c0), (.int (0 : Int32))] (.int (0 : Int32)) := by rw [show nar .char c0 = c0 from (own_nc b_c0.1 b_c0.2)] at V494; exact V494
  refine og (fun _ k => XS.dup X494.here hx rfl (hb hby at_79) rfl rfl k) ?_
  refine og (fun _ k => XS.iconst X494.here hx rfl (hb hby at_80) k) ?_
  refine og (fun _ k => XS.iload X494.here hx rfl (hb hby at_81) rfl k) ?_
  try dsimp only [mkF]
  obtain ⟨c497, A497, q497, S497, M497, Hs497, Gs497⟩ := id V494q
  obtain ⟨T498, h498, X498, e498, W498, st498⟩ := stC X494 hx hZ e494 A497 (j := (1 : Int32)) (inb_of S497 ⟨by decide, by decide⟩) (g := (mkF m 83 #[.val (.int p1), .val (.int p2), .val (.int p3), .val (.int p4), .val (.int p5), .val (.int (2 : Int32)), .val (.int c0), .val (.int c1), .val (.int c2), .val (.int c3), .unset, .unset, .unset, .unset, .unset, .unset] [(.int c1), (.int (1 : Int32)), (.ref b491), (.ref b491), (.ref b489), (.ref b489)])) rfl rfl (hb hby at_83)
  refine own_go st498 ?_
  have N498 := Fr.snoc X498 N494 (Nat.le_trans Z0 (Nat.le_trans E489.1 (Nat.le_of_eq g491.symm)))
  have f499 := (Safe.wr W494 f495 C492.1 f495)
  have C500 := C496.trans (CHr.wr W498 f499 C496.1)
  have V498 : Arv Z h498 b491 k491 .char (2 : Int32) [(.int c0), (.int (nar .char c1))] (.int (0 : Int32)) := Arv.set A497 q497 S497 M497 Hs497 Gs497 (fits_nar_char _) W498 1 rfl (Nat.le_of_ble_eq_true rfl)
  have V498q : Arv Z h498 b491 k491 .char (2 : Int32) [(.int c0), (.int c1)] (.int (0 : Int32)) := by rw [show nar .char c1 = c1 from (own_nc b_c1.1 b_c1.2)] at V498; exact V498
  have f501 := (((A489.ext E491).wr W494).wr W498)
  have ne502 : b489 ≠ b491 := Nat.ne_of_lt (Nat.lt_of_lt_of_le A489.lt (Nat.le_of_eq g491.symm))
  have f503 := (((F489_value.ext E491).other W494 (Or.inl ne502)).other W498 (Or.inl ne502))
  have f504 := (((F489_coder.ext E491).other W494 (Or.inl ne502)).other W498 (Or.inl ne502))
  have f505 := ((((O1.ext E489).ext E491).wr W494 (Nat.le_trans Z0 (Nat.le_trans E489.1 (Nat.le_of_eq g491.symm)))).wr W498 (Nat.le_trans Z0 (Nat.le_trans E489.1 (Nat.le_of_eq g491.symm))))
  obtain ⟨v506, _, ⟨T506, L506, k506, n506⟩, -, X506, ⟨Lc506, hQ506, l506, y506, z506⟩, st506⟩ := X498.specialBack hx (y := (⟨"java/lang/String", "<init>", "([C)V"⟩ : MethodName)) rfl hown (mvT hZ (tw hw 4 rfl)) (mvT hZ (tw hw 5 rfl)) (mvT hZ (tw hw 6 rfl)) (by decide) (backOf (W := 1) (rm_i1 l Z a0 hw [] b489 b491 k491 (.int (0 : Int32)) ([c0, c1] : List Int32) G1 h498 n0 f505 f501 f503 f504 (Nat.le_trans Z0 (Nat.le_of_eq g489.symm)) OA OH OL O2 P5 (own_okL2 b_c0 b_c1) V498q (Nat.le_of_ble_eq_true rfl) (Nat.le_of_ble_eq_true rfl)) hZ (tw hw 6 rfl) (tw hw 2 rfl) (by decide) (by decide)) (g := (mkF m 84 #[.val (.int p1), .val (.int p2), .val (.int p3), .val (.int p4), .val (.int p5), .val (.int (2 : Int32)), .val (.int c0), .val (.int c1), .val (.int c2), .val (.int c3), .unset, .unset, .unset, .unset, .unset, .unset] [(.ref b491), (.ref b489), (.ref b489)])) rfl (by rw [hml]; rfl) (Steps.refl _) (a := b489) (argsL := [(.ref b491)]) (rest := [(.ref b489)]) (lenOf pd_41 rfl) rfl (by show 2 * 0 + _ ≤ _; exact Nat.le_of_eq rfl) (hb hby at_84) (fun _ _ => ⟨rfl, e498, (by decide : 2 + 2 ≤ _), (by decide : 6 + 36 ≤ _)⟩)
  dsimp only [Pt.U, Pt.locs, Pt.cells, Pt.slots] at X506 l506 y506 z506 st506 hQ506
  subst l506 y506 z506
  refine own_gos st506 ?_
  obtain ⟨t506, kt506, cd506, N2506, vs506, rfl, Nq506, K506, Fv506, Fc506, Vt506, hC506⟩ := hQ506
  have f507 := (Safe.wr W498 f499 C496.1 (Safe.wr W494 f495 C492.1 (Safe.ext E491 C490.1 (Safe.ext E489 C0.1 (Safe.new (Nat.le_of_eq g489.symm))))))
  have C508 := C500.trans (CHr.keep K506 (sfS f507 sf0) C500.1)
  have N506 := Fr.app N498 Nq506
  refine og (fun _ k => XS.astore X506.here hx rfl (hb hby at_87) rfl rfl (l' := #[.val (.int p1), .val (.int p2), .val (.int p3), .val (.int p4), .val (.int p5), .val (.int (2 : Int32)), .val (.int c0), .val (.int c1), .val (.int c2), .val (.int c3), .val (.ref b489), .unset, .unset, .unset, .unset, .unset]) rfl k) ?_
  refine og (fun _ k => XS.goto X506.here hx rfl (pc0 := 89) (pc' := 160) rfl (hb hby at_89) (by decide) (by decide) k) ?_
  refine og (fun _ k => XS.aload X506.here hx rfl (hb hby at_160) rfl rfl k) ?_
  try dsimp only [mkF]
  have f509 := (f505.keep K506 (allS (Nat.le_trans Z0 (Nat.le_of_eq g489.symm)) all0))
  obtain ⟨v510, _, ⟨T510, L510, k510, n510⟩, -, X510, hS510, hg510, ⟨Lc510, hQ510, l510, y510, z510, A510⟩, st510⟩ := callSS X506 hx (y := (⟨"com/example/rolelattice/rolelattice/decision/DistinguishedName", "escapeValue", "(Ljava/lang/String;)Ljava/lang/String;"⟩ : MethodName)) hown (mvT hZ (tw hw 22 rfl)) (mvT hZ (tw hw 23 rfl)) (mvT hZ (tw hw 24 rfl)) (mvT hZ (tw hw 25 rfl)) (by decide) (backOfSH (W := 0) (rm_esc l Z a0 hw [] b489 t506 kt506 ([c0, c1] : List Int32) cd506 N2506 vs506 G1 G3 T506.heap n0 f509 O2 P5 O4 rG3 OA OH OL (f501.keep K506) Fv506 Fc506 Vt506 hC506 (own_okL2 b_c0 b_c1) (Nat.le_of_ble_eq_true rfl)) hZ (tw hw 25 rfl) (tw hw 24 rfl) (by decide) (by decide) own_hEL C508.1) (g := (mkF m 162 #[.val (.int p1), .val (.int p2), .val (.int p3), .val (.int p4), .val (.int p5), .val (.int (2 : Int32)), .val (.int c0), .val (.int c1), .val (.int c2), .val (.int c3), .val (.ref b489), .unset, .unset, .unset, .unset, .unset] [(.ref b489)])) rfl (by rw [hml]; rfl) (argsL := [(.ref b489)]) (rest := []) (lenOf pd_42 rfl) rfl (by show 2 * 0 + _ ≤ _; exact Nat.le_of_eq rfl) (hb hby at_162) (fun _ _ => ⟨rfl, (rfl : T506.heap = T506.heap), (by decide : 4 + 20 ≤ _), (by decide : 42 + 616 ≤ _)⟩)
  dsimp only [Pt.U, Pt.locs, Pt.cells, Pt.slots] at X510 l510 y510 z510 st510 hQ510 hS510 hg510 A510
  subst l510 y510 z510
  refine own_gos st510 ?_
  have z511 := (Nat.le_trans (Nat.le_trans (Nat.le_trans (Nat.le_trans E489.1 E491.1) (Keep.of_wr W494).1) (Keep.of_wr W498).1) K506.1)
  obtain ⟨X510, hS510, hZ510, hown510⟩ := rebS hS0 (k0 := _) (n1 := T506.heap.size) (by rw [(rfl : T506.heap = T506.heap)]; exact (Nat.le_trans hk0 z511)) X510 hS510 hg510 hZ hown
  obtain ⟨x510, t510, kt510, cd510, N2510, vs510, rfl, Nq510, K510, xg510, Ex510, Fv510, Fc510, Vt510, hC510⟩ := hQ510
  have C512 := C508.trans A510
  have N510 := Fr.app N506 Nq510
  refine og (fun _ k => XS.astore X510.here hx rfl (hb hby at_165) rfl rfl (l' := #[.val (.int p1), .val (.int p2), .val (.int p3), .val (.int p4), .val (.int p5), .val (.int (2 : Int32)), .val (.int c0), .val (.int c1), .val (.int c2), .val (.int c3), .val (.ref b489), .val (.ref x510), .unset, .unset, .unset, .unset]) rfl k) ?_
  show own_Go p e below (T510.setTop (mkF m 167 #[.val (.int p1), .val (.int p2), .val (.int p3), .val (.int p4), .val (.int p5), .val (.int (2 : Int32)), .val (.int c0), .val (.int c1), .val (.int c2), .val (.int c3), .val (.ref b489), .val (.ref x510), .unset, .unset, .unset, .unset] [])) _
  exact own_mid2 l Z a0 hw p1 p2 p3 p4 p5 c0 c1 c2 c3 b489 x510 t510 kt510 cd510 N2510 vs510 G1 G3 h0 n0 X510 hx hby hml hown510 hZ510 hrt hlk T510.heap (rfl : T510.heap = T510.heap) N510 (Nat.le_trans Z0 (Nat.le_trans z511 K510.1)) (f509.keep K510 all0) hh hS510 (Nat.le_refl _) C512 Ex510 Fv510 Fc510 Vt510 O2 P5 O4 rG3 OA OH OL (Eq.mp (congrArg (fun z => StrChars.Road.CodA z cd510 N2510 vs510) (own_escK2 c0 c1)) hC510) (Eq.mp (congrArg own_Ok (own_escK2 c0 c1)) (own_escOk (own_okL2 b_c0 b_c1) (Nat.le_of_ble_eq_true rfl) (Nat.le_refl _)))

set_option maxRecDepth 65536 in
set_option maxHeartbeats 40000000 in
theorem own_mid3 (l : Launch) (Z : State) (a0 : Array Value) (hw : ∀ d ∈ tables_1, d.before a0 Z = true) (p1 p2 p3 p4 p5 c0 c1 c2 c3 : Int32) (xs xr tr : Addr) (kr : ClassId) (cdr N2r : Int32) (vsr : List Value) (G1 : Int32) (G3 : Value) (h0 : Heap) (n0 : Nat) {p : Program} {e : Env} {s : State} {vm0 : Vm} {m : MethodId} {below : List Frame} {meth : Method} {cC : Code} {T0 : State} {locs : List Loc} (X0 : Stand p l e room_1 (s.setVm vm0) m #[(.int p1), (.int p2), (.int p3), (.int p4), (.int p5)] below meth cC T0 locs 24 659) (hx : p.tables.exec = Jvm.exec) (hby : cC.code = code) (hml : cC.maxLocals = maxLocals) (hown : (s.setVm vm0).vm.findClass "com/example/rolelattice/rolelattice/decision/DistinguishedNameEscapeValuePinLaw" = some m.cls) (hZ : Z.Warmed39 (s.setVm vm0).vm) (hrt : meth.sig.returnType = ret) (hlk : meth.locks = false) (h1 : Heap) (e0 : T0.heap = h1) (N0 : Fr n0 locs) (Z0 : n0 ≤ h1.size) (O1 : Old Z n0 h1) (hh : s.heap = h0) {k0 : Nat} (hS0 : s.Since vm0 k0) (hk0 : k0 ≤ h1.size) (C0 : CHr Z own_EL s.vm h0 vm0 h1) (E_xr : Exa Z h1 xr "java/lang/String") (Fv_xr : Fld Z h1 xr "java/lang/String" "value" "[B" (.ref tr)) (Fc_xr : Fld Z h1 xr "java/lang/String" "coder" "B" (.int cdr)) (V_tr : Arv Z h1 tr kr .byte N2r vsr (.int (0 : Int32))) (O2 : Sta Z Z.heap "java/lang/String" "COMPACT_STRINGS" "Z" (.int G1)) (P5 : ¬ (G1 = (0 : Int32))) (O4 : Sta Z Z.heap "jdk/internal/util/Preconditions" "SIOOBE_FORMATTER" "Ljava/util/function/BiFunction;" G3) (rG3 : G3.isRef = true) (OA : Sta Z Z.heap "java/lang/StringUTF16" "$assertionsDisabled" "Z" (.int (1 : Int32))) (OH : Sta Z Z.heap "java/lang/StringUTF16" "HI_BYTE_SHIFT" "I" (.int (0 : Int32))) (OL : Sta Z Z.heap "java/lang/StringUTF16" "LO_BYTE_SHIFT" "I" (.int (8 : Int32))) (hC : StrChars.Road.CodA ((own_ex c0 (1 : Int32) (0 : Int32)) ++ (own_ex c1 (0 : Int32) (0 : Int32)) ++ (own_ex c2 (0 : Int32) (1 : Int32))) cdr N2r vsr) (hok : own_Ok ((own_ex c0 (1 : Int32) (0 : Int32)) ++ (own_ex c1 (0 : Int32) (0 : Int32)) ++ (own_ex c2 (0 : Int32) (1 : Int32)))) :
    own_Go p e below (T0.setTop (mkF m 167 #[.val (.int p1), .val (.int p2), .val (.int p3), .val (.int p4), .val (.int p5), .val (.int (3 : Int32)), .val (.int c0), .val (.int c1), .val (.int c2), .val (.int c3), .val (.ref xs), .val (.ref xr), .unset, .unset, .unset, .unset] [])) (fun oO U' => ∃ rV rL, oO = .returned rV ∧ QQ0 n0 rV U'.heap rL ∧ CHr Z own_EL s.vm s.heap U'.vm U'.heap ∧ ReturnedEndW s oO U' rL 32 3328) := by
  have own_wS := own_wSt hw
  have own_hEL := own_hELt hw
  refine og (fun _ k => XS.iload X0.here hx rfl (hb hby at_167) rfl k) ?_
  refine og (fun _ k => XS.iconst X0.here hx rfl (hb hby at_169) k) ?_
  refine og (fun _ k => XS.icmpNo X0.here hx rfl (hb hby at_170) rfl (flt (by decide : ¬ ((3 : Int32) < (1 : Int32)))).1 k) ?_
  refine og (fun _ k => XS.iload X0.here hx rfl (hb hby at_173) rfl k) ?_
  try dsimp only [mkF]
  refine og (fun _ k => XS.iconst X0.here hx rfl (hb hby at_175) k) ?_
  refine og (fun _ k => XS.iload X0.here hx rfl (hb hby at_176) rfl k) ?_
  refine og (fun _ k => XS.iconst X0.here hx rfl (hb hby at_178) k) ?_
  refine og (fun _ k => XS.icmpYes X0.here hx rfl (pc0 := 179) (pc' := 186) rfl (hb hby at_179) rfl (feq (by decide : ¬ ((3 : Int32) = (1 : Int32)))).2 (by decide) (by decide) k) ?_
  refine og (fun _ k => XS.iconst X0.here hx rfl (hb hby at_186) k) ?_
  try dsimp only [mkF]
  obtain ⟨v513, _, ⟨T513, L513, k513, n513⟩, -, X513, ⟨Lc513, hQ513, l513, y513, z513⟩, st513⟩ := Jvm.LawKit.callS X0 hx (y := (⟨"com/example/rolelattice/rolelattice/decision/DistinguishedNameEscapeValuePinLaw", "width", "(CZZ)I"⟩ : MethodName)) hown (mvT hZ (tw hw 182 rfl)) (mvT hZ (tw hw 183 rfl)) (mvT hZ (tw hw 184 rfl)) (mvT hZ (tw hw 185 rfl)) (by decide) (backOf (W := 0) (rm_wd l Z a0 hw [] c0 (1 : Int32) (0 : Int32) h1 n0 O1 ) hZ (tw hw 185 rfl) (tw hw 184 rfl) (by decide) (by decide)) (g := (mkF m 187 #[.val (.int p1), .val (.int p2), .val (.int p3), .val (.int p4), .val (.int p5), .val (.int (3 : Int32)), .val (.int c0), .val (.int c1), .val (.int c2), .val (.int c3), .val (.ref xs), .val (.ref xr), .unset, .unset, .unset, .unset] [(.int (0 : Int32)), (.int (1 : Int32)), (.int c0)])) rfl (by rw [hml]; rfl) (argsL := [(.int c0), (.int (1 : Int32)), (.int (0 : Int32))]) (rest := []) (lenOf pd_43 rfl) rfl (by show 2 * 0 + _ ≤ _; exact Nat.le_of_eq rfl) (hb hby at_187) (fun _ _ => ⟨rfl, e0, (by decide : 24 + 0 ≤ _), (by decide : 659 + 0 ≤ _)⟩)
  dsimp only [Pt.U, Pt.locs, Pt.cells, Pt.slots] at X513 l513 y513 z513 st513 hQ513
  subst l513 y513 z513
  refine own_go st513 ?_
  obtain ⟨rfl, Nq513, e513⟩ := hQ513
  have N513 := Fr.app N0 Nq513
  refine og (fun _ k => XS.goto X513.here hx rfl (pc0 := 190) (pc' := 194) rfl (hb hby at_190) (by decide) (by decide) k) ?_
  refine og (fun _ k => XS.istore X513.here hx rfl (hb hby at_194) rfl (l' := #[.val (.int p1), .val (.int p2), .val (.int p3), .val (.int p4), .val (.int p5), .val (.int (3 : Int32)), .val (.int c0), .val (.int c1), .val (.int c2), .val (.int c3), .val (.ref xs), .val (.ref xr), .val (.int (Int32.ofNat (own_ex c0 (1 : Int32) (0 : Int32)).length)), .unset, .unset, .unset]) rfl k) ?_
  refine og (fun _ k => XS.iload X513.here hx rfl (hb hby at_196) rfl k) ?_
  refine og (fun _ k => XS.iconst X513.here hx rfl (hb hby at_198) k) ?_
  try dsimp only [mkF]
  refine og (fun _ k => XS.icmpNo X513.here hx rfl (hb hby at_199) rfl (flt (by decide : ¬ ((3 : Int32) < (2 : Int32)))).1 k) ?_
  refine og (fun _ k => XS.iload X513.here hx rfl (hb hby at_202) rfl k) ?_
  refine og (fun _ k => XS.iconst X513.here hx rfl (hb hby at_204) k) ?_
  refine og (fun _ k => XS.iload X513.here hx rfl (hb hby at_205) rfl k) ?_
  refine og (fun _ k => XS.iconst X513.here hx rfl (hb hby at_207) k) ?_
  try dsimp only [mkF]
  refine og (fun _ k => XS.icmpYes X513.here hx rfl (pc0 := 208) (pc' := 215) rfl (hb hby at_208) rfl (feq (by decide : ¬ ((3 : Int32) = (2 : Int32)))).2 (by decide) (by decide) k) ?_
  refine og (fun _ k => XS.iconst X513.here hx rfl (hb hby at_215) k) ?_
  obtain ⟨v514, _, ⟨T514, L514, k514, n514⟩, -, X514, ⟨Lc514, hQ514, l514, y514, z514⟩, st514⟩ := Jvm.LawKit.callS X513 hx (y := (⟨"com/example/rolelattice/rolelattice/decision/DistinguishedNameEscapeValuePinLaw", "width", "(CZZ)I"⟩ : MethodName)) hown (mvT hZ (tw hw 182 rfl)) (mvT hZ (tw hw 183 rfl)) (mvT hZ (tw hw 184 rfl)) (mvT hZ (tw hw 185 rfl)) (by decide) (backOf (W := 0) (rm_wd l Z a0 hw [] c1 (0 : Int32) (0 : Int32) h1 n0 O1 ) hZ (tw hw 185 rfl) (tw hw 184 rfl) (by decide) (by decide)) (g := (mkF m 216 #[.val (.int p1), .val (.int p2), .val (.int p3), .val (.int p4), .val (.int p5), .val (.int (3 : Int32)), .val (.int c0), .val (.int c1), .val (.int c2), .val (.int c3), .val (.ref xs), .val (.ref xr), .val (.int (Int32.ofNat (own_ex c0 (1 : Int32) (0 : Int32)).length)), .unset, .unset, .unset] [(.int (0 : Int32)), (.int (0 : Int32)), (.int c1)])) rfl (by rw [hml]; rfl) (argsL := [(.int c1), (.int (0 : Int32)), (.int (0 : Int32))]) (rest := []) (lenOf pd_43 rfl) rfl (by show 2 * 0 + _ ≤ _; exact Nat.le_of_eq rfl) (hb hby at_216) (fun _ _ => ⟨rfl, e513, (by decide : 24 + 0 ≤ _), (by decide : 659 + 0 ≤ _)⟩)
  dsimp only [Pt.U, Pt.locs, Pt.cells, Pt.slots] at X514 l514 y514 z514 st514 hQ514
  subst l514 y514 z514
  refine own_go st514 ?_
  obtain ⟨rfl, Nq514, e514⟩ := hQ514
  have N514 := Fr.app N513 Nq514
  refine og (fun _ k => XS.goto X514.here hx rfl (pc0 := 219) (pc' := 223) rfl (hb hby at_219) (by decide) (by decide) k) ?_
  refine og (fun _ k => XS.istore X514.here hx rfl (hb hby at_223) rfl (l' := #[.val (.int p1), .val (.int p2), .val (.int p3), .val (.int p4), .val (.int p5), .val (.int (3 : Int32)), .val (.int c0), .val (.int c1), .val (.int c2), .val (.int c3), .val (.ref xs), .val (.ref xr), .val (.int (Int32.ofNat (own_ex c0 (1 : Int32) (0 : Int32)).length)), .val (.int (Int32.ofNat (own_ex c1 (0 : Int32) (0 : Int32)).length)), .unset, .unset]) rfl k) ?_
  try dsimp only [mkF]
  refine og (fun _ k => XS.iload X514.here hx rfl (hb hby at_225) rfl k) ?_
  refine og (fun _ k => XS.iconst X514.here hx rfl (hb hby at_227) k) ?_
  refine og (fun _ k => XS.icmpNo X514.here hx rfl (hb hby at_228) rfl (flt (by decide : ¬ ((3 : Int32) < (3 : Int32)))).1 k) ?_
  refine og (fun _ k => XS.iload X514.here hx rfl (hb hby at_231) rfl k) ?_
  refine og (fun _ k => XS.iconst X514.here hx rfl (hb hby at_233) k) ?_
  try dsimp only [mkF]
  refine og (fun _ k => XS.iload X514.here hx rfl (hb hby at_234) rfl k) ?_
  refine og (fun _ k => XS.iconst X514.here hx rfl (hb hby at_236) k) ?_
  refine og (fun _ k => XS.icmpNo X514.here hx rfl (hb hby at_237) rfl (teq (by decide : (3 : Int32) = (3 : Int32))).2 k) ?_
  refine og (fun _ k => XS.iconst X514.here hx rfl (hb hby at_240) k) ?_
  refine og (fun _ k => XS.goto X514.here hx rfl (pc0 := 241) (pc' := 245) rfl (hb hby at_241) (by decide) (by decide) k) ?_
  try dsimp only [mkF]
  obtain ⟨v515, _, ⟨T515, L515, k515, n515⟩, -, X515, ⟨Lc515, hQ515, l515, y515, z515⟩, st515⟩ := Jvm.LawKit.callS X514 hx (y := (⟨"com/example/rolelattice/rolelattice/decision/DistinguishedNameEscapeValuePinLaw", "width", "(CZZ)I"⟩ : MethodName)) hown (mvT hZ (tw hw 182 rfl)) (mvT hZ (tw hw 183 rfl)) (mvT hZ (tw hw 184 rfl)) (mvT hZ (tw hw 185 rfl)) (by decide) (backOf (W := 0) (rm_wd l Z a0 hw [] c2 (0 : Int32) (1 : Int32) h1 n0 O1 ) hZ (tw hw 185 rfl) (tw hw 184 rfl) (by decide) (by decide)) (g := (mkF m 245 #[.val (.int p1), .val (.int p2), .val (.int p3), .val (.int p4), .val (.int p5), .val (.int (3 : Int32)), .val (.int c0), .val (.int c1), .val (.int c2), .val (.int c3), .val (.ref xs), .val (.ref xr), .val (.int (Int32.ofNat (own_ex c0 (1 : Int32) (0 : Int32)).length)), .val (.int (Int32.ofNat (own_ex c1 (0 : Int32) (0 : Int32)).length)), .unset, .unset] [(.int (1 : Int32)), (.int (0 : Int32)), (.int c2)])) rfl (by rw [hml]; rfl) (argsL := [(.int c2), (.int (0 : Int32)), (.int (1 : Int32))]) (rest := []) (lenOf pd_43 rfl) rfl (by show 2 * 0 + _ ≤ _; exact Nat.le_of_eq rfl) (hb hby at_245) (fun _ _ => ⟨rfl, e514, (by decide : 24 + 0 ≤ _), (by decide : 659 + 0 ≤ _)⟩)
  dsimp only [Pt.U, Pt.locs, Pt.cells, Pt.slots] at X515 l515 y515 z515 st515 hQ515
  subst l515 y515 z515
  refine own_go st515 ?_
  obtain ⟨rfl, Nq515, e515⟩ := hQ515
  have N515 := Fr.app N514 Nq515
  refine og (fun _ k => XS.goto X515.here hx rfl (pc0 := 248) (pc' := 252) rfl (hb hby at_248) (by decide) (by decide) k) ?_
  refine og (fun _ k => XS.istore X515.here hx rfl (hb hby at_252) rfl (l' := #[.val (.int p1), .val (.int p2), .val (.int p3), .val (.int p4), .val (.int p5), .val (.int (3 : Int32)), .val (.int c0), .val (.int c1), .val (.int c2), .val (.int c3), .val (.ref xs), .val (.ref xr), .val (.int (Int32.ofNat (own_ex c0 (1 : Int32) (0 : Int32)).length)), .val (.int (Int32.ofNat (own_ex c1 (0 : Int32) (0 : Int32)).length)), .val (.int (Int32.ofNat (own_ex c2 (0 : Int32) (1 : Int32)).length)), .unset]) rfl k) ?_
  refine og (fun _ k => XS.iload X515.here hx rfl (hb hby at_254) rfl k) ?_
  refine og (fun _ k => XS.iconst X515.here hx rfl (hb hby at_256) k) ?_
  try dsimp only [mkF]
  refine og (fun _ k => XS.icmpYes X515.here hx rfl (pc0 := 257) (pc' := 270) rfl (hb hby at_257) rfl (tlt (by decide : (3 : Int32) < (4 : Int32))).1 (by decide) (by decide) k) ?_
  refine og (fun _ k => XS.iconst X515.here hx rfl (hb hby at_270) k) ?_
  refine og (fun _ k => XS.istore X515.here hx rfl (hb hby at_271) rfl (l' := #[.val (.int p1), .val (.int p2), .val (.int p3), .val (.int p4), .val (.int p5), .val (.int (3 : Int32)), .val (.int c0), .val (.int c1), .val (.int c2), .val (.int c3), .val (.ref xs), .val (.ref xr), .val (.int (Int32.ofNat (own_ex c0 (1 : Int32) (0 : Int32)).length)), .val (.int (Int32.ofNat (own_ex c1 (0 : Int32) (0 : Int32)).length)), .val (.int (Int32.ofNat (own_ex c2 (0 : Int32) (1 : Int32)).length)), .val (.int (0 : Int32))]) rfl k) ?_
  refine og (fun _ k => XS.aload X515.here hx rfl (hb hby at_273) rfl rfl k) ?_
  obtain ⟨cq516, kq516, q516a, q516b, q516c⟩ := isOf hZ e515 E_xr
  obtain ⟨v516, _, ⟨T516, L516, k516, n516⟩, -, X516, ⟨Lc516, hQ516, l516, y516, z516⟩, st516⟩ := X515.virtualBack hx (y := (⟨"java/lang/String", "length", "()I"⟩ : MethodName)) (z := (⟨"java/lang/String", "length", "()I"⟩ : MethodName)) hown (mvT hZ (tw hw 106 rfl)) (mvT hZ (tw hw 45 rfl)) (notFace_of_selects (args := #[]) (mvT hZ (tw hw 47 rfl))) (mvT hZ (tw hw 47 rfl)) (mvT hZ (tw hw 46 rfl)) (by decide) (StrChars.Road.lenW (W := 0) hZ (own_wLen hw) (kI := 4) (tw hw 1 rfl) E_xr Fv_xr Fc_xr V_tr hC (hok.1) (O2.ext O1.2) P5 hok.2 (by decide) (by decide)) q516a q516c (g := (mkF m 275 #[.val (.int p1), .val (.int p2), .val (.int p3), .val (.int p4), .val (.int p5), .val (.int (3 : Int32)), .val (.int c0), .val (.int c1), .val (.int c2), .val (.int c3), .val (.ref xs), .val (.ref xr), .val (.int (Int32.ofNat (own_ex c0 (1 : Int32) (0 : Int32)).length)), .val (.int (Int32.ofNat (own_ex c1 (0 : Int32) (0 : Int32)).length)), .val (.int (Int32.ofNat (own_ex c2 (0 : Int32) (1 : Int32)).length)), .val (.int (0 : Int32))] [(.ref xr)])) rfl (by rw [hml]; rfl) (Steps.refl _) (argsL := []) (rest := []) (lenOf pd_9 rfl) rfl (by show 2 * 0 + _ ≤ _; exact Nat.le_of_eq rfl) (hb hby at_275) (fun _ _ => ⟨rfl, e515, (by decide : 24 + 0 ≤ _), (by decide : 659 + 0 ≤ _)⟩)
  dsimp only [Pt.U, Pt.locs, Pt.cells, Pt.slots] at X516 l516 y516 z516 st516 hQ516
  subst l516 y516 z516
  refine own_gos st516 ?_
  obtain ⟨rfl, rfl, e516⟩ := hQ516
  have Nq516 : Fr n0 ([] : List Loc) := Fr.nil n0
  have N516 := Fr.app N515 Nq516
  try dsimp only [mkF]
  refine og (fun _ k => XS.iload X516.here hx rfl (hb hby at_278) rfl k) ?_
  refine og (fun _ k => XS.iload X516.here hx rfl (hb hby at_280) rfl k) ?_
  refine og (fun _ k => XS.iadd X516.here hx rfl (hb hby at_282) rfl k) ?_
  refine og (fun _ k => XS.iload X516.here hx rfl (hb hby at_283) rfl k) ?_
  refine og (fun _ k => XS.iadd X516.here hx rfl (hb hby at_285) rfl k) ?_
  try dsimp only [mkF]
  refine og (fun _ k => XS.iload X516.here hx rfl (hb hby at_286) rfl k) ?_
  refine og (fun _ k => XS.iadd X516.here hx rfl (hb hby at_288) rfl k) ?_
  refine og (fun _ k => XS.icmpYes X516.here hx rfl (pc0 := 289) (pc' := 294) rfl (hb hby at_289) rfl (teq (by first | rfl | (simp only [Int32.add_zero, List.length_append, own_ofadd]; done) | simp [own_ofadd] : (Int32.ofNat ((own_ex c0 (1 : Int32) (0 : Int32)) ++ (own_ex c1 (0 : Int32) (0 : Int32)) ++ (own_ex c2 (0 : Int32) (1 : Int32))).length) = ((((Int32.ofNat (own_ex c0 (1 : Int32) (0 : Int32)).length) + (Int32.ofNat (own_ex c1 (0 : Int32) (0 : Int32)).length)) + (Int32.ofNat (own_ex c2 (0 : Int32) (1 : Int32)).length)) + (0 : Int32)))).1 (by decide) (by decide) k) ?_
  refine og (fun _ k => XS.iload X516.here hx rfl (hb hby at_294) rfl k) ?_
  refine og (fun _ k => XS.iconst X516.here hx rfl (hb hby at_296) k) ?_
  try dsimp only [mkF]
  refine og (fun _ k => XS.icmpNo X516.here hx rfl (hb hby at_297) rfl (flt (by decide : ¬ ((3 : Int32) < (1 : Int32)))).1 k) ?_
  refine og (fun _ k => XS.aload X516.here hx rfl (hb hby at_300) rfl rfl k) ?_
  refine og (fun _ k => XS.iconst X516.here hx rfl (hb hby at_302) k) ?_
  show own_Go p e below (T516.setTop (mkF m 303 #[.val (.int p1), .val (.int p2), .val (.int p3), .val (.int p4), .val (.int p5), .val (.int (3 : Int32)), .val (.int c0), .val (.int c1), .val (.int c2), .val (.int c3), .val (.ref xs), .val (.ref xr), .val (.int (Int32.ofNat (own_ex c0 (1 : Int32) (0 : Int32)).length)), .val (.int (Int32.ofNat (own_ex c1 (0 : Int32) (0 : Int32)).length)), .val (.int (Int32.ofNat (own_ex c2 (0 : Int32) (1 : Int32)).length)), .val (.int (0 : Int32))] [(.int (Int32.ofNat 0)), (.ref xr)])) _
  refine og (fun _ k => XS.iload X516.here hx rfl (hb hby at_303) rfl k) ?_
  refine og (fun _ k => XS.iconst X516.here hx rfl (hb hby at_305) k) ?_
  try dsimp only [mkF]
  refine og (fun _ k => XS.iload X516.here hx rfl (hb hby at_306) rfl k) ?_
  refine og (fun _ k => XS.iconst X516.here hx rfl (hb hby at_308) k) ?_
  refine og (fun _ k => XS.icmpYes X516.here hx rfl (pc0 := 309) (pc' := 316) rfl (hb hby at_309) rfl (feq (by decide : ¬ ((3 : Int32) = (1 : Int32)))).2 (by decide) (by decide) k) ?_
  refine og (fun _ k => XS.iconst X516.here hx rfl (hb hby at_316) k) ?_
  obtain ⟨v517, _, ⟨T517, L517, k517, n517⟩, -, X517, ⟨Lc517, hQ517, l517, y517, z517⟩, st517⟩ := Jvm.LawKit.callS X516 hx (y := (⟨"com/example/rolelattice/rolelattice/decision/DistinguishedNameEscapeValuePinLaw", "check", "(Ljava/lang/String;ICZZ)Z"⟩ : MethodName)) hown (mvT hZ (tw hw 189 rfl)) (mvT hZ (tw hw 190 rfl)) (mvT hZ (tw hw 184 rfl)) (mvT hZ (tw hw 191 rfl)) (by decide) (backOf (W := 0) (rm_chk l Z a0 hw [] xr tr kr ((own_ex c0 (1 : Int32) (0 : Int32)) ++ (own_ex c1 (0 : Int32) (0 : Int32)) ++ (own_ex c2 (0 : Int32) (1 : Int32))) cdr N2r vsr 0 c0 (1 : Int32) (0 : Int32) G1 G3 h1 n0 O1 O2 P5 O4 rG3 OA OH OL E_xr Fv_xr Fc_xr V_tr hC hok (own_le2 (show ((own_ex c0 (1 : Int32) (0 : Int32)) ++ (own_ex c1 (0 : Int32) (0 : Int32)) ++ (own_ex c2 (0 : Int32) (1 : Int32))) = ([] : List Int32) ++ (own_ex c0 (1 : Int32) (0 : Int32)) ++ ((own_ex c1 (0 : Int32) (0 : Int32)) ++ (own_ex c2 (0 : Int32) (1 : Int32))) from by simp) (show 0 = ([] : List Int32).length from by first | rfl | simp only [List.length_append])) (own_at2 (show ((own_ex c0 (1 : Int32) (0 : Int32)) ++ (own_ex c1 (0 : Int32) (0 : Int32)) ++ (own_ex c2 (0 : Int32) (1 : Int32))) = ([] : List Int32) ++ (own_ex c0 (1 : Int32) (0 : Int32)) ++ ((own_ex c1 (0 : Int32) (0 : Int32)) ++ (own_ex c2 (0 : Int32) (1 : Int32))) from by simp) (show 0 = ([] : List Int32).length from by first | rfl | simp only [List.length_append]))) hZ (tw hw 191 rfl) (tw hw 184 rfl) (by decide) (by decide)) (g := (mkF m 317 #[.val (.int p1), .val (.int p2), .val (.int p3), .val (.int p4), .val (.int p5), .val (.int (3 : Int32)), .val (.int c0), .val (.int c1), .val (.int c2), .val (.int c3), .val (.ref xs), .val (.ref xr), .val (.int (Int32.ofNat (own_ex c0 (1 : Int32) (0 : Int32)).length)), .val (.int (Int32.ofNat (own_ex c1 (0 : Int32) (0 : Int32)).length)), .val (.int (Int32.ofNat (own_ex c2 (0 : Int32) (1 : Int32)).length)), .val (.int (0 : Int32))] [(.int (0 : Int32)), (.int (1 : Int32)), (.int c0), (.int (Int32.ofNat 0)), (.ref xr)])) rfl (by rw [hml]; rfl) (argsL := [(.ref xr), (.int (Int32.ofNat 0)), (.int c0), (.int (1 : Int32)), (.int (0 : Int32))]) (rest := []) (lenOf pd_44 rfl) rfl (by show 2 * 0 + _ ≤ _; exact Nat.le_of_eq rfl) (hb hby at_317) (fun _ _ => ⟨rfl, e516, (by decide : 24 + 0 ≤ _), (by decide : 659 + 0 ≤ _)⟩)
  dsimp only [Pt.U, Pt.locs, Pt.cells, Pt.slots] at X517 l517 y517 z517 st517 hQ517
  subst l517 y517 z517
  refine own_go st517 ?_
  obtain ⟨rfl, Nq517, e517⟩ := hQ517
  have N517 := Fr.app N516 Nq517
  try dsimp only [mkF]
  refine og (fun _ k => XS.ifNo X517.here hx rfl (hb hby at_320) rfl ((if0 _ _).trans (feq (by decide : ¬ ((1 : Int32) = (0 : Int32)))).1) k) ?_
  refine og (fun _ k => XS.iload X517.here hx rfl (hb hby at_323) rfl k) ?_
  refine og (fun _ k => XS.iconst X517.here hx rfl (hb hby at_325) k) ?_
  refine og (fun _ k => XS.icmpNo X517.here hx rfl (hb hby at_326) rfl (flt (by decide : ¬ ((3 : Int32) < (2 : Int32)))).1 k) ?_
  refine og (fun _ k => XS.aload X517.here hx rfl (hb hby at_329) rfl rfl k) ?_
  try dsimp only [mkF]
  refine og (fun _ k => XS.iload X517.here hx rfl (hb hby at_331) rfl k) ?_
  refine og (fun _ k => XS.iload X517.here hx rfl (hb hby at_333) rfl k) ?_
  refine og (fun _ k => XS.iconst X517.here hx rfl (hb hby at_335) k) ?_
  refine og (fun _ k => XS.iload X517.here hx rfl (hb hby at_336) rfl k) ?_
  refine og (fun _ k => XS.iconst X517.here hx rfl (hb hby at_338) k) ?_
  try dsimp only [mkF]
  refine og (fun _ k => XS.icmpYes X517.here hx rfl (pc0 := 339) (pc' := 346) rfl (hb hby at_339) rfl (feq (by decide : ¬ ((3 : Int32) = (2 : Int32)))).2 (by decide) (by decide) k) ?_
  refine og (fun _ k => XS.iconst X517.here hx rfl (hb hby at_346) k) ?_
  obtain ⟨v518, _, ⟨T518, L518, k518, n518⟩, -, X518, ⟨Lc518, hQ518, l518, y518, z518⟩, st518⟩ := Jvm.LawKit.callS X517 hx (y := (⟨"com/example/rolelattice/rolelattice/decision/DistinguishedNameEscapeValuePinLaw", "check", "(Ljava/lang/String;ICZZ)Z"⟩ : MethodName)) hown (mvT hZ (tw hw 189 rfl)) (mvT hZ (tw hw 190 rfl)) (mvT hZ (tw hw 184 rfl)) (mvT hZ (tw hw 191 rfl)) (by decide) (backOf (W := 0) (rm_chk l Z a0 hw [] xr tr kr ((own_ex c0 (1 : Int32) (0 : Int32)) ++ (own_ex c1 (0 : Int32) (0 : Int32)) ++ (own_ex c2 (0 : Int32) (1 : Int32))) cdr N2r vsr (own_ex c0 (1 : Int32) (0 : Int32)).length c1 (0 : Int32) (0 : Int32) G1 G3 h1 n0 O1 O2 P5 O4 rG3 OA OH OL E_xr Fv_xr Fc_xr V_tr hC hok (own_le2 (show ((own_ex c0 (1 : Int32) (0 : Int32)) ++ (own_ex c1 (0 : Int32) (0 : Int32)) ++ (own_ex c2 (0 : Int32) (1 : Int32))) = (own_ex c0 (1 : Int32) (0 : Int32)) ++ (own_ex c1 (0 : Int32) (0 : Int32)) ++ (own_ex c2 (0 : Int32) (1 : Int32)) from by simp) (show (own_ex c0 (1 : Int32) (0 : Int32)).length = (own_ex c0 (1 : Int32) (0 : Int32)).length from by first | rfl | simp only [List.length_append])) (own_at2 (show ((own_ex c0 (1 : Int32) (0 : Int32)) ++ (own_ex c1 (0 : Int32) (0 : Int32)) ++ (own_ex c2 (0 : Int32) (1 : Int32))) = (own_ex c0 (1 : Int32) (0 : Int32)) ++ (own_ex c1 (0 : Int32) (0 : Int32)) ++ (own_ex c2 (0 : Int32) (1 : Int32)) from by simp) (show (own_ex c0 (1 : Int32) (0 : Int32)).length = (own_ex c0 (1 : Int32) (0 : Int32)).length from by first | rfl | simp only [List.length_append]))) hZ (tw hw 191 rfl) (tw hw 184 rfl) (by decide) (by decide)) (g := (mkF m 347 #[.val (.int p1), .val (.int p2), .val (.int p3), .val (.int p4), .val (.int p5), .val (.int (3 : Int32)), .val (.int c0), .val (.int c1), .val (.int c2), .val (.int c3), .val (.ref xs), .val (.ref xr), .val (.int (Int32.ofNat (own_ex c0 (1 : Int32) (0 : Int32)).length)), .val (.int (Int32.ofNat (own_ex c1 (0 : Int32) (0 : Int32)).length)), .val (.int (Int32.ofNat (own_ex c2 (0 : Int32) (1 : Int32)).length)), .val (.int (0 : Int32))] [(.int (0 : Int32)), (.int (0 : Int32)), (.int c1), (.int (Int32.ofNat (own_ex c0 (1 : Int32) (0 : Int32)).length)), (.ref xr)])) rfl (by rw [hml]; rfl) (argsL := [(.ref xr), (.int (Int32.ofNat (own_ex c0 (1 : Int32) (0 : Int32)).length)), (.int c1), (.int (0 : Int32)), (.int (0 : Int32))]) (rest := []) (lenOf pd_44 rfl) rfl (by show 2 * 0 + _ ≤ _; exact Nat.le_of_eq rfl) (hb hby at_347) (fun _ _ => ⟨rfl, e517, (by decide : 24 + 0 ≤ _), (by decide : 659 + 0 ≤ _)⟩)
  dsimp only [Pt.U, Pt.locs, Pt.cells, Pt.slots] at X518 l518 y518 z518 st518 hQ518
  subst l518 y518 z518
  refine own_go st518 ?_
  obtain ⟨rfl, Nq518, e518⟩ := hQ518
  have N518 := Fr.app N517 Nq518
  refine og (fun _ k => XS.ifNo X518.here hx rfl (hb hby at_350) rfl ((if0 _ _).trans (feq (by decide : ¬ ((1 : Int32) = (0 : Int32)))).1) k) ?_
  refine og (fun _ k => XS.iload X518.here hx rfl (hb hby at_353) rfl k) ?_
  try dsimp only [mkF]
  refine og (fun _ k => XS.iconst X518.here hx rfl (hb hby at_355) k) ?_
  refine og (fun _ k => XS.icmpNo X518.here hx rfl (hb hby at_356) rfl (flt (by decide : ¬ ((3 : Int32) < (3 : Int32)))).1 k) ?_
  refine og (fun _ k => XS.aload X518.here hx rfl (hb hby at_359) rfl rfl k) ?_
  refine og (fun _ k => XS.iload X518.here hx rfl (hb hby at_361) rfl k) ?_
  refine og (fun _ k => XS.iload X518.here hx rfl (hb hby at_363) rfl k) ?_
  try dsimp only [mkF]
  refine og (fun _ k => XS.iadd X518.here hx rfl (hb hby at_365) rfl k) ?_
  show own_Go p e below (T518.setTop (mkF m 366 #[.val (.int p1), .val (.int p2), .val (.int p3), .val (.int p4), .val (.int p5), .val (.int (3 : Int32)), .val (.int c0), .val (.int c1), .val (.int c2), .val (.int c3), .val (.ref xs), .val (.ref xr), .val (.int (Int32.ofNat (own_ex c0 (1 : Int32) (0 : Int32)).length)), .val (.int (Int32.ofNat (own_ex c1 (0 : Int32) (0 : Int32)).length)), .val (.int (Int32.ofNat (own_ex c2 (0 : Int32) (1 : Int32)).length)), .val (.int (0 : Int32))] [(.int ((Int32.ofNat (own_ex c0 (1 : Int32) (0 : Int32)).length) + (Int32.ofNat (own_ex c1 (0 : Int32) (0 : Int32)).length))), (.ref xr)])) _
  rw [own_ofadd]
  refine og (fun _ k => XS.iload X518.here hx rfl (hb hby at_366) rfl k) ?_
  refine og (fun _ k => XS.iconst X518.here hx rfl (hb hby at_368) k) ?_
  refine og (fun _ k => XS.iload X518.here hx rfl (hb hby at_369) rfl k) ?_
  try dsimp only [mkF]
  refine og (fun _ k => XS.iconst X518.here hx rfl (hb hby at_371) k) ?_
  refine og (fun _ k => XS.icmpNo X518.here hx rfl (hb hby at_372) rfl (teq (by decide : (3 : Int32) = (3 : Int32))).2 k) ?_
  refine og (fun _ k => XS.iconst X518.here hx rfl (hb hby at_375) k) ?_
  refine og (fun _ k => XS.goto X518.here hx rfl (pc0 := 376) (pc' := 380) rfl (hb hby at_376) (by decide) (by decide) k) ?_
  obtain ⟨v519, _, ⟨T519, L519, k519, n519⟩, -, X519, ⟨Lc519, hQ519, l519, y519, z519⟩, st519⟩ := Jvm.LawKit.callS X518 hx (y := (⟨"com/example/rolelattice/rolelattice/decision/DistinguishedNameEscapeValuePinLaw", "check", "(Ljava/lang/String;ICZZ)Z"⟩ : MethodName)) hown (mvT hZ (tw hw 189 rfl)) (mvT hZ (tw hw 190 rfl)) (mvT hZ (tw hw 184 rfl)) (mvT hZ (tw hw 191 rfl)) (by decide) (backOf (W := 0) (rm_chk l Z a0 hw [] xr tr kr ((own_ex c0 (1 : Int32) (0 : Int32)) ++ (own_ex c1 (0 : Int32) (0 : Int32)) ++ (own_ex c2 (0 : Int32) (1 : Int32))) cdr N2r vsr ((own_ex c0 (1 : Int32) (0 : Int32)).length + (own_ex c1 (0 : Int32) (0 : Int32)).length) c2 (0 : Int32) (1 : Int32) G1 G3 h1 n0 O1 O2 P5 O4 rG3 OA OH OL E_xr Fv_xr Fc_xr V_tr hC hok (own_le2 (show ((own_ex c0 (1 : Int32) (0 : Int32)) ++ (own_ex c1 (0 : Int32) (0 : Int32)) ++ (own_ex c2 (0 : Int32) (1 : Int32))) = ((own_ex c0 (1 : Int32) (0 : Int32)) ++ (own_ex c1 (0 : Int32) (0 : Int32))) ++ (own_ex c2 (0 : Int32) (1 : Int32)) ++ ([] : List Int32) from by simp) (show ((own_ex c0 (1 : Int32) (0 : Int32)).length + (own_ex c1 (0 : Int32) (0 : Int32)).length) = ((own_ex c0 (1 : Int32) (0 : Int32)) ++ (own_ex c1 (0 : Int32) (0 : Int32))).length from by first | rfl | simp only [List.length_append])) (own_at2 (show ((own_ex c0 (1 : Int32) (0 : Int32)) ++ (own_ex c1 (0 : Int32) (0 : Int32)) ++ (own_ex c2 (0 : Int32) (1 : Int32))) = ((own_ex c0 (1 : Int32) (0 : Int32)) ++ (own_ex c1 (0 : Int32) (0 : Int32))) ++ (own_ex c2 (0 : Int32) (1 : Int32)) ++ ([] : List Int32) from by simp) (show ((own_ex c0 (1 : Int32) (0 : Int32)).length + (own_ex c1 (0 : Int32) (0 : Int32)).length) = ((own_ex c0 (1 : Int32) (0 : Int32)) ++ (own_ex c1 (0 : Int32) (0 : Int32))).length from by first | rfl | simp only [List.length_append]))) hZ (tw hw 191 rfl) (tw hw 184 rfl) (by decide) (by decide)) (g := (mkF m 380 #[.val (.int p1), .val (.int p2), .val (.int p3), .val (.int p4), .val (.int p5), .val (.int (3 : Int32)), .val (.int c0), .val (.int c1), .val (.int c2), .val (.int c3), .val (.ref xs), .val (.ref xr), .val (.int (Int32.ofNat (own_ex c0 (1 : Int32) (0 : Int32)).length)), .val (.int (Int32.ofNat (own_ex c1 (0 : Int32) (0 : Int32)).length)), .val (.int (Int32.ofNat (own_ex c2 (0 : Int32) (1 : Int32)).length)), .val (.int (0 : Int32))] [(.int (1 : Int32)), (.int (0 : Int32)), (.int c2), (.int (Int32.ofNat ((own_ex c0 (1 : Int32) (0 : Int32)).length + (own_ex c1 (0 : Int32) (0 : Int32)).length))), (.ref xr)])) rfl (by rw [hml]; rfl) (argsL := [(.ref xr), (.int (Int32.ofNat ((own_ex c0 (1 : Int32) (0 : Int32)).length + (own_ex c1 (0 : Int32) (0 : Int32)).length))), (.int c2), (.int (0 : Int32)), (.int (1 : Int32))]) (rest := []) (lenOf pd_44 rfl) rfl (by show 2 * 0 + _ ≤ _; exact Nat.le_of_eq rfl) (hb hby at_380) (fun _ _ => ⟨rfl, e518, (by decide : 24 + 0 ≤ _), (by decide : 659 + 0 ≤ _)⟩)
  dsimp only [Pt.U, Pt.locs, Pt.cells, Pt.slots] at X519 l519 y519 z519 st519 hQ519
  subst l519 y519 z519
  refine own_go st519 ?_
  obtain ⟨rfl, Nq519, e519⟩ := hQ519
  have N519 := Fr.app N518 Nq519
  try dsimp only [mkF]
  refine og (fun _ k => XS.ifNo X519.here hx rfl (hb hby at_383) rfl ((if0 _ _).trans (feq (by decide : ¬ ((1 : Int32) = (0 : Int32)))).1) k) ?_
  refine og (fun _ k => XS.iload X519.here hx rfl (hb hby at_386) rfl k) ?_
  refine og (fun _ k => XS.iconst X519.here hx rfl (hb hby at_388) k) ?_
  refine og (fun _ k => XS.icmpYes X519.here hx rfl (pc0 := 389) (pc' := 412) rfl (hb hby at_389) rfl (tlt (by decide : (3 : Int32) < (4 : Int32))).1 (by decide) (by decide) k) ?_
  refine og (fun _ k => XS.iconst X519.here hx rfl (hb hby at_412) k) ?_
  try dsimp only [mkF]
  refine og (fun _ k => XS.goto X519.here hx rfl (pc0 := 413) (pc' := 417) rfl (hb hby at_413) (by decide) (by decide) k) ?_
  refine own_finW (v := (some (.int (nar .boolean (1 : Int32))))) X519 hh hZ hS0 (by rw [e519]; exact hk0) (fun h => by rw [hrt] at h; cases h) hlk (fun fs hr => retN X519 hx (t := .boolean) hrt (by simp) (hb hby at_417) hr) (QQ := QQ0 n0) ?_ own_hEL e519 (C0) (by decide) (by decide)
  rw [e519]
  exact ⟨rfl, N519⟩

set_option maxRecDepth 65536 in
set_option maxHeartbeats 40000000 in
theorem own_fst3 (l : Launch) (Z : State) (a0 : Array Value) (hw : ∀ d ∈ tables_1, d.before a0 Z = true) (p1 p2 p3 p4 p5 c0 c1 c2 c3 G1 : Int32) (G3 : Value) (h0 : Heap) (n0 : Nat) {p : Program} {e : Env} {s : State} {vm0 : Vm} {m : MethodId} {below : List Frame} {meth : Method} {cC : Code} {T0 : State} {locs : List Loc} (X0 : Stand p l e room_1 (s.setVm vm0) m #[(.int p1), (.int p2), (.int p3), (.int p4), (.int p5)] below meth cC T0 locs 0 0) (hx : p.tables.exec = Jvm.exec) (hby : cC.code = code) (hml : cC.maxLocals = maxLocals) (hown : (s.setVm vm0).vm.findClass "com/example/rolelattice/rolelattice/decision/DistinguishedNameEscapeValuePinLaw" = some m.cls) (hZ : Z.Warmed39 (s.setVm vm0).vm) (hrt : meth.sig.returnType = ret) (hlk : meth.locks = false) (h1 : Heap) (e0 : T0.heap = h1) (N0 : Fr n0 locs) (Z0 : n0 ≤ h1.size) (O1 : Old Z n0 h1) (hh : s.heap = h0) {k0 : Nat} (hS0 : s.Since vm0 k0) (hk0 : k0 ≤ h1.size) (C0 : CHr Z own_EL s.vm h0 vm0 h1) (O2 : Sta Z Z.heap "java/lang/String" "COMPACT_STRINGS" "Z" (.int G1)) (P5 : ¬ (G1 = (0 : Int32))) (O4 : Sta Z Z.heap "jdk/internal/util/Preconditions" "SIOOBE_FORMATTER" "Ljava/util/function/BiFunction;" G3) (rG3 : G3.isRef = true) (OA : Sta Z Z.heap "java/lang/StringUTF16" "$assertionsDisabled" "Z" (.int (1 : Int32))) (OH : Sta Z Z.heap "java/lang/StringUTF16" "HI_BYTE_SHIFT" "I" (.int (0 : Int32))) (OL : Sta Z Z.heap "java/lang/StringUTF16" "LO_BYTE_SHIFT" "I" (.int (8 : Int32))) (b_c0 : ¬ c0 < 0 ∧ ¬ (65535 : Int32) < c0) (b_c1 : ¬ c1 < 0 ∧ ¬ (65535 : Int32) < c1) (b_c2 : ¬ c2 < 0 ∧ ¬ (65535 : Int32) < c2) (b_c3 : ¬ c3 < 0 ∧ ¬ (65535 : Int32) < c3) :
    own_Go p e below (T0.setTop (mkF m 25 #[.val (.int p1), .val (.int p2), .val (.int p3), .val (.int p4), .val (.int p5), .val (.int (3 : Int32)), .val (.int c0), .val (.int c1), .val (.int c2), .val (.int c3), .unset, .unset, .unset, .unset, .unset, .unset] [])) (fun oO U' => ∃ rV rL, oO = .returned rV ∧ QQ0 n0 rV U'.heap rL ∧ CHr Z own_EL s.vm s.heap U'.vm U'.heap ∧ ReturnedEndW s oO U' rL 32 3328) := by
  have own_wS := own_wSt hw
  have own_hEL := own_hELt hw
  refine og (fun _ k => XS.iload X0.here hx rfl (hb hby at_25) rfl k) ?_
  refine og (fun _ k => XS.ifYes X0.here hx rfl (pc0 := 27) (pc' := 45) rfl (hb hby at_27) rfl ((if0 _ _).trans (feq (by decide : ¬ ((3 : Int32) = (0 : Int32)))).2) (by decide) (by decide) k) ?_
  refine og (fun _ k => XS.iload X0.here hx rfl (hb hby at_45) rfl k) ?_
  refine og (fun _ k => XS.iconst X0.here hx rfl (hb hby at_47) k) ?_
  try dsimp only [mkF]
  refine og (fun _ k => XS.icmpYes X0.here hx rfl (pc0 := 48) (pc' := 61) rfl (hb hby at_48) rfl (feq (by decide : ¬ ((3 : Int32) = (1 : Int32)))).2 (by decide) (by decide) k) ?_
  refine og (fun _ k => XS.iload X0.here hx rfl (hb hby at_61) rfl k) ?_
  refine og (fun _ k => XS.iconst X0.here hx rfl (hb hby at_63) k) ?_
  refine og (fun _ k => XS.icmpYes X0.here hx rfl (pc0 := 64) (pc' := 92) rfl (hb hby at_64) rfl (feq (by decide : ¬ ((3 : Int32) = (2 : Int32)))).2 (by decide) (by decide) k) ?_
  refine og (fun _ k => XS.iload X0.here hx rfl (hb hby at_92) rfl k) ?_
  try dsimp only [mkF]
  refine og (fun _ k => XS.iconst X0.here hx rfl (hb hby at_94) k) ?_
  refine og (fun _ k => XS.icmpNo X0.here hx rfl (hb hby at_95) rfl (teq (by decide : (3 : Int32) = (3 : Int32))).2 k) ?_
  obtain ⟨T520, h520, X520, e520, E520, A520, D520, U520, st520⟩ := newO X0 hx hZ hown (tw hw 0 rfl) (tw hw 1 rfl) (tw hw 2 rfl) e0 (g := (mkF m 98 #[.val (.int p1), .val (.int p2), .val (.int p3), .val (.int p4), .val (.int p5), .val (.int (3 : Int32)), .val (.int c0), .val (.int c1), .val (.int c2), .val (.int c3), .unset, .unset, .unset, .unset, .unset, .unset] [])) rfl (hb hby at_98) (by decide) (by decide)
  obtain ⟨b520, g520⟩ : ∃ z, z = h1.size := ⟨_, rfl⟩
  rw [← g520] at A520 D520 U520 st520
  refine own_go st520 ?_
  have C521 := C0.trans (CHr.ext E520 C0.1)
  have F520_value : Fld Z h520 b520 "java/lang/String" "value" "[B" .null := D520 (Or.inr (tw hw 16 rfl)) (ty := (.array .byte)) (by decide)
  have F520_coder : Fld Z h520 b520 "java/lang/String" "coder" "B" (.int (0 : Int32)) := D520 (Or.inr (tw hw 17 rfl)) (ty := .byte) (by decide)
  refine og (fun _ k => XS.dup X520.here hx rfl (hb hby at_101) rfl rfl k) ?_
  refine og (fun _ k => XS.iconst X520.here hx rfl (hb hby at_102) k) ?_
  try dsimp only [mkF]
  obtain ⟨T522, h522, k522, X522, e522, E522, A522, st522⟩ := newP X520 hx hZ (tw hw 3 rfl) e520 (g := (mkF m 103 #[.val (.int p1), .val (.int p2), .val (.int p3), .val (.int p4), .val (.int p5), .val (.int (3 : Int32)), .val (.int c0), .val (.int c1), .val (.int c2), .val (.int c3), .unset, .unset, .unset, .unset, .unset, .unset] [(.int (3 : Int32)), (.ref b520), (.ref b520)])) rfl (hb hby at_103) rfl (by decide) (cap := 3) (by decide) (by decide) (by decide) (by decide)
  obtain ⟨b522, g522⟩ : ∃ z, z = h520.size := ⟨_, rfl⟩
  rw [← g522] at A522 st522
  refine own_go st522 ?_
  have C523 := C521.trans (CHr.ext E522 C521.1)
  have V522 : Arv Z h522 b522 k522 .char (3 : Int32) [(.int (0 : Int32)), (.int (0 : Int32)), (.int (0 : Int32))] (.int (0 : Int32)) := (Arv.new A522 (by decide)).pad (pad_rep [] (.int (0 : Int32)) 3)
  refine og (fun _ k => XS.dup X522.here hx rfl (hb hby at_105) rfl rfl k) ?_
  refine og (fun _ k => XS.iconst X522.here hx rfl (hb hby at_106) k) ?_
  refine og (fun _ k => XS.iload X522.here hx rfl (hb hby at_107) rfl k) ?_
  obtain ⟨c524, A524, q524, S524, M524, Hs524, Gs524⟩ := id V522
  obtain ⟨T525, h525, X525, e525, W525, st525⟩ := stC X522 hx hZ e522 A524 (j := (0 : Int32)) (inb_of S524 ⟨by decide, by decide⟩) (g := (mkF m 109 #[.val (.int p1), .val (.int p2), .val (.int p3), .val (.int p4), .val (.int p5), .val (.int (3 : Int32)), .val (.int c0), .val (.int c1), .val (.int c2), .val (.int c3), .unset, .unset, .unset, .unset, .unset, .unset] [(.int c0), (.int (0 : Int32)), (.ref b522), (.ref b522), (.ref b520), (.ref b520)])) rfl rfl (hb hby at_109)
  refine own_go st525 ?_
  have N525 := Fr.snoc X525 N0 (Nat.le_trans Z0 (Nat.le_trans E520.1 (Nat.le_of_eq g522.symm)))
  have f526 := (Safe.ext E522 C521.1 (Safe.new (Nat.le_of_eq g522.symm)))
  have C527 := C523.trans (CHr.wr W525 f526 C523.1)
  have V525 : Arv Z h525 b522 k522 .char (3 : Int32) [(.int (nar .char c0)), (.int (0 : Int32)), (.int (0 : Int32))] (.int (0 : Int32)) := Arv.set A524 q524 S524 M524 Hs524 Gs524 (fits_nar_char _) W525 0 rfl (Nat.le_of_ble_eq_true rfl)
  have V525q : Arv Z h525 b522 k522 .char (3 : Int32) [(.int c0), (.int (0 : Int32)), (.int (0 : Int32))] (.int (0 : Int32)) := by rw [show nar .char c0 = c0 from (own_nc b_c0.1 b_c0.2)] at V525; exact V525
  try dsimp only [mkF]
  refine og (fun _ k => XS.dup X525.here hx rfl (hb hby at_110) rfl rfl k) ?_
  refine og (fun _ k => XS.iconst X525.here hx rfl (hb hby at_111) k) ?_
  refine og (fun _ k => XS.iload X525.here hx rfl (hb hby at_112) rfl k) ?_
  obtain ⟨c528, A528, q528, S528, M528, Hs528, Gs528⟩ := id V525q
  obtain ⟨T529, h529, X529, e529, W529, st529⟩ := stC X525 hx hZ e525 A528 (j := (1 : Int32)) (inb_of S528 ⟨by decide, by decide⟩) (g := (mkF m 114 #[.val (.int p1), .val (.int p2), .val (.int p3), .val (.int p4), .val (.int p5), .val (.int (3 : Int32)), .val (.int c0), .val (.int c1), .val (.int c2), .val (.int c3), .unset, .unset, .unset, .unset, .unset, .unset] [(.int c1), (.int (1 : Int32)), (.ref b522), (.ref b522), (.ref b520), (.ref b520)])) rfl rfl (hb hby at_114)
  refine own_go st529 ?_
  have N529 := Fr.snoc X529 N525 (Nat.le_trans Z0 (Nat.le_trans E520.1 (Nat.le_of_eq g522.symm)))
  have f530 := (Safe.wr W525 f526 C523.1 f526)
  have C531 := C527.trans (CHr.wr W529 f530 C527.1)
  have V529 : Arv Z h529 b522 k522 .char (3 : Int32) [(.int c0), (.int (nar .char c1)), (.int (0 : Int32))] (.int (0 : Int32)) := Arv.set A528 q528 S528 M528 Hs528 Gs528 (fits_nar_char _) W529 1 rfl (Nat.le_of_ble_eq_true rfl)
  have V529q : Arv Z h529 b522 k522 .char (3 : Int32) [(.int c0), (.int c1), (.int (0 : Int32))] (.int (0 : Int32)) := by rw [show nar .char c1 = c1 from (own_nc b_c1.1 b_c1.2)] at V529; exact V529
  refine og (fun _ k => XS.dup X529.here hx rfl (hb hby at_115) rfl rfl k) ?_
  try dsimp only [mkF]
  refine og (fun _ k => XS.iconst X529.here hx rfl (hb hby at_116) k) ?_
  refine og (fun _ k => XS.iload X529.here hx rfl (hb hby at_117) rfl k) ?_
  obtain ⟨c532, A532, q532, S532, M532, Hs532, Gs532⟩ := id V529q
  obtain ⟨T533, h533, X533, e533, W533, st533⟩ := stC X529 hx hZ e529 A532 (j := (2 : Int32)) (inb_of S532 ⟨by decide, by decide⟩) (g := (mkF m 119 #[.val (.int p1), .val (.int p2), .val (.int p3), .val (.int p4), .val (.int p5), .val (.int (3 : Int32)), .val (.int c0), .val (.int c1), .val (.int c2), .val (.int c3), .unset, .unset, .unset, .unset, .unset, .unset] [(.int c2), (.int (2 : Int32)), (.ref b522), (.ref b522), (.ref b520), (.ref b520)])) rfl rfl (hb hby at_119)
  refine own_go st533 ?_
  have N533 := Fr.snoc X533 N529 (Nat.le_trans Z0 (Nat.le_trans E520.1 (Nat.le_of_eq g522.symm)))
  have f534 := (Safe.wr W529 f530 C527.1 f530)
  have C535 := C531.trans (CHr.wr W533 f534 C531.1)
  have V533 : Arv Z h533 b522 k522 .char (3 : Int32) [(.int c0), (.int c1), (.int (nar .char c2))] (.int (0 : Int32)) := Arv.set A532 q532 S532 M532 Hs532 Gs532 (fits_nar_char _) W533 2 rfl (Nat.le_of_ble_eq_true rfl)
  have V533q : Arv Z h533 b522 k522 .char (3 : Int32) [(.int c0), (.int c1), (.int c2)] (.int (0 : Int32)) := by rw [show nar .char c2 = c2 from (own_nc b_c2.1 b_c2.2)] at V533; exact V533
  have f536 := ((((A520.ext E522).wr W525).wr W529).wr W533)
  have ne537 : b520 ≠ b522 := Nat.ne_of_lt (Nat.lt_of_lt_of_le A520.lt (Nat.le_of_eq g522.symm))
  have f538 := ((((F520_value.ext E522).other W525 (Or.inl ne537)).other W529 (Or.inl ne537)).other W533 (Or.inl ne537))
  have f539 := ((((F520_coder.ext E522).other W525 (Or.inl ne537)).other W529 (Or.inl ne537)).other W533 (Or.inl ne537))
  have f540 := (((((O1.ext E520).ext E522).wr W525 (Nat.le_trans Z0 (Nat.le_trans E520.1 (Nat.le_of_eq g522.symm)))).wr W529 (Nat.le_trans Z0 (Nat.le_trans E520.1 (Nat.le_of_eq g522.symm)))).wr W533 (Nat.le_trans Z0 (Nat.le_trans E520.1 (Nat.le_of_eq g522.symm))))
  obtain ⟨v541, _, ⟨T541, L541, k541, n541⟩, -, X541, ⟨Lc541, hQ541, l541, y541, z541⟩, st541⟩ := X533.specialBack hx (y := (⟨"java/lang/String", "<init>", "([C)V"⟩ : MethodName)) rfl hown (mvT hZ (tw hw 4 rfl)) (mvT hZ (tw hw 5 rfl)) (mvT hZ (tw hw 6 rfl)) (by decide) (backOf (W := 1) (rm_i1 l Z a0 hw [] b520 b522 k522 (.int (0 : Int32)) ([c0, c1, c2] : List Int32) G1 h533 n0 f540 f536 f538 f539 (Nat.le_trans Z0 (Nat.le_of_eq g520.symm)) OA OH OL O2 P5 (own_okL3 b_c0 b_c1 b_c2) V533q (Nat.le_of_ble_eq_true rfl) (Nat.le_of_ble_eq_true rfl)) hZ (tw hw 6 rfl) (tw hw 2 rfl) (by decide) (by decide)) (g := (mkF m 120 #[.val (.int p1), .val (.int p2), .val (.int p3), .val (.int p4), .val (.int p5), .val (.int (3 : Int32)), .val (.int c0), .val (.int c1), .val (.int c2), .val (.int c3), .unset, .unset, .unset, .unset, .unset, .unset] [(.ref b522), (.ref b520), (.ref b520)])) rfl (by rw [hml]; rfl) (Steps.refl _) (a := b520) (argsL := [(.ref b522)]) (rest := [(.ref b520)]) (lenOf pd_41 rfl) rfl (by show 2 * 0 + _ ≤ _; exact Nat.le_of_eq rfl) (hb hby at_120) (fun _ _ => ⟨rfl, e533, (by decide : 2 + 2 ≤ _), (by decide : 7 + 36 ≤ _)⟩)
  dsimp only [Pt.U, Pt.locs, Pt.cells, Pt.slots] at X541 l541 y541 z541 st541 hQ541
  subst l541 y541 z541
  refine own_gos st541 ?_
  obtain ⟨t541, kt541, cd541, N2541, vs541, rfl, Nq541, K541, Fv541, Fc541, Vt541, hC541⟩ := hQ541
  have f542 := (Safe.wr W533 f534 C531.1 (Safe.wr W529 f530 C527.1 (Safe.wr W525 f526 C523.1 (Safe.ext E522 C521.1 (Safe.ext E520 C0.1 (Safe.new (Nat.le_of_eq g520.symm)))))))
  have C543 := C535.trans (CHr.keep K541 (sfS f542 sf0) C535.1)
  have N541 := Fr.app N533 Nq541
  refine og (fun _ k => XS.astore X541.here hx rfl (hb hby at_123) rfl rfl (l' := #[.val (.int p1), .val (.int p2), .val (.int p3), .val (.int p4), .val (.int p5), .val (.int (3 : Int32)), .val (.int c0), .val (.int c1), .val (.int c2), .val (.int c3), .val (.ref b520), .unset, .unset, .unset, .unset, .unset]) rfl k) ?_
  try dsimp only [mkF]
  refine og (fun _ k => XS.goto X541.here hx rfl (pc0 := 125) (pc' := 160) rfl (hb hby at_125) (by decide) (by decide) k) ?_
  refine og (fun _ k => XS.aload X541.here hx rfl (hb hby at_160) rfl rfl k) ?_
  have f544 := (f540.keep K541 (allS (Nat.le_trans Z0 (Nat.le_of_eq g520.symm)) all0))
  obtain ⟨v545, _, ⟨T545, L545, k545, n545⟩, -, X545, hS545, hg545, ⟨Lc545, hQ545, l545, y545, z545, A545⟩, st545⟩ := callSS X541 hx (y := (⟨"com/example/rolelattice/rolelattice/decision/DistinguishedName", "escapeValue", "(Ljava/lang/String;)Ljava/lang/String;"⟩ : MethodName)) hown (mvT hZ (tw hw 22 rfl)) (mvT hZ (tw hw 23 rfl)) (mvT hZ (tw hw 24 rfl)) (mvT hZ (tw hw 25 rfl)) (by decide) (backOfSH (W := 0) (rm_esc l Z a0 hw [] b520 t541 kt541 ([c0, c1, c2] : List Int32) cd541 N2541 vs541 G1 G3 T541.heap n0 f544 O2 P5 O4 rG3 OA OH OL (f536.keep K541) Fv541 Fc541 Vt541 hC541 (own_okL3 b_c0 b_c1 b_c2) (Nat.le_of_ble_eq_true rfl)) hZ (tw hw 25 rfl) (tw hw 24 rfl) (by decide) (by decide) own_hEL C543.1) (g := (mkF m 162 #[.val (.int p1), .val (.int p2), .val (.int p3), .val (.int p4), .val (.int p5), .val (.int (3 : Int32)), .val (.int c0), .val (.int c1), .val (.int c2), .val (.int c3), .val (.ref b520), .unset, .unset, .unset, .unset, .unset] [(.ref b520)])) rfl (by rw [hml]; rfl) (argsL := [(.ref b520)]) (rest := []) (lenOf pd_42 rfl) rfl (by show 2 * 0 + _ ≤ _; exact Nat.le_of_eq rfl) (hb hby at_162) (fun _ _ => ⟨rfl, (rfl : T541.heap = T541.heap), (by decide : 4 + 20 ≤ _), (by decide : 43 + 616 ≤ _)⟩)
  dsimp only [Pt.U, Pt.locs, Pt.cells, Pt.slots] at X545 l545 y545 z545 st545 hQ545 hS545 hg545 A545
  subst l545 y545 z545
  refine own_gos st545 ?_
  have z546 := (Nat.le_trans (Nat.le_trans (Nat.le_trans (Nat.le_trans (Nat.le_trans E520.1 E522.1) (Keep.of_wr W525).1) (Keep.of_wr W529).1) (Keep.of_wr W533).1) K541.1)
  obtain ⟨X545, hS545, hZ545, hown545⟩ := rebS hS0 (k0 := _) (n1 := T541.heap.size) (by rw [(rfl : T541.heap = T541.heap)]; exact (Nat.le_trans hk0 z546)) X545 hS545 hg545 hZ hown
  obtain ⟨x545, t545, kt545, cd545, N2545, vs545, rfl, Nq545, K545, xg545, Ex545, Fv545, Fc545, Vt545, hC545⟩ := hQ545
  have C547 := C543.trans A545
  have N545 := Fr.app N541 Nq545
  refine og (fun _ k => XS.astore X545.here hx rfl (hb hby at_165) rfl rfl (l' := #[.val (.int p1), .val (.int p2), .val (.int p3), .val (.int p4), .val (.int p5), .val (.int (3 : Int32)), .val (.int c0), .val (.int c1), .val (.int c2), .val (.int c3), .val (.ref b520), .val (.ref x545), .unset, .unset, .unset, .unset]) rfl k) ?_
  show own_Go p e below (T545.setTop (mkF m 167 #[.val (.int p1), .val (.int p2), .val (.int p3), .val (.int p4), .val (.int p5), .val (.int (3 : Int32)), .val (.int c0), .val (.int c1), .val (.int c2), .val (.int c3), .val (.ref b520), .val (.ref x545), .unset, .unset, .unset, .unset] [])) _
  exact own_mid3 l Z a0 hw p1 p2 p3 p4 p5 c0 c1 c2 c3 b520 x545 t545 kt545 cd545 N2545 vs545 G1 G3 h0 n0 X545 hx hby hml hown545 hZ545 hrt hlk T545.heap (rfl : T545.heap = T545.heap) N545 (Nat.le_trans Z0 (Nat.le_trans z546 K545.1)) (f544.keep K545 all0) hh hS545 (Nat.le_refl _) C547 Ex545 Fv545 Fc545 Vt545 O2 P5 O4 rG3 OA OH OL (Eq.mp (congrArg (fun z => StrChars.Road.CodA z cd545 N2545 vs545) (own_escK3 c0 c1 c2)) hC545) (Eq.mp (congrArg own_Ok (own_escK3 c0 c1 c2)) (own_escOk (own_okL3 b_c0 b_c1 b_c2) (Nat.le_of_ble_eq_true rfl) (Nat.le_refl _)))

set_option maxRecDepth 65536 in
set_option maxHeartbeats 40000000 in
theorem own_mid4 (l : Launch) (Z : State) (a0 : Array Value) (hw : ∀ d ∈ tables_1, d.before a0 Z = true) (p1 p2 p3 p4 p5 c0 c1 c2 c3 : Int32) (xs xr tr : Addr) (kr : ClassId) (cdr N2r : Int32) (vsr : List Value) (G1 : Int32) (G3 : Value) (h0 : Heap) (n0 : Nat) {p : Program} {e : Env} {s : State} {vm0 : Vm} {m : MethodId} {below : List Frame} {meth : Method} {cC : Code} {T0 : State} {locs : List Loc} (X0 : Stand p l e room_1 (s.setVm vm0) m #[(.int p1), (.int p2), (.int p3), (.int p4), (.int p5)] below meth cC T0 locs 24 660) (hx : p.tables.exec = Jvm.exec) (hby : cC.code = code) (hml : cC.maxLocals = maxLocals) (hown : (s.setVm vm0).vm.findClass "com/example/rolelattice/rolelattice/decision/DistinguishedNameEscapeValuePinLaw" = some m.cls) (hZ : Z.Warmed39 (s.setVm vm0).vm) (hrt : meth.sig.returnType = ret) (hlk : meth.locks = false) (h1 : Heap) (e0 : T0.heap = h1) (N0 : Fr n0 locs) (Z0 : n0 ≤ h1.size) (O1 : Old Z n0 h1) (hh : s.heap = h0) {k0 : Nat} (hS0 : s.Since vm0 k0) (hk0 : k0 ≤ h1.size) (C0 : CHr Z own_EL s.vm h0 vm0 h1) (E_xr : Exa Z h1 xr "java/lang/String") (Fv_xr : Fld Z h1 xr "java/lang/String" "value" "[B" (.ref tr)) (Fc_xr : Fld Z h1 xr "java/lang/String" "coder" "B" (.int cdr)) (V_tr : Arv Z h1 tr kr .byte N2r vsr (.int (0 : Int32))) (O2 : Sta Z Z.heap "java/lang/String" "COMPACT_STRINGS" "Z" (.int G1)) (P5 : ¬ (G1 = (0 : Int32))) (O4 : Sta Z Z.heap "jdk/internal/util/Preconditions" "SIOOBE_FORMATTER" "Ljava/util/function/BiFunction;" G3) (rG3 : G3.isRef = true) (OA : Sta Z Z.heap "java/lang/StringUTF16" "$assertionsDisabled" "Z" (.int (1 : Int32))) (OH : Sta Z Z.heap "java/lang/StringUTF16" "HI_BYTE_SHIFT" "I" (.int (0 : Int32))) (OL : Sta Z Z.heap "java/lang/StringUTF16" "LO_BYTE_SHIFT" "I" (.int (8 : Int32))) (hC : StrChars.Road.CodA ((own_ex c0 (1 : Int32) (0 : Int32)) ++ (own_ex c1 (0 : Int32) (0 : Int32)) ++ (own_ex c2 (0 : Int32) (0 : Int32)) ++ (own_ex c3 (0 : Int32) (1 : Int32))) cdr N2r vsr) (hok : own_Ok ((own_ex c0 (1 : Int32) (0 : Int32)) ++ (own_ex c1 (0 : Int32) (0 : Int32)) ++ (own_ex c2 (0 : Int32) (0 : Int32)) ++ (own_ex c3 (0 : Int32) (1 : Int32)))) :
    own_Go p e below (T0.setTop (mkF m 167 #[.val (.int p1), .val (.int p2), .val (.int p3), .val (.int p4), .val (.int p5), .val (.int (4 : Int32)), .val (.int c0), .val (.int c1), .val (.int c2), .val (.int c3), .val (.ref xs), .val (.ref xr), .unset, .unset, .unset, .unset] [])) (fun oO U' => ∃ rV rL, oO = .returned rV ∧ QQ0 n0 rV U'.heap rL ∧ CHr Z own_EL s.vm s.heap U'.vm U'.heap ∧ ReturnedEndW s oO U' rL 32 3328) := by
  have own_wS := own_wSt hw
  have own_hEL := own_hELt hw
  refine og (fun _ k => XS.iload X0.here hx rfl (hb hby at_167) rfl k) ?_
  refine og (fun _ k => XS.iconst X0.here hx rfl (hb hby at_169) k) ?_
  refine og (fun _ k => XS.icmpNo X0.here hx rfl (hb hby at_170) rfl (flt (by decide : ¬ ((4 : Int32) < (1 : Int32)))).1 k) ?_
  refine og (fun _ k => XS.iload X0.here hx rfl (hb hby at_173) rfl k) ?_
  try dsimp only [mkF]
  refine og (fun _ k => XS.iconst X0.here hx rfl (hb hby at_175) k) ?_
  refine og (fun _ k => XS.iload X0.here hx rfl (hb hby at_176) rfl k) ?_
  refine og (fun _ k => XS.iconst X0.here hx rfl (hb hby at_178) k) ?_
  refine og (fun _ k => XS.icmpYes X0.here hx rfl (pc0 := 179) (pc' := 186) rfl (hb hby at_179) rfl (feq (by decide : ¬ ((4 : Int32) = (1 : Int32)))).2 (by decide) (by decide) k) ?_
  refine og (fun _ k => XS.iconst X0.here hx rfl (hb hby at_186) k) ?_
  try dsimp only [mkF]
  obtain ⟨v548, _, ⟨T548, L548, k548, n548⟩, -, X548, ⟨Lc548, hQ548, l548, y548, z548⟩, st548⟩ := Jvm.LawKit.callS X0 hx (y := (⟨"com/example/rolelattice/rolelattice/decision/DistinguishedNameEscapeValuePinLaw", "width", "(CZZ)I"⟩ : MethodName)) hown (mvT hZ (tw hw 182 rfl)) (mvT hZ (tw hw 183 rfl)) (mvT hZ (tw hw 184 rfl)) (mvT hZ (tw hw 185 rfl)) (by decide) (backOf (W := 0) (rm_wd l Z a0 hw [] c0 (1 : Int32) (0 : Int32) h1 n0 O1 ) hZ (tw hw 185 rfl) (tw hw 184 rfl) (by decide) (by decide)) (g := (mkF m 187 #[.val (.int p1), .val (.int p2), .val (.int p3), .val (.int p4), .val (.int p5), .val (.int (4 : Int32)), .val (.int c0), .val (.int c1), .val (.int c2), .val (.int c3), .val (.ref xs), .val (.ref xr), .unset, .unset, .unset, .unset] [(.int (0 : Int32)), (.int (1 : Int32)), (.int c0)])) rfl (by rw [hml]; rfl) (argsL := [(.int c0), (.int (1 : Int32)), (.int (0 : Int32))]) (rest := []) (lenOf pd_43 rfl) rfl (by show 2 * 0 + _ ≤ _; exact Nat.le_of_eq rfl) (hb hby at_187) (fun _ _ => ⟨rfl, e0, (by decide : 24 + 0 ≤ _), (by decide : 660 + 0 ≤ _)⟩)
  dsimp only [Pt.U, Pt.locs, Pt.cells, Pt.slots] at X548 l548 y548 z548 st548 hQ548
  subst l548 y548 z548
  refine own_go st548 ?_
  obtain ⟨rfl, Nq548, e548⟩ := hQ548
  have N548 := Fr.app N0 Nq548
  refine og (fun _ k => XS.goto X548.here hx rfl (pc0 := 190) (pc' := 194) rfl (hb hby at_190) (by decide) (by decide) k) ?_
  refine og (fun _ k => XS.istore X548.here hx rfl (hb hby at_194) rfl (l' := #[.val (.int p1), .val (.int p2), .val (.int p3), .val (.int p4), .val (.int p5), .val (.int (4 : Int32)), .val (.int c0), .val (.int c1), .val (.int c2), .val (.int c3), .val (.ref xs), .val (.ref xr), .val (.int (Int32.ofNat (own_ex c0 (1 : Int32) (0 : Int32)).length)), .unset, .unset, .unset]) rfl k) ?_
  refine og (fun _ k => XS.iload X548.here hx rfl (hb hby at_196) rfl k) ?_
  refine og (fun _ k => XS.iconst X548.here hx rfl (hb hby at_198) k) ?_
  try dsimp only [mkF]
  refine og (fun _ k => XS.icmpNo X548.here hx rfl (hb hby at_199) rfl (flt (by decide : ¬ ((4 : Int32) < (2 : Int32)))).1 k) ?_
  refine og (fun _ k => XS.iload X548.here hx rfl (hb hby at_202) rfl k) ?_
  refine og (fun _ k => XS.iconst X548.here hx rfl (hb hby at_204) k) ?_
  refine og (fun _ k => XS.iload X548.here hx rfl (hb hby at_205) rfl k) ?_
  refine og (fun _ k => XS.iconst X548.here hx rfl (hb hby at_207) k) ?_
  try dsimp only [mkF]
  refine og (fun _ k => XS.icmpYes X548.here hx rfl (pc0 := 208) (pc' := 215) rfl (hb hby at_208) rfl (feq (by decide : ¬ ((4 : Int32) = (2 : Int32)))).2 (by decide) (by decide) k) ?_
  refine og (fun _ k => XS.iconst X548.here hx rfl (hb hby at_215) k) ?_
  obtain ⟨v549, _, ⟨T549, L549, k549, n549⟩, -, X549, ⟨Lc549, hQ549, l549, y549, z549⟩, st549⟩ := Jvm.LawKit.callS X548 hx (y := (⟨"com/example/rolelattice/rolelattice/decision/DistinguishedNameEscapeValuePinLaw", "width", "(CZZ)I"⟩ : MethodName)) hown (mvT hZ (tw hw 182 rfl)) (mvT hZ (tw hw 183 rfl)) (mvT hZ (tw hw 184 rfl)) (mvT hZ (tw hw 185 rfl)) (by decide) (backOf (W := 0) (rm_wd l Z a0 hw [] c1 (0 : Int32) (0 : Int32) h1 n0 O1 ) hZ (tw hw 185 rfl) (tw hw 184 rfl) (by decide) (by decide)) (g := (mkF m 216 #[.val (.int p1), .val (.int p2), .val (.int p3), .val (.int p4), .val (.int p5), .val (.int (4 : Int32)), .val (.int c0), .val (.int c1), .val (.int c2), .val (.int c3), .val (.ref xs), .val (.ref xr), .val (.int (Int32.ofNat (own_ex c0 (1 : Int32) (0 : Int32)).length)), .unset, .unset, .unset] [(.int (0 : Int32)), (.int (0 : Int32)), (.int c1)])) rfl (by rw [hml]; rfl) (argsL := [(.int c1), (.int (0 : Int32)), (.int (0 : Int32))]) (rest := []) (lenOf pd_43 rfl) rfl (by show 2 * 0 + _ ≤ _; exact Nat.le_of_eq rfl) (hb hby at_216) (fun _ _ => ⟨rfl, e548, (by decide : 24 + 0 ≤ _), (by decide : 660 + 0 ≤ _)⟩)
  dsimp only [Pt.U, Pt.locs, Pt.cells, Pt.slots] at X549 l549 y549 z549 st549 hQ549
  subst l549 y549 z549
  refine own_go st549 ?_
  obtain ⟨rfl, Nq549, e549⟩ := hQ549
  have N549 := Fr.app N548 Nq549
  refine og (fun _ k => XS.goto X549.here hx rfl (pc0 := 219) (pc' := 223) rfl (hb hby at_219) (by decide) (by decide) k) ?_
  refine og (fun _ k => XS.istore X549.here hx rfl (hb hby at_223) rfl (l' := #[.val (.int p1), .val (.int p2), .val (.int p3), .val (.int p4), .val (.int p5), .val (.int (4 : Int32)), .val (.int c0), .val (.int c1), .val (.int c2), .val (.int c3), .val (.ref xs), .val (.ref xr), .val (.int (Int32.ofNat (own_ex c0 (1 : Int32) (0 : Int32)).length)), .val (.int (Int32.ofNat (own_ex c1 (0 : Int32) (0 : Int32)).length)), .unset, .unset]) rfl k) ?_
  try dsimp only [mkF]
  refine og (fun _ k => XS.iload X549.here hx rfl (hb hby at_225) rfl k) ?_
  refine og (fun _ k => XS.iconst X549.here hx rfl (hb hby at_227) k) ?_
  refine og (fun _ k => XS.icmpNo X549.here hx rfl (hb hby at_228) rfl (flt (by decide : ¬ ((4 : Int32) < (3 : Int32)))).1 k) ?_
  refine og (fun _ k => XS.iload X549.here hx rfl (hb hby at_231) rfl k) ?_
  refine og (fun _ k => XS.iconst X549.here hx rfl (hb hby at_233) k) ?_
  try dsimp only [mkF]
  refine og (fun _ k => XS.iload X549.here hx rfl (hb hby at_234) rfl k) ?_
  refine og (fun _ k => XS.iconst X549.here hx rfl (hb hby at_236) k) ?_
  refine og (fun _ k => XS.icmpYes X549.here hx rfl (pc0 := 237) (pc' := 244) rfl (hb hby at_237) rfl (feq (by decide : ¬ ((4 : Int32) = (3 : Int32)))).2 (by decide) (by decide) k) ?_
  refine og (fun _ k => XS.iconst X549.here hx rfl (hb hby at_244) k) ?_
  obtain ⟨v550, _, ⟨T550, L550, k550, n550⟩, -, X550, ⟨Lc550, hQ550, l550, y550, z550⟩, st550⟩ := Jvm.LawKit.callS X549 hx (y := (⟨"com/example/rolelattice/rolelattice/decision/DistinguishedNameEscapeValuePinLaw", "width", "(CZZ)I"⟩ : MethodName)) hown (mvT hZ (tw hw 182 rfl)) (mvT hZ (tw hw 183 rfl)) (mvT hZ (tw hw 184 rfl)) (mvT hZ (tw hw 185 rfl)) (by decide) (backOf (W := 0) (rm_wd l Z a0 hw [] c2 (0 : Int32) (0 : Int32) h1 n0 O1 ) hZ (tw hw 185 rfl) (tw hw 184 rfl) (by decide) (by decide)) (g := (mkF m 245 #[.val (.int p1), .val (.int p2), .val (.int p3), .val (.int p4), .val (.int p5), .val (.int (4 : Int32)), .val (.int c0), .val (.int c1), .val (.int c2), .val (.int c3), .val (.ref xs), .val (.ref xr), .val (.int (Int32.ofNat (own_ex c0 (1 : Int32) (0 : Int32)).length)), .val (.int (Int32.ofNat (own_ex c1 (0 : Int32) (0 : Int32)).length)), .unset, .unset] [(.int (0 : Int32)), (.int (0 : Int32)), (.int c2)])) rfl (by rw [hml]; rfl) (argsL := [(.int c2), (.int (0 : Int32)), (.int (0 : Int32))]) (rest := []) (lenOf pd_43 rfl) rfl (by show 2 * 0 + _ ≤ _; exact Nat.le_of_eq rfl) (hb hby at_245) (fun _ _ => ⟨rfl, e549, (by decide : 24 + 0 ≤ _), (by decide : 660 + 0 ≤ _)⟩)
  dsimp only [Pt.U, Pt.locs, Pt.cells, Pt.slots] at X550 l550 y550 z550 st550 hQ550
  subst l550 y550 z550
  refine own_go st550 ?_
  obtain ⟨rfl, Nq550, e550⟩ := hQ550
  have N550 := Fr.app N549 Nq550
  try dsimp only [mkF]
  refine og (fun _ k => XS.goto X550.here hx rfl (pc0 := 248) (pc' := 252) rfl (hb hby at_248) (by decide) (by decide) k) ?_
  refine og (fun _ k => XS.istore X550.here hx rfl (hb hby at_252) rfl (l' := #[.val (.int p1), .val (.int p2), .val (.int p3), .val (.int p4), .val (.int p5), .val (.int (4 : Int32)), .val (.int c0), .val (.int c1), .val (.int c2), .val (.int c3), .val (.ref xs), .val (.ref xr), .val (.int (Int32.ofNat (own_ex c0 (1 : Int32) (0 : Int32)).length)), .val (.int (Int32.ofNat (own_ex c1 (0 : Int32) (0 : Int32)).length)), .val (.int (Int32.ofNat (own_ex c2 (0 : Int32) (0 : Int32)).length)), .unset]) rfl k) ?_
  refine og (fun _ k => XS.iload X550.here hx rfl (hb hby at_254) rfl k) ?_
  refine og (fun _ k => XS.iconst X550.here hx rfl (hb hby at_256) k) ?_
  refine og (fun _ k => XS.icmpNo X550.here hx rfl (hb hby at_257) rfl (flt (by decide : ¬ ((4 : Int32) < (4 : Int32)))).1 k) ?_
  try dsimp only [mkF]
  refine og (fun _ k => XS.iload X550.here hx rfl (hb hby at_260) rfl k) ?_
  refine og (fun _ k => XS.iconst X550.here hx rfl (hb hby at_262) k) ?_
  refine og (fun _ k => XS.iconst X550.here hx rfl (hb hby at_263) k) ?_
  obtain ⟨v551, _, ⟨T551, L551, k551, n551⟩, -, X551, ⟨Lc551, hQ551, l551, y551, z551⟩, st551⟩ := Jvm.LawKit.callS X550 hx (y := (⟨"com/example/rolelattice/rolelattice/decision/DistinguishedNameEscapeValuePinLaw", "width", "(CZZ)I"⟩ : MethodName)) hown (mvT hZ (tw hw 182 rfl)) (mvT hZ (tw hw 183 rfl)) (mvT hZ (tw hw 184 rfl)) (mvT hZ (tw hw 185 rfl)) (by decide) (backOf (W := 0) (rm_wd l Z a0 hw [] c3 (0 : Int32) (1 : Int32) h1 n0 O1 ) hZ (tw hw 185 rfl) (tw hw 184 rfl) (by decide) (by decide)) (g := (mkF m 264 #[.val (.int p1), .val (.int p2), .val (.int p3), .val (.int p4), .val (.int p5), .val (.int (4 : Int32)), .val (.int c0), .val (.int c1), .val (.int c2), .val (.int c3), .val (.ref xs), .val (.ref xr), .val (.int (Int32.ofNat (own_ex c0 (1 : Int32) (0 : Int32)).length)), .val (.int (Int32.ofNat (own_ex c1 (0 : Int32) (0 : Int32)).length)), .val (.int (Int32.ofNat (own_ex c2 (0 : Int32) (0 : Int32)).length)), .unset] [(.int (1 : Int32)), (.int (0 : Int32)), (.int c3)])) rfl (by rw [hml]; rfl) (argsL := [(.int c3), (.int (0 : Int32)), (.int (1 : Int32))]) (rest := []) (lenOf pd_43 rfl) rfl (by show 2 * 0 + _ ≤ _; exact Nat.le_of_eq rfl) (hb hby at_264) (fun _ _ => ⟨rfl, e550, (by decide : 24 + 0 ≤ _), (by decide : 660 + 0 ≤ _)⟩)
  dsimp only [Pt.U, Pt.locs, Pt.cells, Pt.slots] at X551 l551 y551 z551 st551 hQ551
  subst l551 y551 z551
  refine own_go st551 ?_
  obtain ⟨rfl, Nq551, e551⟩ := hQ551
  have N551 := Fr.app N550 Nq551
  refine og (fun _ k => XS.goto X551.here hx rfl (pc0 := 267) (pc' := 271) rfl (hb hby at_267) (by decide) (by decide) k) ?_
  try dsimp only [mkF]
  refine og (fun _ k => XS.istore X551.here hx rfl (hb hby at_271) rfl (l' := #[.val (.int p1), .val (.int p2), .val (.int p3), .val (.int p4), .val (.int p5), .val (.int (4 : Int32)), .val (.int c0), .val (.int c1), .val (.int c2), .val (.int c3), .val (.ref xs), .val (.ref xr), .val (.int (Int32.ofNat (own_ex c0 (1 : Int32) (0 : Int32)).length)), .val (.int (Int32.ofNat (own_ex c1 (0 : Int32) (0 : Int32)).length)), .val (.int (Int32.ofNat (own_ex c2 (0 : Int32) (0 : Int32)).length)), .val (.int (Int32.ofNat (own_ex c3 (0 : Int32) (1 : Int32)).length))]) rfl k) ?_
  refine og (fun _ k => XS.aload X551.here hx rfl (hb hby at_273) rfl rfl k) ?_
  obtain ⟨cq552, kq552, q552a, q552b, q552c⟩ := isOf hZ e551 E_xr
  obtain ⟨v552, _, ⟨T552, L552, k552, n552⟩, -, X552, ⟨Lc552, hQ552, l552, y552, z552⟩, st552⟩ := X551.virtualBack hx (y := (⟨"java/lang/String", "length", "()I"⟩ : MethodName)) (z := (⟨"java/lang/String", "length", "()I"⟩ : MethodName)) hown (mvT hZ (tw hw 106 rfl)) (mvT hZ (tw hw 45 rfl)) (notFace_of_selects (args := #[]) (mvT hZ (tw hw 47 rfl))) (mvT hZ (tw hw 47 rfl)) (mvT hZ (tw hw 46 rfl)) (by decide) (StrChars.Road.lenW (W := 0) hZ (own_wLen hw) (kI := 4) (tw hw 1 rfl) E_xr Fv_xr Fc_xr V_tr hC (hok.1) (O2.ext O1.2) P5 hok.2 (by decide) (by decide)) q552a q552c (g := (mkF m 275 #[.val (.int p1), .val (.int p2), .val (.int p3), .val (.int p4), .val (.int p5), .val (.int (4 : Int32)), .val (.int c0), .val (.int c1), .val (.int c2), .val (.int c3), .val (.ref xs), .val (.ref xr), .val (.int (Int32.ofNat (own_ex c0 (1 : Int32) (0 : Int32)).length)), .val (.int (Int32.ofNat (own_ex c1 (0 : Int32) (0 : Int32)).length)), .val (.int (Int32.ofNat (own_ex c2 (0 : Int32) (0 : Int32)).length)), .val (.int (Int32.ofNat (own_ex c3 (0 : Int32) (1 : Int32)).length))] [(.ref xr)])) rfl (by rw [hml]; rfl) (Steps.refl _) (argsL := []) (rest := []) (lenOf pd_9 rfl) rfl (by show 2 * 0 + _ ≤ _; exact Nat.le_of_eq rfl) (hb hby at_275) (fun _ _ => ⟨rfl, e551, (by decide : 24 + 0 ≤ _), (by decide : 660 + 0 ≤ _)⟩)
  dsimp only [Pt.U, Pt.locs, Pt.cells, Pt.slots] at X552 l552 y552 z552 st552 hQ552
  subst l552 y552 z552
  refine own_gos st552 ?_
  obtain ⟨rfl, rfl, e552⟩ := hQ552
  have Nq552 : Fr n0 ([] : List Loc) := Fr.nil n0
  have N552 := Fr.app N551 Nq552
  refine og (fun _ k => XS.iload X552.here hx rfl (hb hby at_278) rfl k) ?_
  refine og (fun _ k => XS.iload X552.here hx rfl (hb hby at_280) rfl k) ?_
  try dsimp only [mkF]
  refine og (fun _ k => XS.iadd X552.here hx rfl (hb hby at_282) rfl k) ?_
  refine og (fun _ k => XS.iload X552.here hx rfl (hb hby at_283) rfl k) ?_
  refine og (fun _ k => XS.iadd X552.here hx rfl (hb hby at_285) rfl k) ?_
  refine og (fun _ k => XS.iload X552.here hx rfl (hb hby at_286) rfl k) ?_
  refine og (fun _ k => XS.iadd X552.here hx rfl (hb hby at_288) rfl k) ?_
  try dsimp only [mkF]
  refine og (fun _ k => XS.icmpYes X552.here hx rfl (pc0 := 289) (pc' := 294) rfl (hb hby at_289) rfl (teq (by first | rfl | (simp only [Int32.add_zero, List.length_append, own_ofadd]; done) | simp [own_ofadd] : (Int32.ofNat ((own_ex c0 (1 : Int32) (0 : Int32)) ++ (own_ex c1 (0 : Int32) (0 : Int32)) ++ (own_ex c2 (0 : Int32) (0 : Int32)) ++ (own_ex c3 (0 : Int32) (1 : Int32))).length) = ((((Int32.ofNat (own_ex c0 (1 : Int32) (0 : Int32)).length) + (Int32.ofNat (own_ex c1 (0 : Int32) (0 : Int32)).length)) + (Int32.ofNat (own_ex c2 (0 : Int32) (0 : Int32)).length)) + (Int32.ofNat (own_ex c3 (0 : Int32) (1 : Int32)).length)))).1 (by decide) (by decide) k) ?_
  refine og (fun _ k => XS.iload X552.here hx rfl (hb hby at_294) rfl k) ?_
  refine og (fun _ k => XS.iconst X552.here hx rfl (hb hby at_296) k) ?_
  refine og (fun _ k => XS.icmpNo X552.here hx rfl (hb hby at_297) rfl (flt (by decide : ¬ ((4 : Int32) < (1 : Int32)))).1 k) ?_
  refine og (fun _ k => XS.aload X552.here hx rfl (hb hby at_300) rfl rfl k) ?_
  try dsimp only [mkF]
  refine og (fun _ k => XS.iconst X552.here hx rfl (hb hby at_302) k) ?_
  show own_Go p e below (T552.setTop (mkF m 303 #[.val (.int p1), .val (.int p2), .val (.int p3), .val (.int p4), .val (.int p5), .val (.int (4 : Int32)), .val (.int c0), .val (.int c1), .val (.int c2), .val (.int c3), .val (.ref xs), .val (.ref xr), .val (.int (Int32.ofNat (own_ex c0 (1 : Int32) (0 : Int32)).length)), .val (.int (Int32.ofNat (own_ex c1 (0 : Int32) (0 : Int32)).length)), .val (.int (Int32.ofNat (own_ex c2 (0 : Int32) (0 : Int32)).length)), .val (.int (Int32.ofNat (own_ex c3 (0 : Int32) (1 : Int32)).length))] [(.int (Int32.ofNat 0)), (.ref xr)])) _
  refine og (fun _ k => XS.iload X552.here hx rfl (hb hby at_303) rfl k) ?_
  refine og (fun _ k => XS.iconst X552.here hx rfl (hb hby at_305) k) ?_
  refine og (fun _ k => XS.iload X552.here hx rfl (hb hby at_306) rfl k) ?_
  refine og (fun _ k => XS.iconst X552.here hx rfl (hb hby at_308) k) ?_
  try dsimp only [mkF]
  refine og (fun _ k => XS.icmpYes X552.here hx rfl (pc0 := 309) (pc' := 316) rfl (hb hby at_309) rfl (feq (by decide : ¬ ((4 : Int32) = (1 : Int32)))).2 (by decide) (by decide) k) ?_
  refine og (fun _ k => XS.iconst X552.here hx rfl (hb hby at_316) k) ?_
  obtain ⟨v553, _, ⟨T553, L553, k553, n553⟩, -, X553, ⟨Lc553, hQ553, l553, y553, z553⟩, st553⟩ := Jvm.LawKit.callS X552 hx (y := (⟨"com/example/rolelattice/rolelattice/decision/DistinguishedNameEscapeValuePinLaw", "check", "(Ljava/lang/String;ICZZ)Z"⟩ : MethodName)) hown (mvT hZ (tw hw 189 rfl)) (mvT hZ (tw hw 190 rfl)) (mvT hZ (tw hw 184 rfl)) (mvT hZ (tw hw 191 rfl)) (by decide) (backOf (W := 0) (rm_chk l Z a0 hw [] xr tr kr ((own_ex c0 (1 : Int32) (0 : Int32)) ++ (own_ex c1 (0 : Int32) (0 : Int32)) ++ (own_ex c2 (0 : Int32) (0 : Int32)) ++ (own_ex c3 (0 : Int32) (1 : Int32))) cdr N2r vsr 0 c0 (1 : Int32) (0 : Int32) G1 G3 h1 n0 O1 O2 P5 O4 rG3 OA OH OL E_xr Fv_xr Fc_xr V_tr hC hok (own_le2 (show ((own_ex c0 (1 : Int32) (0 : Int32)) ++ (own_ex c1 (0 : Int32) (0 : Int32)) ++ (own_ex c2 (0 : Int32) (0 : Int32)) ++ (own_ex c3 (0 : Int32) (1 : Int32))) = ([] : List Int32) ++ (own_ex c0 (1 : Int32) (0 : Int32)) ++ ((own_ex c1 (0 : Int32) (0 : Int32)) ++ (own_ex c2 (0 : Int32) (0 : Int32)) ++ (own_ex c3 (0 : Int32) (1 : Int32))) from by simp) (show 0 = ([] : List Int32).length from by first | rfl | simp only [List.length_append])) (own_at2 (show ((own_ex c0 (1 : Int32) (0 : Int32)) ++ (own_ex c1 (0 : Int32) (0 : Int32)) ++ (own_ex c2 (0 : Int32) (0 : Int32)) ++ (own_ex c3 (0 : Int32) (1 : Int32))) = ([] : List Int32) ++ (own_ex c0 (1 : Int32) (0 : Int32)) ++ ((own_ex c1 (0 : Int32) (0 : Int32)) ++ (own_ex c2 (0 : Int32) (0 : Int32)) ++ (own_ex c3 (0 : Int32) (1 : Int32))) from by simp) (show 0 = ([] : List Int32).length from by first | rfl | simp only [List.length_append]))) hZ (tw hw 191 rfl) (tw hw 184 rfl) (by decide) (by decide)) (g := (mkF m 317 #[.val (.int p1), .val (.int p2), .val (.int p3), .val (.int p4), .val (.int p5), .val (.int (4 : Int32)), .val (.int c0), .val (.int c1), .val (.int c2), .val (.int c3), .val (.ref xs), .val (.ref xr), .val (.int (Int32.ofNat (own_ex c0 (1 : Int32) (0 : Int32)).length)), .val (.int (Int32.ofNat (own_ex c1 (0 : Int32) (0 : Int32)).length)), .val (.int (Int32.ofNat (own_ex c2 (0 : Int32) (0 : Int32)).length)), .val (.int (Int32.ofNat (own_ex c3 (0 : Int32) (1 : Int32)).length))] [(.int (0 : Int32)), (.int (1 : Int32)), (.int c0), (.int (Int32.ofNat 0)), (.ref xr)])) rfl (by rw [hml]; rfl) (argsL := [(.ref xr), (.int (Int32.ofNat 0)), (.int c0), (.int (1 : Int32)), (.int (0 : Int32))]) (rest := []) (lenOf pd_44 rfl) rfl (by show 2 * 0 + _ ≤ _; exact Nat.le_of_eq rfl) (hb hby at_317) (fun _ _ => ⟨rfl, e552, (by decide : 24 + 0 ≤ _), (by decide : 660 + 0 ≤ _)⟩)
  dsimp only [Pt.U, Pt.locs, Pt.cells, Pt.slots] at X553 l553 y553 z553 st553 hQ553
  subst l553 y553 z553
  refine own_go st553 ?_
  obtain ⟨rfl, Nq553, e553⟩ := hQ553
  have N553 := Fr.app N552 Nq553
  refine og (fun _ k => XS.ifNo X553.here hx rfl (hb hby at_320) rfl ((if0 _ _).trans (feq (by decide : ¬ ((1 : Int32) = (0 : Int32)))).1) k) ?_
  refine og (fun _ k => XS.iload X553.here hx rfl (hb hby at_323) rfl k) ?_
  try dsimp only [mkF]
  refine og (fun _ k => XS.iconst X553.here hx rfl (hb hby at_325) k) ?_
  refine og (fun _ k => XS.icmpNo X553.here hx rfl (hb hby at_326) rfl (flt (by decide : ¬ ((4 : Int32) < (2 : Int32)))).1 k) ?_
  refine og (fun _ k => XS.aload X553.here hx rfl (hb hby at_329) rfl rfl k) ?_
  refine og (fun _ k => XS.iload X553.here hx rfl (hb hby at_331) rfl k) ?_
  refine og (fun _ k => XS.iload X553.here hx rfl (hb hby at_333) rfl k) ?_
  try dsimp only [mkF]
  refine og (fun _ k => XS.iconst X553.here hx rfl (hb hby at_335) k) ?_
  refine og (fun _ k => XS.iload X553.here hx rfl (hb hby at_336) rfl k) ?_
  refine og (fun _ k => XS.iconst X553.here hx rfl (hb hby at_338) k) ?_
  refine og (fun _ k => XS.icmpYes X553.here hx rfl (pc0 := 339) (pc' := 346) rfl (hb hby at_339) rfl (feq (by decide : ¬ ((4 : Int32) = (2 : Int32)))).2 (by decide) (by decide) k) ?_
  refine og (fun _ k => XS.iconst X553.here hx rfl (hb hby at_346) k) ?_
  try dsimp only [mkF]
  obtain ⟨v554, _, ⟨T554, L554, k554, n554⟩, -, X554, ⟨Lc554, hQ554, l554, y554, z554⟩, st554⟩ := Jvm.LawKit.callS X553 hx (y := (⟨"com/example/rolelattice/rolelattice/decision/DistinguishedNameEscapeValuePinLaw", "check", "(Ljava/lang/String;ICZZ)Z"⟩ : MethodName)) hown (mvT hZ (tw hw 189 rfl)) (mvT hZ (tw hw 190 rfl)) (mvT hZ (tw hw 184 rfl)) (mvT hZ (tw hw 191 rfl)) (by decide) (backOf (W := 0) (rm_chk l Z a0 hw [] xr tr kr ((own_ex c0 (1 : Int32) (0 : Int32)) ++ (own_ex c1 (0 : Int32) (0 : Int32)) ++ (own_ex c2 (0 : Int32) (0 : Int32)) ++ (own_ex c3 (0 : Int32) (1 : Int32))) cdr N2r vsr (own_ex c0 (1 : Int32) (0 : Int32)).length c1 (0 : Int32) (0 : Int32) G1 G3 h1 n0 O1 O2 P5 O4 rG3 OA OH OL E_xr Fv_xr Fc_xr V_tr hC hok (own_le2 (show ((own_ex c0 (1 : Int32) (0 : Int32)) ++ (own_ex c1 (0 : Int32) (0 : Int32)) ++ (own_ex c2 (0 : Int32) (0 : Int32)) ++ (own_ex c3 (0 : Int32) (1 : Int32))) = (own_ex c0 (1 : Int32) (0 : Int32)) ++ (own_ex c1 (0 : Int32) (0 : Int32)) ++ ((own_ex c2 (0 : Int32) (0 : Int32)) ++ (own_ex c3 (0 : Int32) (1 : Int32))) from by simp) (show (own_ex c0 (1 : Int32) (0 : Int32)).length = (own_ex c0 (1 : Int32) (0 : Int32)).length from by first | rfl | simp only [List.length_append])) (own_at2 (show ((own_ex c0 (1 : Int32) (0 : Int32)) ++ (own_ex c1 (0 : Int32) (0 : Int32)) ++ (own_ex c2 (0 : Int32) (0 : Int32)) ++ (own_ex c3 (0 : Int32) (1 : Int32))) = (own_ex c0 (1 : Int32) (0 : Int32)) ++ (own_ex c1 (0 : Int32) (0 : Int32)) ++ ((own_ex c2 (0 : Int32) (0 : Int32)) ++ (own_ex c3 (0 : Int32) (1 : Int32))) from by simp) (show (own_ex c0 (1 : Int32) (0 : Int32)).length = (own_ex c0 (1 : Int32) (0 : Int32)).length from by first | rfl | simp only [List.length_append]))) hZ (tw hw 191 rfl) (tw hw 184 rfl) (by decide) (by decide)) (g := (mkF m 347 #[.val (.int p1), .val (.int p2), .val (.int p3), .val (.int p4), .val (.int p5), .val (.int (4 : Int32)), .val (.int c0), .val (.int c1), .val (.int c2), .val (.int c3), .val (.ref xs), .val (.ref xr), .val (.int (Int32.ofNat (own_ex c0 (1 : Int32) (0 : Int32)).length)), .val (.int (Int32.ofNat (own_ex c1 (0 : Int32) (0 : Int32)).length)), .val (.int (Int32.ofNat (own_ex c2 (0 : Int32) (0 : Int32)).length)), .val (.int (Int32.ofNat (own_ex c3 (0 : Int32) (1 : Int32)).length))] [(.int (0 : Int32)), (.int (0 : Int32)), (.int c1), (.int (Int32.ofNat (own_ex c0 (1 : Int32) (0 : Int32)).length)), (.ref xr)])) rfl (by rw [hml]; rfl) (argsL := [(.ref xr), (.int (Int32.ofNat (own_ex c0 (1 : Int32) (0 : Int32)).length)), (.int c1), (.int (0 : Int32)), (.int (0 : Int32))]) (rest := []) (lenOf pd_44 rfl) rfl (by show 2 * 0 + _ ≤ _; exact Nat.le_of_eq rfl) (hb hby at_347) (fun _ _ => ⟨rfl, e553, (by decide : 24 + 0 ≤ _), (by decide : 660 + 0 ≤ _)⟩)
  dsimp only [Pt.U, Pt.locs, Pt.cells, Pt.slots] at X554 l554 y554 z554 st554 hQ554
  subst l554 y554 z554
  refine own_go st554 ?_
  obtain ⟨rfl, Nq554, e554⟩ := hQ554
  have N554 := Fr.app N553 Nq554
  refine og (fun _ k => XS.ifNo X554.here hx rfl (hb hby at_350) rfl ((if0 _ _).trans (feq (by decide : ¬ ((1 : Int32) = (0 : Int32)))).1) k) ?_
  refine og (fun _ k => XS.iload X554.here hx rfl (hb hby at_353) rfl k) ?_
  refine og (fun _ k => XS.iconst X554.here hx rfl (hb hby at_355) k) ?_
  refine og (fun _ k => XS.icmpNo X554.here hx rfl (hb hby at_356) rfl (flt (by decide : ¬ ((4 : Int32) < (3 : Int32)))).1 k) ?_
  try dsimp only [mkF]
  refine og (fun _ k => XS.aload X554.here hx rfl (hb hby at_359) rfl rfl k) ?_
  refine og (fun _ k => XS.iload X554.here hx rfl (hb hby at_361) rfl k) ?_
  refine og (fun _ k => XS.iload X554.here hx rfl (hb hby at_363) rfl k) ?_
  refine og (fun _ k => XS.iadd X554.here hx rfl (hb hby at_365) rfl k) ?_
  show own_Go p e below (T554.setTop (mkF m 366 #[.val (.int p1), .val (.int p2), .val (.int p3), .val (.int p4), .val (.int p5), .val (.int (4 : Int32)), .val (.int c0), .val (.int c1), .val (.int c2), .val (.int c3), .val (.ref xs), .val (.ref xr), .val (.int (Int32.ofNat (own_ex c0 (1 : Int32) (0 : Int32)).length)), .val (.int (Int32.ofNat (own_ex c1 (0 : Int32) (0 : Int32)).length)), .val (.int (Int32.ofNat (own_ex c2 (0 : Int32) (0 : Int32)).length)), .val (.int (Int32.ofNat (own_ex c3 (0 : Int32) (1 : Int32)).length))] [(.int ((Int32.ofNat (own_ex c0 (1 : Int32) (0 : Int32)).length) + (Int32.ofNat (own_ex c1 (0 : Int32) (0 : Int32)).length))), (.ref xr)])) _
  rw [own_ofadd]
  try dsimp only [mkF]
  refine og (fun _ k => XS.iload X554.here hx rfl (hb hby at_366) rfl k) ?_
  refine og (fun _ k => XS.iconst X554.here hx rfl (hb hby at_368) k) ?_
  refine og (fun _ k => XS.iload X554.here hx rfl (hb hby at_369) rfl k) ?_
  refine og (fun _ k => XS.iconst X554.here hx rfl (hb hby at_371) k) ?_
  refine og (fun _ k => XS.icmpYes X554.here hx rfl (pc0 := 372) (pc' := 379) rfl (hb hby at_372) rfl (feq (by decide : ¬ ((4 : Int32) = (3 : Int32)))).2 (by decide) (by decide) k) ?_
  try dsimp only [mkF]
  refine og (fun _ k => XS.iconst X554.here hx rfl (hb hby at_379) k) ?_
  obtain ⟨v555, _, ⟨T555, L555, k555, n555⟩, -, X555, ⟨Lc555, hQ555, l555, y555, z555⟩, st555⟩ := Jvm.LawKit.callS X554 hx (y := (⟨"com/example/rolelattice/rolelattice/decision/DistinguishedNameEscapeValuePinLaw", "check", "(Ljava/lang/String;ICZZ)Z"⟩ : MethodName)) hown (mvT hZ (tw hw 189 rfl)) (mvT hZ (tw hw 190 rfl)) (mvT hZ (tw hw 184 rfl)) (mvT hZ (tw hw 191 rfl)) (by decide) (backOf (W := 0) (rm_chk l Z a0 hw [] xr tr kr ((own_ex c0 (1 : Int32) (0 : Int32)) ++ (own_ex c1 (0 : Int32) (0 : Int32)) ++ (own_ex c2 (0 : Int32) (0 : Int32)) ++ (own_ex c3 (0 : Int32) (1 : Int32))) cdr N2r vsr ((own_ex c0 (1 : Int32) (0 : Int32)).length + (own_ex c1 (0 : Int32) (0 : Int32)).length) c2 (0 : Int32) (0 : Int32) G1 G3 h1 n0 O1 O2 P5 O4 rG3 OA OH OL E_xr Fv_xr Fc_xr V_tr hC hok (own_le2 (show ((own_ex c0 (1 : Int32) (0 : Int32)) ++ (own_ex c1 (0 : Int32) (0 : Int32)) ++ (own_ex c2 (0 : Int32) (0 : Int32)) ++ (own_ex c3 (0 : Int32) (1 : Int32))) = ((own_ex c0 (1 : Int32) (0 : Int32)) ++ (own_ex c1 (0 : Int32) (0 : Int32))) ++ (own_ex c2 (0 : Int32) (0 : Int32)) ++ (own_ex c3 (0 : Int32) (1 : Int32)) from by simp) (show ((own_ex c0 (1 : Int32) (0 : Int32)).length + (own_ex c1 (0 : Int32) (0 : Int32)).length) = ((own_ex c0 (1 : Int32) (0 : Int32)) ++ (own_ex c1 (0 : Int32) (0 : Int32))).length from by first | rfl | simp only [List.length_append])) (own_at2 (show ((own_ex c0 (1 : Int32) (0 : Int32)) ++ (own_ex c1 (0 : Int32) (0 : Int32)) ++ (own_ex c2 (0 : Int32) (0 : Int32)) ++ (own_ex c3 (0 : Int32) (1 : Int32))) = ((own_ex c0 (1 : Int32) (0 : Int32)) ++ (own_ex c1 (0 : Int32) (0 : Int32))) ++ (own_ex c2 (0 : Int32) (0 : Int32)) ++ (own_ex c3 (0 : Int32) (1 : Int32)) from by simp) (show ((own_ex c0 (1 : Int32) (0 : Int32)).length + (own_ex c1 (0 : Int32) (0 : Int32)).length) = ((own_ex c0 (1 : Int32) (0 : Int32)) ++ (own_ex c1 (0 : Int32) (0 : Int32))).length from by first | rfl | simp only [List.length_append]))) hZ (tw hw 191 rfl) (tw hw 184 rfl) (by decide) (by decide)) (g := (mkF m 380 #[.val (.int p1), .val (.int p2), .val (.int p3), .val (.int p4), .val (.int p5), .val (.int (4 : Int32)), .val (.int c0), .val (.int c1), .val (.int c2), .val (.int c3), .val (.ref xs), .val (.ref xr), .val (.int (Int32.ofNat (own_ex c0 (1 : Int32) (0 : Int32)).length)), .val (.int (Int32.ofNat (own_ex c1 (0 : Int32) (0 : Int32)).length)), .val (.int (Int32.ofNat (own_ex c2 (0 : Int32) (0 : Int32)).length)), .val (.int (Int32.ofNat (own_ex c3 (0 : Int32) (1 : Int32)).length))] [(.int (0 : Int32)), (.int (0 : Int32)), (.int c2), (.int (Int32.ofNat ((own_ex c0 (1 : Int32) (0 : Int32)).length + (own_ex c1 (0 : Int32) (0 : Int32)).length))), (.ref xr)])) rfl (by rw [hml]; rfl) (argsL := [(.ref xr), (.int (Int32.ofNat ((own_ex c0 (1 : Int32) (0 : Int32)).length + (own_ex c1 (0 : Int32) (0 : Int32)).length))), (.int c2), (.int (0 : Int32)), (.int (0 : Int32))]) (rest := []) (lenOf pd_44 rfl) rfl (by show 2 * 0 + _ ≤ _; exact Nat.le_of_eq rfl) (hb hby at_380) (fun _ _ => ⟨rfl, e554, (by decide : 24 + 0 ≤ _), (by decide : 660 + 0 ≤ _)⟩)
  dsimp only [Pt.U, Pt.locs, Pt.cells, Pt.slots] at X555 l555 y555 z555 st555 hQ555
  subst l555 y555 z555
  refine own_go st555 ?_
  obtain ⟨rfl, Nq555, e555⟩ := hQ555
  have N555 := Fr.app N554 Nq555
  refine og (fun _ k => XS.ifNo X555.here hx rfl (hb hby at_383) rfl ((if0 _ _).trans (feq (by decide : ¬ ((1 : Int32) = (0 : Int32)))).1) k) ?_
  refine og (fun _ k => XS.iload X555.here hx rfl (hb hby at_386) rfl k) ?_
  refine og (fun _ k => XS.iconst X555.here hx rfl (hb hby at_388) k) ?_
  try dsimp only [mkF]
  refine og (fun _ k => XS.icmpNo X555.here hx rfl (hb hby at_389) rfl (flt (by decide : ¬ ((4 : Int32) < (4 : Int32)))).1 k) ?_
  refine og (fun _ k => XS.aload X555.here hx rfl (hb hby at_392) rfl rfl k) ?_
  refine og (fun _ k => XS.iload X555.here hx rfl (hb hby at_394) rfl k) ?_
  refine og (fun _ k => XS.iload X555.here hx rfl (hb hby at_396) rfl k) ?_
  refine og (fun _ k => XS.iadd X555.here hx rfl (hb hby at_398) rfl k) ?_
  try dsimp only [mkF]
  show own_Go p e below (T555.setTop (mkF m 399 #[.val (.int p1), .val (.int p2), .val (.int p3), .val (.int p4), .val (.int p5), .val (.int (4 : Int32)), .val (.int c0), .val (.int c1), .val (.int c2), .val (.int c3), .val (.ref xs), .val (.ref xr), .val (.int (Int32.ofNat (own_ex c0 (1 : Int32) (0 : Int32)).length)), .val (.int (Int32.ofNat (own_ex c1 (0 : Int32) (0 : Int32)).length)), .val (.int (Int32.ofNat (own_ex c2 (0 : Int32) (0 : Int32)).length)), .val (.int (Int32.ofNat (own_ex c3 (0 : Int32) (1 : Int32)).length))] [(.int ((Int32.ofNat (own_ex c0 (1 : Int32) (0 : Int32)).length) + (Int32.ofNat (own_ex c1 (0 : Int32) (0 : Int32)).length))), (.ref xr)])) _
  rw [own_ofadd]
  refine og (fun _ k => XS.iload X555.here hx rfl (hb hby at_399) rfl k) ?_
  refine og (fun _ k => XS.iadd X555.here hx rfl (hb hby at_401) rfl k) ?_
  show own_Go p e below (T555.setTop (mkF m 402 #[.val (.int p1), .val (.int p2), .val (.int p3), .val (.int p4), .val (.int p5), .val (.int (4 : Int32)), .val (.int c0), .val (.int c1), .val (.int c2), .val (.int c3), .val (.ref xs), .val (.ref xr), .val (.int (Int32.ofNat (own_ex c0 (1 : Int32) (0 : Int32)).length)), .val (.int (Int32.ofNat (own_ex c1 (0 : Int32) (0 : Int32)).length)), .val (.int (Int32.ofNat (own_ex c2 (0 : Int32) (0 : Int32)).length)), .val (.int (Int32.ofNat (own_ex c3 (0 : Int32) (1 : Int32)).length))] [(.int ((Int32.ofNat ((own_ex c0 (1 : Int32) (0 : Int32)).length + (own_ex c1 (0 : Int32) (0 : Int32)).length)) + (Int32.ofNat (own_ex c2 (0 : Int32) (0 : Int32)).length))), (.ref xr)])) _
  rw [own_ofadd]
  refine og (fun _ k => XS.iload X555.here hx rfl (hb hby at_402) rfl k) ?_
  try dsimp only [mkF]
  refine og (fun _ k => XS.iconst X555.here hx rfl (hb hby at_404) k) ?_
  refine og (fun _ k => XS.iconst X555.here hx rfl (hb hby at_405) k) ?_
  obtain ⟨v556, _, ⟨T556, L556, k556, n556⟩, -, X556, ⟨Lc556, hQ556, l556, y556, z556⟩, st556⟩ := Jvm.LawKit.callS X555 hx (y := (⟨"com/example/rolelattice/rolelattice/decision/DistinguishedNameEscapeValuePinLaw", "check", "(Ljava/lang/String;ICZZ)Z"⟩ : MethodName)) hown (mvT hZ (tw hw 189 rfl)) (mvT hZ (tw hw 190 rfl)) (mvT hZ (tw hw 184 rfl)) (mvT hZ (tw hw 191 rfl)) (by decide) (backOf (W := 0) (rm_chk l Z a0 hw [] xr tr kr ((own_ex c0 (1 : Int32) (0 : Int32)) ++ (own_ex c1 (0 : Int32) (0 : Int32)) ++ (own_ex c2 (0 : Int32) (0 : Int32)) ++ (own_ex c3 (0 : Int32) (1 : Int32))) cdr N2r vsr ((own_ex c0 (1 : Int32) (0 : Int32)).length + (own_ex c1 (0 : Int32) (0 : Int32)).length + (own_ex c2 (0 : Int32) (0 : Int32)).length) c3 (0 : Int32) (1 : Int32) G1 G3 h1 n0 O1 O2 P5 O4 rG3 OA OH OL E_xr Fv_xr Fc_xr V_tr hC hok (own_le2 (show ((own_ex c0 (1 : Int32) (0 : Int32)) ++ (own_ex c1 (0 : Int32) (0 : Int32)) ++ (own_ex c2 (0 : Int32) (0 : Int32)) ++ (own_ex c3 (0 : Int32) (1 : Int32))) = ((own_ex c0 (1 : Int32) (0 : Int32)) ++ (own_ex c1 (0 : Int32) (0 : Int32)) ++ (own_ex c2 (0 : Int32) (0 : Int32))) ++ (own_ex c3 (0 : Int32) (1 : Int32)) ++ ([] : List Int32) from by simp) (show ((own_ex c0 (1 : Int32) (0 : Int32)).length + (own_ex c1 (0 : Int32) (0 : Int32)).length + (own_ex c2 (0 : Int32) (0 : Int32)).length) = ((own_ex c0 (1 : Int32) (0 : Int32)) ++ (own_ex c1 (0 : Int32) (0 : Int32)) ++ (own_ex c2 (0 : Int32) (0 : Int32))).length from by first | rfl | simp only [List.length_append])) (own_at2 (show ((own_ex c0 (1 : Int32) (0 : Int32)) ++ (own_ex c1 (0 : Int32) (0 : Int32)) ++ (own_ex c2 (0 : Int32) (0 : Int32)) ++ (own_ex c3 (0 : Int32) (1 : Int32))) = ((own_ex c0 (1 : Int32) (0 : Int32)) ++ (own_ex c1 (0 : Int32) (0 : Int32)) ++ (own_ex c2 (0 : Int32) (0 : Int32))) ++ (own_ex c3 (0 : Int32) (1 : Int32)) ++ ([] : List Int32) from by simp) (show ((own_ex c0 (1 : Int32) (0 : Int32)).length + (own_ex c1 (0 : Int32) (0 : Int32)).length + (own_ex c2 (0 : Int32) (0 : Int32)).length) = ((own_ex c0 (1 : Int32) (0 : Int32)) ++ (own_ex c1 (0 : Int32) (0 : Int32)) ++ (own_ex c2 (0 : Int32) (0 : Int32))).length from by first | rfl | simp only [List.length_append]))) hZ (tw hw 191 rfl) (tw hw 184 rfl) (by decide) (by decide)) (g := (mkF m 406 #[.val (.int p1), .val (.int p2), .val (.int p3), .val (.int p4), .val (.int p5), .val (.int (4 : Int32)), .val (.int c0), .val (.int c1), .val (.int c2), .val (.int c3), .val (.ref xs), .val (.ref xr), .val (.int (Int32.ofNat (own_ex c0 (1 : Int32) (0 : Int32)).length)), .val (.int (Int32.ofNat (own_ex c1 (0 : Int32) (0 : Int32)).length)), .val (.int (Int32.ofNat (own_ex c2 (0 : Int32) (0 : Int32)).length)), .val (.int (Int32.ofNat (own_ex c3 (0 : Int32) (1 : Int32)).length))] [(.int (1 : Int32)), (.int (0 : Int32)), (.int c3), (.int (Int32.ofNat ((own_ex c0 (1 : Int32) (0 : Int32)).length + (own_ex c1 (0 : Int32) (0 : Int32)).length + (own_ex c2 (0 : Int32) (0 : Int32)).length))), (.ref xr)])) rfl (by rw [hml]; rfl) (argsL := [(.ref xr), (.int (Int32.ofNat ((own_ex c0 (1 : Int32) (0 : Int32)).length + (own_ex c1 (0 : Int32) (0 : Int32)).length + (own_ex c2 (0 : Int32) (0 : Int32)).length))), (.int c3), (.int (0 : Int32)), (.int (1 : Int32))]) (rest := []) (lenOf pd_44 rfl) rfl (by show 2 * 0 + _ ≤ _; exact Nat.le_of_eq rfl) (hb hby at_406) (fun _ _ => ⟨rfl, e555, (by decide : 24 + 0 ≤ _), (by decide : 660 + 0 ≤ _)⟩)
  dsimp only [Pt.U, Pt.locs, Pt.cells, Pt.slots] at X556 l556 y556 z556 st556 hQ556
  subst l556 y556 z556
  refine own_go st556 ?_
  obtain ⟨rfl, Nq556, e556⟩ := hQ556
  have N556 := Fr.app N555 Nq556
  refine og (fun _ k => XS.ifNo X556.here hx rfl (hb hby at_409) rfl ((if0 _ _).trans (feq (by decide : ¬ ((1 : Int32) = (0 : Int32)))).1) k) ?_
  refine og (fun _ k => XS.iconst X556.here hx rfl (hb hby at_412) k) ?_
  try dsimp only [mkF]
  refine og (fun _ k => XS.goto X556.here hx rfl (pc0 := 413) (pc' := 417) rfl (hb hby at_413) (by decide) (by decide) k) ?_
  refine own_finW (v := (some (.int (nar .boolean (1 : Int32))))) X556 hh hZ hS0 (by rw [e556]; exact hk0) (fun h => by rw [hrt] at h; cases h) hlk (fun fs hr => retN X556 hx (t := .boolean) hrt (by simp) (hb hby at_417) hr) (QQ := QQ0 n0) ?_ own_hEL e556 (C0) (by decide) (by decide)
  rw [e556]
  exact ⟨rfl, N556⟩

set_option maxRecDepth 65536 in
set_option maxHeartbeats 40000000 in
theorem own_fst4 (l : Launch) (Z : State) (a0 : Array Value) (hw : ∀ d ∈ tables_1, d.before a0 Z = true) (p1 p2 p3 p4 p5 c0 c1 c2 c3 G1 : Int32) (G3 : Value) (h0 : Heap) (n0 : Nat) {p : Program} {e : Env} {s : State} {vm0 : Vm} {m : MethodId} {below : List Frame} {meth : Method} {cC : Code} {T0 : State} {locs : List Loc} (X0 : Stand p l e room_1 (s.setVm vm0) m #[(.int p1), (.int p2), (.int p3), (.int p4), (.int p5)] below meth cC T0 locs 0 0) (hx : p.tables.exec = Jvm.exec) (hby : cC.code = code) (hml : cC.maxLocals = maxLocals) (hown : (s.setVm vm0).vm.findClass "com/example/rolelattice/rolelattice/decision/DistinguishedNameEscapeValuePinLaw" = some m.cls) (hZ : Z.Warmed39 (s.setVm vm0).vm) (hrt : meth.sig.returnType = ret) (hlk : meth.locks = false) (h1 : Heap) (e0 : T0.heap = h1) (N0 : Fr n0 locs) (Z0 : n0 ≤ h1.size) (O1 : Old Z n0 h1) (hh : s.heap = h0) {k0 : Nat} (hS0 : s.Since vm0 k0) (hk0 : k0 ≤ h1.size) (C0 : CHr Z own_EL s.vm h0 vm0 h1) (O2 : Sta Z Z.heap "java/lang/String" "COMPACT_STRINGS" "Z" (.int G1)) (P5 : ¬ (G1 = (0 : Int32))) (O4 : Sta Z Z.heap "jdk/internal/util/Preconditions" "SIOOBE_FORMATTER" "Ljava/util/function/BiFunction;" G3) (rG3 : G3.isRef = true) (OA : Sta Z Z.heap "java/lang/StringUTF16" "$assertionsDisabled" "Z" (.int (1 : Int32))) (OH : Sta Z Z.heap "java/lang/StringUTF16" "HI_BYTE_SHIFT" "I" (.int (0 : Int32))) (OL : Sta Z Z.heap "java/lang/StringUTF16" "LO_BYTE_SHIFT" "I" (.int (8 : Int32))) (b_c0 : ¬ c0 < 0 ∧ ¬ (65535 : Int32) < c0) (b_c1 : ¬ c1 < 0 ∧ ¬ (65535 : Int32) < c1) (b_c2 : ¬ c2 < 0 ∧ ¬ (65535 : Int32) < c2) (b_c3 : ¬ c3 < 0 ∧ ¬ (65535 : Int32) < c3) :
    own_Go p e below (T0.setTop (mkF m 25 #[.val (.int p1), .val (.int p2), .val (.int p3), .val (.int p4), .val (.int p5), .val (.int (4 : Int32)), .val (.int c0), .val (.int c1), .val (.int c2), .val (.int c3), .unset, .unset, .unset, .unset, .unset, .unset] [])) (fun oO U' => ∃ rV rL, oO = .returned rV ∧ QQ0 n0 rV U'.heap rL ∧ CHr Z own_EL s.vm s.heap U'.vm U'.heap ∧ ReturnedEndW s oO U' rL 32 3328) := by
  have own_wS := own_wSt hw
  have own_hEL := own_hELt hw
  refine og (fun _ k => XS.iload X0.here hx rfl (hb hby at_25) rfl k) ?_
  refine og (fun _ k => XS.ifYes X0.here hx rfl (pc0 := 27) (pc' := 45) rfl (hb hby at_27) rfl ((if0 _ _).trans (feq (by decide : ¬ ((4 : Int32) = (0 : Int32)))).2) (by decide) (by decide) k) ?_
  refine og (fun _ k => XS.iload X0.here hx rfl (hb hby at_45) rfl k) ?_
  refine og (fun _ k => XS.iconst X0.here hx rfl (hb hby at_47) k) ?_
  try dsimp only [mkF]
  refine og (fun _ k => XS.icmpYes X0.here hx rfl (pc0 := 48) (pc' := 61) rfl (hb hby at_48) rfl (feq (by decide : ¬ ((4 : Int32) = (1 : Int32)))).2 (by decide) (by decide) k) ?_
  refine og (fun _ k => XS.iload X0.here hx rfl (hb hby at_61) rfl k) ?_
  refine og (fun _ k => XS.iconst X0.here hx rfl (hb hby at_63) k) ?_
  refine og (fun _ k => XS.icmpYes X0.here hx rfl (pc0 := 64) (pc' := 92) rfl (hb hby at_64) rfl (feq (by decide : ¬ ((4 : Int32) = (2 : Int32)))).2 (by decide) (by decide) k) ?_
  refine og (fun _ k => XS.iload X0.here hx rfl (hb hby at_92) rfl k) ?_
  try dsimp only [mkF]
  refine og (fun _ k => XS.iconst X0.here hx rfl (hb hby at_94) k) ?_
  refine og (fun _ k => XS.icmpYes X0.here hx rfl (pc0 := 95) (pc' := 128) rfl (hb hby at_95) rfl (feq (by decide : ¬ ((4 : Int32) = (3 : Int32)))).2 (by decide) (by decide) k) ?_
  obtain ⟨T557, h557, X557, e557, E557, A557, D557, U557, st557⟩ := newO X0 hx hZ hown (tw hw 0 rfl) (tw hw 1 rfl) (tw hw 2 rfl) e0 (g := (mkF m 128 #[.val (.int p1), .val (.int p2), .val (.int p3), .val (.int p4), .val (.int p5), .val (.int (4 : Int32)), .val (.int c0), .val (.int c1), .val (.int c2), .val (.int c3), .unset, .unset, .unset, .unset, .unset, .unset] [])) rfl (hb hby at_128) (by decide) (by decide)
  obtain ⟨b557, g557⟩ : ∃ z, z = h1.size := ⟨_, rfl⟩
  rw [← g557] at A557 D557 U557 st557
  refine own_go st557 ?_
  have C558 := C0.trans (CHr.ext E557 C0.1)
  have F557_value : Fld Z h557 b557 "java/lang/String" "value" "[B" .null := D557 (Or.inr (tw hw 16 rfl)) (ty := (.array .byte)) (by decide)
  have F557_coder : Fld Z h557 b557 "java/lang/String" "coder" "B" (.int (0 : Int32)) := D557 (Or.inr (tw hw 17 rfl)) (ty := .byte) (by decide)
  refine og (fun _ k => XS.dup X557.here hx rfl (hb hby at_131) rfl rfl k) ?_
  refine og (fun _ k => XS.iconst X557.here hx rfl (hb hby at_132) k) ?_
  try dsimp only [mkF]
  obtain ⟨T559, h559, k559, X559, e559, E559, A559, st559⟩ := newP X557 hx hZ (tw hw 3 rfl) e557 (g := (mkF m 133 #[.val (.int p1), .val (.int p2), .val (.int p3), .val (.int p4), .val (.int p5), .val (.int (4 : Int32)), .val (.int c0), .val (.int c1), .val (.int c2), .val (.int c3), .unset, .unset, .unset, .unset, .unset, .unset] [(.int (4 : Int32)), (.ref b557), (.ref b557)])) rfl (hb hby at_133) rfl (by decide) (cap := 4) (by decide) (by decide) (by decide) (by decide)
  obtain ⟨b559, g559⟩ : ∃ z, z = h557.size := ⟨_, rfl⟩
  rw [← g559] at A559 st559
  refine own_go st559 ?_
  have C560 := C558.trans (CHr.ext E559 C558.1)
  have V559 : Arv Z h559 b559 k559 .char (4 : Int32) [(.int (0 : Int32)), (.int (0 : Int32)), (.int (0 : Int32)), (.int (0 : Int32))] (.int (0 : Int32)) := (Arv.new A559 (by decide)).pad (pad_rep [] (.int (0 : Int32)) 4)
  refine og (fun _ k => XS.dup X559.here hx rfl (hb hby at_135) rfl rfl k) ?_
  refine og (fun _ k => XS.iconst X559.here hx rfl (hb hby at_136) k) ?_
  refine og (fun _ k => XS.iload X559.here hx rfl (hb hby at_137) rfl k) ?_
  obtain ⟨c561, A561, q561, S561, M561, Hs561, Gs561⟩ := id V559
  obtain ⟨T562, h562, X562, e562, W562, st562⟩ := stC X559 hx hZ e559 A561 (j := (0 : Int32)) (inb_of S561 ⟨by decide, by decide⟩) (g := (mkF m 139 #[.val (.int p1), .val (.int p2), .val (.int p3), .val (.int p4), .val (.int p5), .val (.int (4 : Int32)), .val (.int c0), .val (.int c1), .val (.int c2), .val (.int c3), .unset, .unset, .unset, .unset, .unset, .unset] [(.int c0), (.int (0 : Int32)), (.ref b559), (.ref b559), (.ref b557), (.ref b557)])) rfl rfl (hb hby at_139)
  refine own_go st562 ?_
  have N562 := Fr.snoc X562 N0 (Nat.le_trans Z0 (Nat.le_trans E557.1 (Nat.le_of_eq g559.symm)))
  have f563 := (Safe.ext E559 C558.1 (Safe.new (Nat.le_of_eq g559.symm)))
  have C564 := C560.trans (CHr.wr W562 f563 C560.1)
  have V562 : Arv Z h562 b559 k559 .char (4 : Int32) [(.int (nar .char c0)), (.int (0 : Int32)), (.int (0 : Int32)), (.int (0 : Int32))] (.int (0 : Int32)) := Arv.set A561 q561 S561 M561 Hs561 Gs561 (fits_nar_char _) W562 0 rfl (Nat.le_of_ble_eq_true rfl)
  have V562q : Arv Z h562 b559 k559 .char (4 : Int32) [(.int c0), (.int (0 : Int32)), (.int (0 : Int32)), (.int (0 : Int32))] (.int (0 : Int32)) := by rw [show nar .char c0 = c0 from (own_nc b_c0.1 b_c0.2)] at V562; exact V562
  try dsimp only [mkF]
  refine og (fun _ k => XS.dup X562.here hx rfl (hb hby at_140) rfl rfl k) ?_
  refine og (fun _ k => XS.iconst X562.here hx rfl (hb hby at_141) k) ?_
  refine og (fun _ k => XS.iload X562.here hx rfl (hb hby at_142) rfl k) ?_
  obtain ⟨c565, A565, q565, S565, M565, Hs565, Gs565⟩ := id V562q
  obtain ⟨T566, h566, X566, e566, W566, st566⟩ := stC X562 hx hZ e562 A565 (j := (1 : Int32)) (inb_of S565 ⟨by decide, by decide⟩) (g := (mkF m 144 #[.val (.int p1), .val (.int p2), .val (.int p3), .val (.int p4), .val (.int p5), .val (.int (4 : Int32)), .val (.int c0), .val (.int c1), .val (.int c2), .val (.int c3), .unset, .unset, .unset, .unset, .unset, .unset] [(.int c1), (.int (1 : Int32)), (.ref b559), (.ref b559), (.ref b557), (.ref b557)])) rfl rfl (hb hby at_144)
  refine own_go st566 ?_
  have N566 := Fr.snoc X566 N562 (Nat.le_trans Z0 (Nat.le_trans E557.1 (Nat.le_of_eq g559.symm)))
  have f567 := (Safe.wr W562 f563 C560.1 f563)
  have C568 := C564.trans (CHr.wr W566 f567 C564.1)
  have V566 : Arv Z h566 b559 k559 .char (4 : Int32) [(.int c0), (.int (nar .char c1)), (.int (0 : Int32)), (.int (0 : Int32))] (.int (0 : Int32)) := Arv.set A565 q565 S565 M565 Hs565 Gs565 (fits_nar_char _) W566 1 rfl (Nat.le_of_ble_eq_true rfl)
  have V566q : Arv Z h566 b559 k559 .char (4 : Int32) [(.int c0), (.int c1), (.int (0 : Int32)), (.int (0 : Int32))] (.int (0 : Int32)) := by rw [show nar .char c1 = c1 from (own_nc b_c1.1 b_c1.2)] at V566; exact V566
  refine og (fun _ k => XS.dup X566.here hx rfl (hb hby at_145) rfl rfl k) ?_
  try dsimp only [mkF]
  refine og (fun _ k => XS.iconst X566.here hx rfl (hb hby at_146) k) ?_
  refine og (fun _ k => XS.iload X566.here hx rfl (hb hby at_147) rfl k) ?_
  obtain ⟨c569, A569, q569, S569, M569, Hs569, Gs569⟩ := id V566q
  obtain ⟨T570, h570, X570, e570, W570, st570⟩ := stC X566 hx hZ e566 A569 (j := (2 : Int32)) (inb_of S569 ⟨by decide, by decide⟩) (g := (mkF m 149 #[.val (.int p1), .val (.int p2), .val (.int p3), .val (.int p4), .val (.int p5), .val (.int (4 : Int32)), .val (.int c0), .val (.int c1), .val (.int c2), .val (.int c3), .unset, .unset, .unset, .unset, .unset, .unset] [(.int c2), (.int (2 : Int32)), (.ref b559), (.ref b559), (.ref b557), (.ref b557)])) rfl rfl (hb hby at_149)
  refine own_go st570 ?_
  have N570 := Fr.snoc X570 N566 (Nat.le_trans Z0 (Nat.le_trans E557.1 (Nat.le_of_eq g559.symm)))
  have f571 := (Safe.wr W566 f567 C564.1 f567)
  have C572 := C568.trans (CHr.wr W570 f571 C568.1)
  have V570 : Arv Z h570 b559 k559 .char (4 : Int32) [(.int c0), (.int c1), (.int (nar .char c2)), (.int (0 : Int32))] (.int (0 : Int32)) := Arv.set A569 q569 S569 M569 Hs569 Gs569 (fits_nar_char _) W570 2 rfl (Nat.le_of_ble_eq_true rfl)
  have V570q : Arv Z h570 b559 k559 .char (4 : Int32) [(.int c0), (.int c1), (.int c2), (.int (0 : Int32))] (.int (0 : Int32)) := by rw [show nar .char c2 = c2 from (own_nc b_c2.1 b_c2.2)] at V570; exact V570
  refine og (fun _ k => XS.dup X570.here hx rfl (hb hby at_150) rfl rfl k) ?_
  refine og (fun _ k => XS.iconst X570.here hx rfl (hb hby at_151) k) ?_
  try dsimp only [mkF]
  refine og (fun _ k => XS.iload X570.here hx rfl (hb hby at_152) rfl k) ?_
  obtain ⟨c573, A573, q573, S573, M573, Hs573, Gs573⟩ := id V570q
  obtain ⟨T574, h574, X574, e574, W574, st574⟩ := stC X570 hx hZ e570 A573 (j := (3 : Int32)) (inb_of S573 ⟨by decide, by decide⟩) (g := (mkF m 154 #[.val (.int p1), .val (.int p2), .val (.int p3), .val (.int p4), .val (.int p5), .val (.int (4 : Int32)), .val (.int c0), .val (.int c1), .val (.int c2), .val (.int c3), .unset, .unset, .unset, .unset, .unset, .unset] [(.int c3), (.int (3 : Int32)), (.ref b559), (.ref b559), (.ref b557), (.ref b557)])) rfl rfl (hb hby at_154)
  refine own_go st574 ?_
  have N574 := Fr.snoc X574 N570 (Nat.le_trans Z0 (Nat.le_trans E557.1 (Nat.le_of_eq g559.symm)))
  have f575 := (Safe.wr W570 f571 C568.1 f571)
  have C576 := C572.trans (CHr.wr W574 f575 C572.1)
  have V574 : Arv Z h574 b559 k559 .char (4 : Int32) [(.int c0), (.int c1), (.int c2), (.int (nar .char c3))] (.int (0 : Int32)) := Arv.set A573 q573 S573 M573 Hs573 Gs573 (fits_nar_char _) W574 3 rfl (Nat.le_of_ble_eq_true rfl)
  have V574q : Arv Z h574 b559 k559 .char (4 : Int32) [(.int c0), (.int c1), (.int c2), (.int c3)] (.int (0 : Int32)) := by rw [show nar .char c3 = c3 from (own_nc b_c3.1 b_c3.2)] at V574; exact V574
  have f577 := (((((A557.ext E559).wr W562).wr W566).wr W570).wr W574)
  have ne578 : b557 ≠ b559 := Nat.ne_of_lt (Nat.lt_of_lt_of_le A557.lt (Nat.le_of_eq g559.symm))
  have f579 := (((((F557_value.ext E559).other W562 (Or.inl ne578)).other W566 (Or.inl ne578)).other W570 (Or.inl ne578)).other W574 (Or.inl ne578))
  have f580 := (((((F557_coder.ext E559).other W562 (Or.inl ne578)).other W566 (Or.inl ne578)).other W570 (Or.inl ne578)).other W574 (Or.inl ne578))
  have f581 := ((((((O1.ext E557).ext E559).wr W562 (Nat.le_trans Z0 (Nat.le_trans E557.1 (Nat.le_of_eq g559.symm)))).wr W566 (Nat.le_trans Z0 (Nat.le_trans E557.1 (Nat.le_of_eq g559.symm)))).wr W570 (Nat.le_trans Z0 (Nat.le_trans E557.1 (Nat.le_of_eq g559.symm)))).wr W574 (Nat.le_trans Z0 (Nat.le_trans E557.1 (Nat.le_of_eq g559.symm))))
  obtain ⟨v582, _, ⟨T582, L582, k582, n582⟩, -, X582, ⟨Lc582, hQ582, l582, y582, z582⟩, st582⟩ := X574.specialBack hx (y := (⟨"java/lang/String", "<init>", "([C)V"⟩ : MethodName)) rfl hown (mvT hZ (tw hw 4 rfl)) (mvT hZ (tw hw 5 rfl)) (mvT hZ (tw hw 6 rfl)) (by decide) (backOf (W := 1) (rm_i1 l Z a0 hw [] b557 b559 k559 (.int (0 : Int32)) ([c0, c1, c2, c3] : List Int32) G1 h574 n0 f581 f577 f579 f580 (Nat.le_trans Z0 (Nat.le_of_eq g557.symm)) OA OH OL O2 P5 (own_okL4 b_c0 b_c1 b_c2 b_c3) V574q (Nat.le_of_ble_eq_true rfl) (Nat.le_of_ble_eq_true rfl)) hZ (tw hw 6 rfl) (tw hw 2 rfl) (by decide) (by decide)) (g := (mkF m 155 #[.val (.int p1), .val (.int p2), .val (.int p3), .val (.int p4), .val (.int p5), .val (.int (4 : Int32)), .val (.int c0), .val (.int c1), .val (.int c2), .val (.int c3), .unset, .unset, .unset, .unset, .unset, .unset] [(.ref b559), (.ref b557), (.ref b557)])) rfl (by rw [hml]; rfl) (Steps.refl _) (a := b557) (argsL := [(.ref b559)]) (rest := [(.ref b557)]) (lenOf pd_41 rfl) rfl (by show 2 * 0 + _ ≤ _; exact Nat.le_of_eq rfl) (hb hby at_155) (fun _ _ => ⟨rfl, e574, (by decide : 2 + 2 ≤ _), (by decide : 8 + 36 ≤ _)⟩)
  dsimp only [Pt.U, Pt.locs, Pt.cells, Pt.slots] at X582 l582 y582 z582 st582 hQ582
  subst l582 y582 z582
  refine own_gos st582 ?_
  obtain ⟨t582, kt582, cd582, N2582, vs582, rfl, Nq582, K582, Fv582, Fc582, Vt582, hC582⟩ := hQ582
  have f583 := (Safe.wr W574 f575 C572.1 (Safe.wr W570 f571 C568.1 (Safe.wr W566 f567 C564.1 (Safe.wr W562 f563 C560.1 (Safe.ext E559 C558.1 (Safe.ext E557 C0.1 (Safe.new (Nat.le_of_eq g557.symm))))))))
  have C584 := C576.trans (CHr.keep K582 (sfS f583 sf0) C576.1)
  have N582 := Fr.app N574 Nq582
  refine og (fun _ k => XS.astore X582.here hx rfl (hb hby at_158) rfl rfl (l' := #[.val (.int p1), .val (.int p2), .val (.int p3), .val (.int p4), .val (.int p5), .val (.int (4 : Int32)), .val (.int c0), .val (.int c1), .val (.int c2), .val (.int c3), .val (.ref b557), .unset, .unset, .unset, .unset, .unset]) rfl k) ?_
  refine og (fun _ k => XS.aload X582.here hx rfl (hb hby at_160) rfl rfl k) ?_
  try dsimp only [mkF]
  have f585 := (f581.keep K582 (allS (Nat.le_trans Z0 (Nat.le_of_eq g557.symm)) all0))
  obtain ⟨v586, _, ⟨T586, L586, k586, n586⟩, -, X586, hS586, hg586, ⟨Lc586, hQ586, l586, y586, z586, A586⟩, st586⟩ := callSS X582 hx (y := (⟨"com/example/rolelattice/rolelattice/decision/DistinguishedName", "escapeValue", "(Ljava/lang/String;)Ljava/lang/String;"⟩ : MethodName)) hown (mvT hZ (tw hw 22 rfl)) (mvT hZ (tw hw 23 rfl)) (mvT hZ (tw hw 24 rfl)) (mvT hZ (tw hw 25 rfl)) (by decide) (backOfSH (W := 0) (rm_esc l Z a0 hw [] b557 t582 kt582 ([c0, c1, c2, c3] : List Int32) cd582 N2582 vs582 G1 G3 T582.heap n0 f585 O2 P5 O4 rG3 OA OH OL (f577.keep K582) Fv582 Fc582 Vt582 hC582 (own_okL4 b_c0 b_c1 b_c2 b_c3) (Nat.le_of_ble_eq_true rfl)) hZ (tw hw 25 rfl) (tw hw 24 rfl) (by decide) (by decide) own_hEL C584.1) (g := (mkF m 162 #[.val (.int p1), .val (.int p2), .val (.int p3), .val (.int p4), .val (.int p5), .val (.int (4 : Int32)), .val (.int c0), .val (.int c1), .val (.int c2), .val (.int c3), .val (.ref b557), .unset, .unset, .unset, .unset, .unset] [(.ref b557)])) rfl (by rw [hml]; rfl) (argsL := [(.ref b557)]) (rest := []) (lenOf pd_42 rfl) rfl (by show 2 * 0 + _ ≤ _; exact Nat.le_of_eq rfl) (hb hby at_162) (fun _ _ => ⟨rfl, (rfl : T582.heap = T582.heap), (by decide : 4 + 20 ≤ _), (by decide : 44 + 616 ≤ _)⟩)
  dsimp only [Pt.U, Pt.locs, Pt.cells, Pt.slots] at X586 l586 y586 z586 st586 hQ586 hS586 hg586 A586
  subst l586 y586 z586
  refine own_gos st586 ?_
  have z587 := (Nat.le_trans (Nat.le_trans (Nat.le_trans (Nat.le_trans (Nat.le_trans (Nat.le_trans E557.1 E559.1) (Keep.of_wr W562).1) (Keep.of_wr W566).1) (Keep.of_wr W570).1) (Keep.of_wr W574).1) K582.1)
  obtain ⟨X586, hS586, hZ586, hown586⟩ := rebS hS0 (k0 := _) (n1 := T582.heap.size) (by rw [(rfl : T582.heap = T582.heap)]; exact (Nat.le_trans hk0 z587)) X586 hS586 hg586 hZ hown
  obtain ⟨x586, t586, kt586, cd586, N2586, vs586, rfl, Nq586, K586, xg586, Ex586, Fv586, Fc586, Vt586, hC586⟩ := hQ586
  have C588 := C584.trans A586
  have N586 := Fr.app N582 Nq586
  refine og (fun _ k => XS.astore X586.here hx rfl (hb hby at_165) rfl rfl (l' := #[.val (.int p1), .val (.int p2), .val (.int p3), .val (.int p4), .val (.int p5), .val (.int (4 : Int32)), .val (.int c0), .val (.int c1), .val (.int c2), .val (.int c3), .val (.ref b557), .val (.ref x586), .unset, .unset, .unset, .unset]) rfl k) ?_
  show own_Go p e below (T586.setTop (mkF m 167 #[.val (.int p1), .val (.int p2), .val (.int p3), .val (.int p4), .val (.int p5), .val (.int (4 : Int32)), .val (.int c0), .val (.int c1), .val (.int c2), .val (.int c3), .val (.ref b557), .val (.ref x586), .unset, .unset, .unset, .unset] [])) _
  exact own_mid4 l Z a0 hw p1 p2 p3 p4 p5 c0 c1 c2 c3 b557 x586 t586 kt586 cd586 N2586 vs586 G1 G3 h0 n0 X586 hx hby hml hown586 hZ586 hrt hlk T586.heap (rfl : T586.heap = T586.heap) N586 (Nat.le_trans Z0 (Nat.le_trans z587 K586.1)) (f585.keep K586 all0) hh hS586 (Nat.le_refl _) C588 Ex586 Fv586 Fc586 Vt586 O2 P5 O4 rG3 OA OH OL (Eq.mp (congrArg (fun z => StrChars.Road.CodA z cd586 N2586 vs586) (own_escK4 c0 c1 c2 c3)) hC586) (Eq.mp (congrArg own_Ok (own_escK4 c0 c1 c2 c3)) (own_escOk (own_okL4 b_c0 b_c1 b_c2 b_c3) (Nat.le_of_ble_eq_true rfl) (Nat.le_refl _)))

theorem ef_rm_law (m : MethodId) (x0 : Int32) (x1 : Int32) (x2 : Int32) (x3 : Int32) (x4 : Int32) : entryFrame m #[(.int x0), (.int x1), (.int x2), (.int x3), (.int x4)] maxLocals = mkF m 0 #[.val (.int x0), .val (.int x1), .val (.int x2), .val (.int x3), .val (.int x4), .unset, .unset, .unset, .unset, .unset, .unset, .unset, .unset, .unset, .unset, .unset] [] := by
   first | (simp [entryFrame, mkF, argsToLocals, Value.category, maxLocals]; done) | rfl
set_option maxRecDepth 65536 in
set_option maxHeartbeats 40000000 in
theorem rm_law (l : Launch) (Z : State) (a0 : Array Value) (hw : ∀ d ∈ tables_1, d.before a0 Z = true) (ws : List Jvm.Cond) (p1 p2 p3 p4 p5 G1 : Int32) (G3 : Value) (h0 : Heap) (n0 : Nat) (O0 : Old Z n0 h0) (O2 : Sta Z Z.heap "java/lang/String" "COMPACT_STRINGS" "Z" (.int G1)) (P5 : ¬ (G1 = (0 : Int32))) (O4 : Sta Z Z.heap "jdk/internal/util/Preconditions" "SIOOBE_FORMATTER" "Ljava/util/function/BiFunction;" G3) (rG3 : G3.isRef = true) (OA : Sta Z Z.heap "java/lang/StringUTF16" "$assertionsDisabled" "Z" (.int (1 : Int32))) (OH : Sta Z Z.heap "java/lang/StringUTF16" "HI_BYTE_SHIFT" "I" (.int (0 : Int32))) (OL : Sta Z Z.heap "java/lang/StringUTF16" "LO_BYTE_SHIFT" "I" (.int (8 : Int32))) :
    MetFree l x (head1 (Jvm.Cond.code x code maxLocals ret :: ws) room_1) (fun aA U => aA = #[(.int p1), (.int p2), (.int p3), (.int p4), (.int p5)] ∧ Z.Warmed39 U.vm ∧ U.heap = h0 ∧ CHv Z own_EL U.vm h0) (fun _ _ _ _ _ => True) (fun _ U oO U' => ∃ rV rL, oO = .returned rV ∧ QQ0 n0 rV U'.heap rL ∧ CHr Z own_EL U.vm U.heap U'.vm U'.heap ∧ ReturnedEndW U oO U' rL 32 3328) := by
  refine MetFree.of_bodySF (plainFor_of_name pn_7) hisR ?_
  intro p e s m args below meth cC s₁ Bd hml0 hP hK
  obtain ⟨rfl, hZ, hh, hC0⟩ := hP
  have hx := Bd.exec
  have hby := Bd.bytes
  have hml : cC.maxLocals = maxLocals := hml0
  have hown : s.vm.findClass "com/example/rolelattice/rolelattice/decision/DistinguishedNameEscapeValuePinLaw" = some m.cls := findClass_of_methodNamed Bd.named
  have hnm := (name_of_methodNamed Bd.named Bd.method).1
  have hrt := Bd.returns
  have hlk : meth.locks = false := Bd.notSynchronized
  have X0 : Stand p l e room_1 (s.setVm s.vm) m #[(.int p1), (.int p2), (.int p3), (.int p4), (.int p5)] below meth cC s₁ [] 0 0 := Stand.of_body Bd
  have e0 : s₁.heap = h0 := by rw [← hh, Bd.state]; rfl
  have N0 := Fr.nil n0
  have Z0 : n0 ≤ h0.size := O0.1 ▸ O0.2.1
  have hS0 : s.Since s.vm 0 := (State.WarmedH.refl s).since 0
  have C0 : CHr Z own_EL s.vm h0 s.vm h0 := CHr.refl hC0
  have own_wS := own_wSt hw
  have own_hEL := own_hELt hw
  show own_Go p e below (s₁.setTop (entryFrame m #[(.int p1), (.int p2), (.int p3), (.int p4), (.int p5)] maxLocals)) (fun oO U' => ∃ rV rL, oO = .returned rV ∧ QQ0 n0 rV U'.heap rL ∧ CHr Z own_EL s.vm s.heap U'.vm U'.heap ∧ ReturnedEndW s oO U' rL 32 3328)
  refine own_go (fun _ k => castTop (ef_rm_law m p1 p2 p3 p4 p5) k) ?_
  refine og (fun _ k => XS.iload X0.here hx rfl (hb hby at_0) rfl k) ?_
  refine og (fun _ k => XS.bipush X0.here hx rfl (hb hby at_2) k) ?_
  refine og (fun _ k => XS.iand X0.here hx rfl (hb hby at_4) rfl k) ?_
  refine og (fun _ k => XS.iconst X0.here hx rfl (hb hby at_5) k) ?_
  try dsimp only [mkF]
  refine og (fun _ k => Jvm.RoadKit.iremM (g := (mkF m 6 #[.val (.int p1), .val (.int p2), .val (.int p3), .val (.int p4), .val (.int p5), .unset, .unset, .unset, .unset, .unset, .unset, .unset, .unset, .unset, .unset, .unset] [(.int (5 : Int32)), (.int (p5 &&& (7 : Int32)))])) X0 hx rfl (hb hby at_6) rfl (by decide) k) ?_
  refine og (fun _ k => XS.istore X0.here hx rfl (hb hby at_7) rfl (l' := #[.val (.int p1), .val (.int p2), .val (.int p3), .val (.int p4), .val (.int p5), .val (.int ((p5 &&& (7 : Int32)) % (5 : Int32))), .unset, .unset, .unset, .unset, .unset, .unset, .unset, .unset, .unset, .unset]) rfl k) ?_
  refine og (fun _ k => XS.iloadN X0.here hx rfl (hb hby at_9) rfl k) ?_
  refine og (fun _ k => XS.i2c X0.here hx rfl (hb hby at_10) rfl k) ?_
  refine og (fun _ k => XS.istore X0.here hx rfl (hb hby at_11) rfl (l' := #[.val (.int p1), .val (.int p2), .val (.int p3), .val (.int p4), .val (.int p5), .val (.int ((p5 &&& (7 : Int32)) % (5 : Int32))), .val (.int (p1.toUInt32.toUInt16.toUInt32.toInt32)), .unset, .unset, .unset, .unset, .unset, .unset, .unset, .unset, .unset]) rfl k) ?_
  try dsimp only [mkF]
  refine og (fun _ k => XS.iloadN X0.here hx rfl (hb hby at_13) rfl k) ?_
  refine og (fun _ k => XS.i2c X0.here hx rfl (hb hby at_14) rfl k) ?_
  refine og (fun _ k => XS.istore X0.here hx rfl (hb hby at_15) rfl (l' := #[.val (.int p1), .val (.int p2), .val (.int p3), .val (.int p4), .val (.int p5), .val (.int ((p5 &&& (7 : Int32)) % (5 : Int32))), .val (.int (p1.toUInt32.toUInt16.toUInt32.toInt32)), .val (.int (p2.toUInt32.toUInt16.toUInt32.toInt32)), .unset, .unset, .unset, .unset, .unset, .unset, .unset, .unset]) rfl k) ?_
  refine og (fun _ k => XS.iloadN X0.here hx rfl (hb hby at_17) rfl k) ?_
  refine og (fun _ k => XS.i2c X0.here hx rfl (hb hby at_18) rfl k) ?_
  try dsimp only [mkF]
  refine og (fun _ k => XS.istore X0.here hx rfl (hb hby at_19) rfl (l' := #[.val (.int p1), .val (.int p2), .val (.int p3), .val (.int p4), .val (.int p5), .val (.int ((p5 &&& (7 : Int32)) % (5 : Int32))), .val (.int (p1.toUInt32.toUInt16.toUInt32.toInt32)), .val (.int (p2.toUInt32.toUInt16.toUInt32.toInt32)), .val (.int (p3.toUInt32.toUInt16.toUInt32.toInt32)), .unset, .unset, .unset, .unset, .unset, .unset, .unset]) rfl k) ?_
  refine og (fun _ k => XS.iloadN X0.here hx rfl (hb hby at_21) rfl k) ?_
  refine og (fun _ k => XS.i2c X0.here hx rfl (hb hby at_22) rfl k) ?_
  refine og (fun _ k => XS.istore X0.here hx rfl (hb hby at_23) rfl (l' := #[.val (.int p1), .val (.int p2), .val (.int p3), .val (.int p4), .val (.int p5), .val (.int ((p5 &&& (7 : Int32)) % (5 : Int32))), .val (.int (p1.toUInt32.toUInt16.toUInt32.toInt32)), .val (.int (p2.toUInt32.toUInt16.toUInt32.toInt32)), .val (.int (p3.toUInt32.toUInt16.toUInt32.toInt32)), .val (.int (p4.toUInt32.toUInt16.toUInt32.toInt32)), .unset, .unset, .unset, .unset, .unset, .unset]) rfl k) ?_
  show own_Go p e below (s₁.setTop (mkF m 25 #[.val (.int p1), .val (.int p2), .val (.int p3), .val (.int p4), .val (.int p5), .val (.int ((p5 &&& (7 : Int32)) % (5 : Int32))), .val (.int (p1.toUInt32.toUInt16.toUInt32.toInt32)), .val (.int (p2.toUInt32.toUInt16.toUInt32.toInt32)), .val (.int (p3.toUInt32.toUInt16.toUInt32.toInt32)), .val (.int (p4.toUInt32.toUInt16.toUInt32.toInt32)), .unset, .unset, .unset, .unset, .unset, .unset] [])) _
  obtain ⟨c0, h_c0⟩ : ∃ z, z = (p1.toUInt32.toUInt16.toUInt32.toInt32) := ⟨_, rfl⟩
  have b_c0 : ¬ c0 < 0 ∧ ¬ (65535 : Int32) < c0 := h_c0 ▸ own_i2c _
  rw [← h_c0]
  obtain ⟨c1, h_c1⟩ : ∃ z, z = (p2.toUInt32.toUInt16.toUInt32.toInt32) := ⟨_, rfl⟩
  have b_c1 : ¬ c1 < 0 ∧ ¬ (65535 : Int32) < c1 := h_c1 ▸ own_i2c _
  rw [← h_c1]
  obtain ⟨c2, h_c2⟩ : ∃ z, z = (p3.toUInt32.toUInt16.toUInt32.toInt32) := ⟨_, rfl⟩
  have b_c2 : ¬ c2 < 0 ∧ ¬ (65535 : Int32) < c2 := h_c2 ▸ own_i2c _
  rw [← h_c2]
  obtain ⟨c3, h_c3⟩ : ∃ z, z = (p4.toUInt32.toUInt16.toUInt32.toInt32) := ⟨_, rfl⟩
  have b_c3 : ¬ c3 < 0 ∧ ¬ (65535 : Int32) < c3 := h_c3 ▸ own_i2c _
  rw [← h_c3]
  have hn5 := own_i5 p5
  obtain ⟨nn, h_nn⟩ : ∃ z, z = ((p5 &&& (7 : Int32)) % (5 : Int32)) := ⟨_, rfl⟩
  rw [← h_nn] at hn5 ⊢
  clear h_nn
  rcases hn5 with q | q | q | q | q
  · subst q
    show own_Go p e below (s₁.setTop (mkF m 25 #[.val (.int p1), .val (.int p2), .val (.int p3), .val (.int p4), .val (.int p5), .val (.int (0 : Int32)), .val (.int c0), .val (.int c1), .val (.int c2), .val (.int c3), .unset, .unset, .unset, .unset, .unset, .unset] [])) _
    exact own_fst0 l Z a0 hw p1 p2 p3 p4 p5 c0 c1 c2 c3 G1 G3 h0 n0 X0 hx hby hml hown hZ hrt hlk h0 e0 N0 (Nat.le_trans Z0 (Nat.le_refl _)) O0 hh hS0 (Nat.zero_le _) C0  O2 P5 O4 rG3 OA OH OL b_c0 b_c1 b_c2 b_c3
  · subst q
    show own_Go p e below (s₁.setTop (mkF m 25 #[.val (.int p1), .val (.int p2), .val (.int p3), .val (.int p4), .val (.int p5), .val (.int (1 : Int32)), .val (.int c0), .val (.int c1), .val (.int c2), .val (.int c3), .unset, .unset, .unset, .unset, .unset, .unset] [])) _
    exact own_fst1 l Z a0 hw p1 p2 p3 p4 p5 c0 c1 c2 c3 G1 G3 h0 n0 X0 hx hby hml hown hZ hrt hlk h0 e0 N0 (Nat.le_trans Z0 (Nat.le_refl _)) O0 hh hS0 (Nat.zero_le _) C0  O2 P5 O4 rG3 OA OH OL b_c0 b_c1 b_c2 b_c3
  · subst q
    show own_Go p e below (s₁.setTop (mkF m 25 #[.val (.int p1), .val (.int p2), .val (.int p3), .val (.int p4), .val (.int p5), .val (.int (2 : Int32)), .val (.int c0), .val (.int c1), .val (.int c2), .val (.int c3), .unset, .unset, .unset, .unset, .unset, .unset] [])) _
    exact own_fst2 l Z a0 hw p1 p2 p3 p4 p5 c0 c1 c2 c3 G1 G3 h0 n0 X0 hx hby hml hown hZ hrt hlk h0 e0 N0 (Nat.le_trans Z0 (Nat.le_refl _)) O0 hh hS0 (Nat.zero_le _) C0  O2 P5 O4 rG3 OA OH OL b_c0 b_c1 b_c2 b_c3
  · subst q
    show own_Go p e below (s₁.setTop (mkF m 25 #[.val (.int p1), .val (.int p2), .val (.int p3), .val (.int p4), .val (.int p5), .val (.int (3 : Int32)), .val (.int c0), .val (.int c1), .val (.int c2), .val (.int c3), .unset, .unset, .unset, .unset, .unset, .unset] [])) _
    exact own_fst3 l Z a0 hw p1 p2 p3 p4 p5 c0 c1 c2 c3 G1 G3 h0 n0 X0 hx hby hml hown hZ hrt hlk h0 e0 N0 (Nat.le_trans Z0 (Nat.le_refl _)) O0 hh hS0 (Nat.zero_le _) C0  O2 P5 O4 rG3 OA OH OL b_c0 b_c1 b_c2 b_c3
  · subst q
    show own_Go p e below (s₁.setTop (mkF m 25 #[.val (.int p1), .val (.int p2), .val (.int p3), .val (.int p4), .val (.int p5), .val (.int (4 : Int32)), .val (.int c0), .val (.int c1), .val (.int c2), .val (.int c3), .unset, .unset, .unset, .unset, .unset, .unset] [])) _
    exact own_fst4 l Z a0 hw p1 p2 p3 p4 p5 c0 c1 c2 c3 G1 G3 h0 n0 X0 hx hby hml hown hZ hrt hlk h0 e0 N0 (Nat.le_trans Z0 (Nat.le_refl _)) O0 hh hS0 (Nat.zero_le _) C0  O2 P5 O4 rG3 OA OH OL b_c0 b_c1 b_c2 b_c3

set_option maxRecDepth 65536 in
set_option maxHeartbeats 40000000 in
theorem comes_1 {Post : Tables → Env → Array Value → State → Outcome → State → Prop} (hpost : ∀ tb e args s v u, (limb_1_1.after args s (.returned v) u = true ∧ limb_1_2.after args s (.returned v) u = true ∧ True) → FramedW s (.returned v) u (Jvm.fieldLocs frame_1_writes args s ++ Jvm.arrayLocs frame_1_arrays args s ++ Jvm.staticLocs frame_1_statics s) 32 3328 → Post tb e args s (.returned v) u) :
    ArmFor flags0 classFile x code maxLocals ret World_1 tables_1 room_1 Calls_1 rest_1 Pre_1 Post := by
  intro l hfl _ _ p e ha hc hk s m args below hf hA hF happ hP
  obtain ⟨hcalls, hrest, hpre⟩ := hP
  obtain ⟨-, -, -, hnamed, -, -, -, hat⟩ := (Spec.applies_iff hf).mp happ
  obtain ⟨hg, hn⟩ := and_e (Cond.before_iff.mp (show (Jvm.Cond.and given_1 narrow_1).before args s = true from hpre))
  obtain ⟨hcount, hg0⟩ := and_e hg
  obtain ⟨ha0, hg1⟩ := and_e hg0
  obtain ⟨ha1, hg2⟩ := and_e hg1
  obtain ⟨ha2, hg3⟩ := and_e hg2
  obtain ⟨ha3, hg4⟩ := and_e hg3
  obtain ⟨w0, w1, w2, w3, w4, rfl⟩ : ∃ w0 w1 w2 w3 w4 : Value, args = #[w0, w1, w2, w3, w4] := by
    have hs : args.size = 5 := by simpa [Cond.value, given_1] using hcount
    obtain ⟨L⟩ := args
    match L, hs with
    | [w0, w1, w2, w3, w4], _ => exact ⟨w0, w1, w2, w3, w4, rfl⟩
  have hw := fun d (hd : d ∈ tables_1) => atoms_spec (ws := Jvm.Cond.code x code maxLocals ret :: tables_1) hat d (List.mem_cons_of_mem _ hd)
  obtain ⟨hsets, hown0⟩ := atoms_of _ (rest_1_c_eq ▸ (show rest_1_c.before _ s = true from hrest))
  obtain ⟨i0, e0⟩ := is_v ha0
  obtain rfl : w0 = (.int i0) := Option.some.inj e0
  obtain ⟨i1, e1⟩ := is_v ha1
  obtain rfl : w1 = (.int i1) := Option.some.inj e1
  obtain ⟨i2, e2⟩ := is_v ha2
  obtain rfl : w2 = (.int i2) := Option.some.inj e2
  obtain ⟨i3, e3⟩ := is_v ha3
  obtain rfl : w3 = (.int i3) := Option.some.inj e3
  obtain ⟨i4, e4⟩ := is_v hg4
  obtain rfl : w4 = (.int i4) := Option.some.inj e4
  obtain ⟨i_G1, e_G1⟩ := is_v (Cond.before_iff.mp (hsets _ (List.mem_of_getElem? (i := 1) rfl)))
  have S_G1 : Sta s s.heap "java/lang/String" "COMPACT_STRINGS" "Z" (.int i_G1) := Sta.start e_G1 (Or.inl (hsets _ (List.mem_of_getElem? (i := 0) rfl)))
  have c_G1 : ¬ (i_G1 = (0 : Int32)) := gotF (Cond.eq_ints e_G1 (Term.int_eval (0))) (not_v (Cond.before_iff.mp (hsets _ (List.mem_of_getElem? (i := 2) rfl))))
  obtain ⟨v_G3, e_G3, r_G3⟩ := isR_v (Cond.before_iff.mp (hsets _ (List.mem_of_getElem? (i := 8) rfl)))
  have S_G3 : Sta s s.heap "jdk/internal/util/Preconditions" "SIOOBE_FORMATTER" "Ljava/util/function/BiFunction;" v_G3 := Sta.start e_G3 (Or.inl (hsets _ (List.mem_of_getElem? (i := 7) rfl)))
  have S_OA : Sta s s.heap "java/lang/StringUTF16" "$assertionsDisabled" "Z" (.int (1 : Int32)) := Sta.start (Jvm.RoadKit.eqv_i (Term.int_eval (1)) (Cond.before_iff.mp (hsets _ (List.mem_of_getElem? (i := 12) rfl)))) (Or.inl (hsets _ (List.mem_of_getElem? (i := 11) rfl)))
  have S_OH : Sta s s.heap "java/lang/StringUTF16" "HI_BYTE_SHIFT" "I" (.int (0 : Int32)) := Sta.start (Jvm.RoadKit.eqv_i (Term.int_eval (0)) (Cond.before_iff.mp (hsets _ (List.mem_of_getElem? (i := 15) rfl)))) (Or.inl (hsets _ (List.mem_of_getElem? (i := 14) rfl)))
  have S_OL : Sta s s.heap "java/lang/StringUTF16" "LO_BYTE_SHIFT" "I" (.int (8 : Int32)) := Sta.start (Jvm.RoadKit.eqv_i (Term.int_eval (8)) (Cond.before_iff.mp (hsets _ (List.mem_of_getElem? (i := 18) rfl)))) (Or.inl (hsets _ (List.mem_of_getElem? (i := 17) rfl)))
  have hCH : CHv s own_EL s.vm s.heap := CHv.start (own_hELt hw) (fun p hp => hcalls.1 p hp) (hsets _ (List.mem_of_getElem? (i := 2) rfl)) (hw _ (List.mem_of_getElem? (i := 15) rfl)) (hw _ (List.mem_of_getElem? (i := 1) rfl))
  obtain ⟨n, o, h1, h2, h3, _, L, rfl, ⟨rfl, N⟩, hCH, hq⟩ := rm_law l s _ hw tables_1 i0 i1 i2 i3 i4 i_G1 v_G3 s.heap s.heap.size (Old.start s) S_G1 c_G1 S_G3 r_G3 S_OA S_OH S_OL p e ha hc hk s m _ below hf ((Spec.applies_iff_loose hf).mp happ).1 ⟨rfl, State.Warmed39.refl s, rfl, hCH⟩ trivial
  refine ⟨n, _, h1, h2, h3, hpost _ _ _ _ _ _ ⟨Cond.after_iff.mpr rfl, Cond.after_iff.mpr (eq_i res_at (Term.int_eval (1)) rfl), trivial⟩ ⟨hq.1, hq.2.1, hq.2.2.1, (hq.2.2.2.sift fun y hy => Or.inr (N y hy)).mono (by decide) (by decide)⟩⟩
theorem main_1_1 : Claimed_1_1 := comes_1 fun _ _ _ _ _ _ h hF => ⟨h.1, hF⟩
theorem main_1_2 : Claimed_1_2 := comes_1 fun _ _ _ _ _ _ h hF => ⟨h.2.1, hF⟩
end Jvm.Pilot.@@N@@
namespace Jvm.Pilot.@@N@@
open Jvm Jvm.ClassFile Sem Op Lib Jvm.Free Jvm.Stand Jvm.Pilot.@@N@@.Jvm.D
/-! MADE BY PROGRAM (witnessworld.py) out of the Statement's table words and the real class files: 26 classes; the members and pool entries that the words name. The judged class is class 1, her method 4. -/
namespace start1
open Jvm.ClassFile
def u (s : String) : CpInfo := .utf8 (stringToUtf16 s)
/-- a pool by its gaps: so many unusable entries, then the entry; so many at the end -/
def gap : Nat → List CpInfo → List CpInfo
  | 0, r => r
  | n + 1, r => .unusable :: gap n r
def poolList (es : List (Nat × CpInfo)) (last : Nat) : List CpInfo := es.foldr (fun e r => gap e.1 (e.2 :: r)) (gap last [])
def pool (es : List (Nat × CpInfo)) (last : Nat) : Array CpInfo := ⟨poolList es last⟩
def fileOf (pool : Array CpInfo) (this : Nat) (attrs : Array Attribute := #[]) (ms : Array MethodInfo := #[]) (fl : Nat := 33) (sup : Nat := 0) (ifs : Array Nat := #[]) (fds : Array FieldInfo := #[]) : ClassFile where
  minorVersion := 0
  majorVersion := 65
  constantPool := pool
  accessFlags := fl
  thisClass := this
  superClass := sup
  interfaces := ifs
  fields := fds
  methods := ms
  attributes := attrs
def plain (name : String) (sup : Option ClassId) : Class where
  name := name
  kind := .ordinary
  loader := none
  accessFlags := 33
  super := sup
  interfaces := #[]
  cf := none
  fields := #[]
  methods := #[]
  instanceTypes := #[]
  staticTypes := #[]
  resolved := #[]
  callSites := []
  init := .initialized
  statics := none
  mirror := none

def pool0 : Array CpInfo := pool [(5, u "<init>"), (0, u "()V"), (1, .class_ 10), (1, u "java/lang/Object")] 113

def k0c0 : Code := { maxStack := 0, maxLocals := 1, code := object_method_1_code, exceptionTable := #[], attributes := #[] }
def k0m0 : Method := { name := "<init>", desc := "()V", sig := { parameters := [], returnType := none }, accessFlags := 1, code := some k0c0 }
/-- java/lang/Object -/
def k0 : Class := { plain "java/lang/Object" none with
  accessFlags := 33
  interfaces := #[]
  cf := some (fileOf pool0 8 #[] #[{ accessFlags := 1, nameIndex := 5, descriptorIndex := 6, attributes := #[] }] 33 0 #[] #[])
  fields := #[]
  methods := #[k0m0]
  instanceTypes := #[]
  staticTypes := #[]
  resolved := Array.replicate 124 none
  statics := none }

def pool1 : Array CpInfo := pool [(2, .class_ 4), (1, u "java/lang/Object"), (0, u "<init>"), (0, u "()V"), (0, .methodref 8 9), (0, .class_ 10), (0, .nameAndType 11 12), (0, u "com/example/rolelattice/rolelattice/decision/DistinguishedNameEscapeValuePinLaw"), (0, u "special"), (0, u "(CZZ)Z"), (0, .methodref 14 15), (0, .class_ 16), (0, .nameAndType 17 18), (0, u "java/lang/String"), (0, u "charAt"), (0, u "(I)C"), (0, .methodref 14 20), (0, .nameAndType 5 21), (0, u "([C)V"), (0, .methodref 14 23), (0, .nameAndType 24 25), (0, u "valueOf"), (0, u "(C)Ljava/lang/String;"), (0, .methodref 27 28), (0, .class_ 29), (0, .nameAndType 30 31), (0, u "com/example/rolelattice/rolelattice/decision/DistinguishedName"), (0, u "escapeValue"), (0, u "(Ljava/lang/String;)Ljava/lang/String;"), (0, .methodref 8 33), (0, .nameAndType 34 35), (0, u "width"), (0, u "(CZZ)I"), (0, .methodref 14 37), (0, .nameAndType 38 39), (0, u "length"), (0, u "()I"), (0, .methodref 8 41), (0, .nameAndType 42 43), (0, u "check"), (0, u "(Ljava/lang/String;ICZZ)Z"), (3, u "law"), (0, u "(IIIII)Z")] 2

def k1m0 : Method := { name := "<init>", desc := "()V", sig := { parameters := [], returnType := none }, accessFlags := 2, code := none }
def k1c1 : Code := { maxStack := 2, maxLocals := 3, code := method_2_code, exceptionTable := #[], attributes := #[] }
def k1m1 : Method := { name := "special", desc := "(CZZ)Z", sig := { parameters := [.char, .boolean, .boolean], returnType := some .boolean }, accessFlags := 10, code := some k1c1 }
def k1c2 : Code := { maxStack := 3, maxLocals := 3, code := method_3_code, exceptionTable := #[], attributes := #[] }
def k1m2 : Method := { name := "width", desc := "(CZZ)I", sig := { parameters := [.char, .boolean, .boolean], returnType := some .int }, accessFlags := 10, code := some k1c2 }
def k1c3 : Code := { maxStack := 3, maxLocals := 5, code := method_4_code, exceptionTable := #[], attributes := #[] }
def k1m3 : Method := { name := "check", desc := "(Ljava/lang/String;ICZZ)Z", sig := { parameters := [(.object "java/lang/String"), .int, .char, .boolean, .boolean], returnType := some .boolean }, accessFlags := 10, code := some k1c3 }
def k1c4 : Code := { maxStack := 6, maxLocals := 16, code := code, exceptionTable := #[], attributes := #[] }
def k1m4 : Method := { name := "law", desc := "(IIIII)Z", sig := { parameters := [.int, .int, .int, .int, .int], returnType := some .boolean }, accessFlags := 9, code := some k1c4 }
/-- com/example/rolelattice/rolelattice/decision/DistinguishedNameEscapeValuePinLaw -/
def k1 : Class := { plain "com/example/rolelattice/rolelattice/decision/DistinguishedNameEscapeValuePinLaw" (some 0) with
  accessFlags := 49
  interfaces := #[]
  cf := some (fileOf pool1 8 #[] #[{ accessFlags := 2, nameIndex := 5, descriptorIndex := 6, attributes := #[] }, { accessFlags := 10, nameIndex := 11, descriptorIndex := 12, attributes := #[] }, { accessFlags := 10, nameIndex := 34, descriptorIndex := 35, attributes := #[] }, { accessFlags := 10, nameIndex := 42, descriptorIndex := 43, attributes := #[] }, { accessFlags := 9, nameIndex := 47, descriptorIndex := 48, attributes := #[] }] 49 2 #[] #[])
  fields := #[]
  methods := #[k1m0, k1m1, k1m2, k1m3, k1m4]
  instanceTypes := #[]
  staticTypes := #[]
  resolved := Array.replicate 51 none
  statics := none }

def pool2 : Array CpInfo := pool [(1, .class_ 2), (0, u "java/io/Serializable"), (0, .class_ 4), (0, u "java/lang/Object")] 2

/-- java/io/Serializable -/
def k2 : Class := { plain "java/io/Serializable" (some 0) with
  accessFlags := 1537
  interfaces := #[]
  cf := some (fileOf pool2 1 #[] #[] 1537 3 #[] #[])
  fields := #[]
  methods := #[]
  instanceTypes := #[]
  staticTypes := #[]
  resolved := Array.replicate 7 none
  statics := none }

def pool3 : Array CpInfo := pool [(1, .class_ 2), (0, u "java/lang/Comparable"), (0, .class_ 4), (0, u "java/lang/Object")] 7

/-- java/lang/Comparable -/
def k3 : Class := { plain "java/lang/Comparable" (some 0) with
  accessFlags := 1537
  interfaces := #[]
  cf := some (fileOf pool3 1 #[] #[] 1537 3 #[] #[])
  fields := #[]
  methods := #[]
  instanceTypes := #[]
  staticTypes := #[]
  resolved := Array.replicate 12 none
  statics := none }

def pool4 : Array CpInfo := pool [(2, .class_ 4), (1, u "java/lang/CharSequence"), (42, .class_ 48), (0, u "java/lang/CharSequence$1CodePointIterator"), (10, .class_ 60), (0, u "java/lang/CharSequence$1CharIterator"), (5, .class_ 67), (0, u "java/lang/Object")] 63

/-- java/lang/CharSequence -/
def k4 : Class := { plain "java/lang/CharSequence" (some 0) with
  accessFlags := 1537
  interfaces := #[]
  cf := some (fileOf pool4 2 #[.nestMembers #[47, 59]] #[] 1537 66 #[] #[])
  fields := #[]
  methods := #[]
  instanceTypes := #[]
  staticTypes := #[]
  resolved := Array.replicate 131 none
  statics := none }

def pool5 : Array CpInfo := pool [(1, .class_ 2), (0, u "java/lang/constant/Constable"), (0, .class_ 4), (0, u "java/lang/Object")] 6

/-- java/lang/constant/Constable -/
def k5 : Class := { plain "java/lang/constant/Constable" (some 0) with
  accessFlags := 1537
  interfaces := #[]
  cf := some (fileOf pool5 1 #[] #[] 1537 3 #[] #[])
  fields := #[]
  methods := #[]
  instanceTypes := #[]
  staticTypes := #[]
  resolved := Array.replicate 11 none
  statics := none }

def pool6 : Array CpInfo := pool [(1, .class_ 2), (0, u "java/lang/constant/ConstantDesc"), (0, .class_ 4), (0, u "java/lang/Object")] 32

/-- java/lang/constant/ConstantDesc -/
def k6 : Class := { plain "java/lang/constant/ConstantDesc" (some 0) with
  accessFlags := 1537
  interfaces := #[]
  cf := some (fileOf pool6 1 #[] #[] 1537 3 #[] #[])
  fields := #[]
  methods := #[]
  instanceTypes := #[]
  staticTypes := #[]
  resolved := Array.replicate 37 none
  statics := none }

def pool7 : Array CpInfo := pool [(1, .methodref 2 3), (0, .class_ 4), (0, .nameAndType 5 6), (0, u "java/lang/Object"), (0, u "<init>"), (0, u "()V"), (0, .string 8), (0, u ""), (0, .fieldref 10 11), (0, .class_ 12), (0, .nameAndType 13 14), (0, u "java/lang/String"), (0, u "value"), (0, u "[B"), (0, .fieldref 10 16), (0, .nameAndType 17 18), (0, u "coder"), (0, u "B"), (2, u "hash"), (0, u "I"), (2, u "hashIsZero"), (0, u "Z"), (0, .methodref 10 28), (0, .nameAndType 5 29), (0, u "([CIILjava/lang/Void;)V"), (6, u "checkBoundsOffCount"), (0, u "(III)I"), (0, .fieldref 10 39), (0, .nameAndType 40 26), (0, u "COMPACT_STRINGS"), (1, .class_ 44), (1, u "java/lang/StringUTF16"), (0, u "compress"), (1, .methodref 42 48), (0, .nameAndType 49 50), (0, u "coderFromArrayLen"), (0, u "([BI)B"), (2, u "toBytes"), (0, .methodref 55 56), (0, .class_ 57), (0, .nameAndType 58 59), (0, u "java/util/Arrays"), (0, u "copyOfRange"), (0, u "([BII)[B"), (46, .methodref 107 108), (0, .class_ 109), (0, .nameAndType 110 111), (0, u "java/lang/StringLatin1"), (0, u "inflate"), (0, u "([BI[BII)V"), (30, u "()Z"), (34, .methodref 42 178), (0, .nameAndType 45 179), (0, u "([CII)[B"), (13, .class_ 195), (1, u "java/lang/System"), (13, .methodref 10 210), (0, .nameAndType 5 211), (0, u "([BB)V"), (0, .methodref 193 213), (0, .nameAndType 214 215), (0, u "arraycopy"), (0, u "(Ljava/lang/Object;ILjava/lang/Object;II)V"), (118, u "()I"), (0, .methodref 10 336), (0, .nameAndType 17 337), (0, u "()B"), (2, u "()[B"), (22, u "([BI)C"), (5, u "(C)Z"), (21, u "(II)V"), (35, u "(I)C"), (61, .methodref 10 490), (0, .nameAndType 5 491), (0, u "(Ljava/lang/AbstractStringBuilder;Ljava/lang/Void;)V"), (0, .methodref 10 493), (0, .nameAndType 494 142), (0, u "isLatin1"), (0, .methodref 107 496), (0, .nameAndType 497 363), (0, u "charAt"), (0, .methodref 42 496), (2, u "checkIndex"), (3, .methodref 10 506), (0, .nameAndType 507 334), (0, u "length"), (24, u "getBytes"), (16, .methodref 550 506), (0, .class_ 551), (0, u "java/lang/AbstractStringBuilder"), (0, .methodref 550 553), (0, .nameAndType 554 340), (0, u "getValue"), (20, .class_ 576), (0, u "java/lang/CharSequence"), (22, u "CASE_INSENSITIVE_ORDER"), (0, u "Ljava/util/Comparator;"), (32, .methodref 10 634), (0, .nameAndType 635 636), (0, u "indexOf"), (0, u "(II)I"), (0, .methodref 107 638), (0, .nameAndType 635 639), (0, u "([BIII)I"), (125, u "(I)I"), (16, u "valueOf"), (0, u "(C)Ljava/lang/String;"), (37, u "([BIB)V"), (188, u "([C)V"), (4, .methodref 107 1016), (0, .nameAndType 1017 369), (0, u "canEncode"), (0, .methodref 107 1019), (0, .nameAndType 53 1020), (0, u "(C)[B"), (0, .methodref 42 1019), (25, .methodref 550 493), (0, .fieldref 550 1049), (0, .nameAndType 1050 26), (0, u "maybeLatin1"), (2, .fieldref 1054 1055), (0, .class_ 1056), (0, .nameAndType 1057 1058), (0, u "jdk/internal/util/Preconditions"), (0, u "SIOOBE_FORMATTER"), (0, u "Ljava/util/function/BiFunction;"), (0, .methodref 1054 1060), (0, .nameAndType 501 1061), (0, u "(IILjava/util/function/BiFunction;)I"), (2, u "(IIILjava/util/function/BiFunction;)I"), (0, .methodref 1054 1066), (0, .nameAndType 1067 1064), (0, u "checkFromIndexSize"), (33, u "serialPersistentFields"), (0, u "[Ljava/io/ObjectStreamField;"), (0, .class_ 1104), (0, u "java/lang/String$CaseInsensitiveComparator"), (1, .class_ 1107), (0, u "java/io/Serializable"), (0, .class_ 1109), (0, u "java/lang/Comparable"), (0, .class_ 1111), (0, u "java/lang/constant/Constable"), (0, .class_ 1113), (0, u "java/lang/constant/ConstantDesc"), (2, u "serialVersionUID"), (0, u "J"), (3, u "REPL"), (0, u "C"), (2, u "LATIN1"), (1, u "UTF16"), (105, u "(Ljava/lang/StringBuilder;)V")] 217

def k7m0 : Method := { name := "<init>", desc := "()V", sig := { parameters := [], returnType := none }, accessFlags := 1, code := none }
def k7c1 : Code := { maxStack := 5, maxLocals := 2, code := jdk_42_method_3_code, exceptionTable := #[], attributes := #[] }
def k7m1 : Method := { name := "<init>", desc := "([C)V", sig := { parameters := [(.array .char)], returnType := none }, accessFlags := 1, code := some k7c1 }
def k7c2 : Code := { maxStack := 3, maxLocals := 2, code := jdk_42_method_53_code, exceptionTable := #[], attributes := #[] }
def k7m2 : Method := { name := "<init>", desc := "(Ljava/lang/StringBuilder;)V", sig := { parameters := [(.object "java/lang/StringBuilder")], returnType := none }, accessFlags := 1, code := some k7c2 }
def k7c3 : Code := { maxStack := 2, maxLocals := 1, code := jdk_42_method_54_code, exceptionTable := #[], attributes := #[] }
def k7m3 : Method := { name := "length", desc := "()I", sig := { parameters := [], returnType := some .int }, accessFlags := 1, code := some k7c3 }
def k7c4 : Code := { maxStack := 2, maxLocals := 2, code := jdk_42_method_56_code, exceptionTable := #[], attributes := #[] }
def k7m4 : Method := { name := "charAt", desc := "(I)C", sig := { parameters := [.int], returnType := some .char }, accessFlags := 1, code := some k7c4 }
def k7c5 : Code := { maxStack := 3, maxLocals := 2, code := jdk_42_method_79_code, exceptionTable := #[], attributes := #[] }
def k7m5 : Method := { name := "indexOf", desc := "(I)I", sig := { parameters := [.int], returnType := some .int }, accessFlags := 1, code := some k7c5 }
def k7c6 : Code := { maxStack := 4, maxLocals := 3, code := jdk_42_method_80_code, exceptionTable := #[], attributes := #[] }
def k7m6 : Method := { name := "indexOf", desc := "(II)I", sig := { parameters := [.int, .int], returnType := some .int }, accessFlags := 1, code := some k7c6 }
def k7c7 : Code := { maxStack := 4, maxLocals := 1, code := jdk_42_method_139_code, exceptionTable := #[], attributes := #[] }
def k7m7 : Method := { name := "valueOf", desc := "(C)Ljava/lang/String;", sig := { parameters := [.char], returnType := some (.object "java/lang/String") }, accessFlags := 9, code := some k7c7 }
def k7c8 : Code := { maxStack := 5, maxLocals := 4, code := jdk_42_method_147_code, exceptionTable := #[], attributes := #[] }
def k7m8 : Method := { name := "getBytes", desc := "([BIB)V", sig := { parameters := [(.array .byte), .int, .byte], returnType := none }, accessFlags := 0, code := some k7c8 }
def k7c9 : Code := { maxStack := 4, maxLocals := 6, code := jdk_42_method_149_code, exceptionTable := #[], attributes := #[] }
def k7m9 : Method := { name := "<init>", desc := "([CIILjava/lang/Void;)V", sig := { parameters := [(.array .char), .int, .int, (.object "java/lang/Void")], returnType := none }, accessFlags := 2, code := some k7c9 }
def k7c10 : Code := { maxStack := 5, maxLocals := 5, code := jdk_42_method_150_code, exceptionTable := #[], attributes := #[] }
def k7m10 : Method := { name := "<init>", desc := "(Ljava/lang/AbstractStringBuilder;Ljava/lang/Void;)V", sig := { parameters := [(.object "java/lang/AbstractStringBuilder"), (.object "java/lang/Void")], returnType := none }, accessFlags := 0, code := some k7c10 }
def k7c11 : Code := { maxStack := 2, maxLocals := 3, code := jdk_42_method_151_code, exceptionTable := #[], attributes := #[] }
def k7m11 : Method := { name := "<init>", desc := "([BB)V", sig := { parameters := [(.array .byte), .byte], returnType := none }, accessFlags := 0, code := some k7c11 }
def k7c12 : Code := { maxStack := 1, maxLocals := 1, code := jdk_42_method_152_code, exceptionTable := #[], attributes := #[] }
def k7m12 : Method := { name := "coder", desc := "()B", sig := { parameters := [], returnType := some .byte }, accessFlags := 0, code := some k7c12 }
def k7c13 : Code := { maxStack := 1, maxLocals := 1, code := jdk_42_method_154_code, exceptionTable := #[], attributes := #[] }
def k7m13 : Method := { name := "isLatin1", desc := "()Z", sig := { parameters := [], returnType := some .boolean }, accessFlags := 0, code := some k7c13 }
def k7c14 : Code := { maxStack := 3, maxLocals := 2, code := jdk_42_method_155_code, exceptionTable := #[], attributes := #[] }
def k7m14 : Method := { name := "checkIndex", desc := "(II)V", sig := { parameters := [.int, .int], returnType := none }, accessFlags := 8, code := some k7c14 }
def k7c15 : Code := { maxStack := 4, maxLocals := 3, code := jdk_42_method_157_code, exceptionTable := #[], attributes := #[] }
def k7m15 : Method := { name := "checkBoundsOffCount", desc := "(III)I", sig := { parameters := [.int, .int, .int], returnType := some .int }, accessFlags := 8, code := some k7c15 }
/-- java/lang/String -/
def k7 : Class := { plain "java/lang/String" (some 0) with
  accessFlags := 49
  interfaces := #[2, 3, 4, 5, 6]
  cf := some (fileOf pool7 10 #[.nestMembers #[1103]] #[{ accessFlags := 1, nameIndex := 5, descriptorIndex := 6, attributes := #[] }, { accessFlags := 1, nameIndex := 5, descriptorIndex := 1010, attributes := #[] }, { accessFlags := 1, nameIndex := 5, descriptorIndex := 1233, attributes := #[] }, { accessFlags := 1, nameIndex := 507, descriptorIndex := 334, attributes := #[] }, { accessFlags := 1, nameIndex := 497, descriptorIndex := 427, attributes := #[] }, { accessFlags := 1, nameIndex := 635, descriptorIndex := 765, attributes := #[] }, { accessFlags := 1, nameIndex := 635, descriptorIndex := 636, attributes := #[] }, { accessFlags := 9, nameIndex := 782, descriptorIndex := 783, attributes := #[] }, { accessFlags := 0, nameIndex := 532, descriptorIndex := 821, attributes := #[] }, { accessFlags := 2, nameIndex := 5, descriptorIndex := 29, attributes := #[] }, { accessFlags := 0, nameIndex := 5, descriptorIndex := 491, attributes := #[] }, { accessFlags := 0, nameIndex := 5, descriptorIndex := 211, attributes := #[] }, { accessFlags := 0, nameIndex := 17, descriptorIndex := 337, attributes := #[] }, { accessFlags := 0, nameIndex := 494, descriptorIndex := 142, attributes := #[] }, { accessFlags := 8, nameIndex := 501, descriptorIndex := 391, attributes := #[] }, { accessFlags := 8, nameIndex := 36, descriptorIndex := 37, attributes := #[] }] 49 2 #[1106, 1108, 575, 1110, 1112] #[{ accessFlags := 18, nameIndex := 13, descriptorIndex := 14, attributes := #[] }, { accessFlags := 18, nameIndex := 17, descriptorIndex := 18, attributes := #[] }, { accessFlags := 2, nameIndex := 21, descriptorIndex := 22, attributes := #[] }, { accessFlags := 2, nameIndex := 25, descriptorIndex := 26, attributes := #[] }, { accessFlags := 26, nameIndex := 1116, descriptorIndex := 1117, attributes := #[] }, { accessFlags := 24, nameIndex := 40, descriptorIndex := 26, attributes := #[] }, { accessFlags := 26, nameIndex := 1101, descriptorIndex := 1102, attributes := #[] }, { accessFlags := 26, nameIndex := 1121, descriptorIndex := 1122, attributes := #[] }, { accessFlags := 25, nameIndex := 599, descriptorIndex := 600, attributes := #[] }, { accessFlags := 24, nameIndex := 1125, descriptorIndex := 18, attributes := #[] }, { accessFlags := 24, nameIndex := 1127, descriptorIndex := 18, attributes := #[] }])
  fields := #[{ name := "value", type := (.array .byte), accessFlags := 18, slot := 0, constantValue := 0 }, { name := "coder", type := .byte, accessFlags := 18, slot := 1, constantValue := 0 }, { name := "hash", type := .int, accessFlags := 2, slot := 2, constantValue := 0 }, { name := "hashIsZero", type := .boolean, accessFlags := 2, slot := 3, constantValue := 0 }, { name := "serialVersionUID", type := .long, accessFlags := 26, slot := 0, constantValue := 0 }, { name := "COMPACT_STRINGS", type := .boolean, accessFlags := 24, slot := 1, constantValue := 0 }, { name := "serialPersistentFields", type := (.array (.object "java/io/ObjectStreamField")), accessFlags := 26, slot := 2, constantValue := 0 }, { name := "REPL", type := .char, accessFlags := 26, slot := 3, constantValue := 0 }, { name := "CASE_INSENSITIVE_ORDER", type := (.object "java/util/Comparator"), accessFlags := 25, slot := 4, constantValue := 0 }, { name := "LATIN1", type := .byte, accessFlags := 24, slot := 5, constantValue := 0 }, { name := "UTF16", type := .byte, accessFlags := 24, slot := 6, constantValue := 0 }]
  methods := #[k7m0, k7m1, k7m2, k7m3, k7m4, k7m5, k7m6, k7m7, k7m8, k7m9, k7m10, k7m11, k7m12, k7m13, k7m14, k7m15]
  instanceTypes := #[(.array .byte), .byte, .int, .boolean]
  staticTypes := #[.long, .boolean, (.array (.object "java/io/ObjectStreamField")), .char, (.object "java/util/Comparator"), .byte, .byte]
  resolved := Array.replicate 1451 none
  statics := some 0 }

def pool8 : Array CpInfo := pool [(2, .class_ 4), (0, .nameAndType 5 6), (0, u "java/lang/Object"), (0, u "<init>"), (0, u "()V"), (1, .class_ 10), (1, u "com/example/rolelattice/rolelattice/decision/DistinguishedName"), (8, .class_ 20), (0, u "java/lang/String"), (3, .class_ 25), (0, u "com/example/rolelattice/rolelattice/decision/DistinguishedName$Scanner"), (79, .class_ 106), (0, u "java/lang/StringBuilder"), (0, .methodref 105 3), (0, .methodref 19 109), (0, .nameAndType 110 111), (0, u "length"), (0, u "()I"), (0, .methodref 19 113), (0, .nameAndType 114 115), (0, u "charAt"), (0, u "(I)C"), (0, .methodref 105 117), (0, .nameAndType 118 119), (0, u "append"), (0, u "(C)Ljava/lang/StringBuilder;"), (5, .methodref 105 126), (0, .nameAndType 127 128), (0, u "toString"), (0, u "()Ljava/lang/String;"), (15, .string 145), (0, u "\\00"), (0, .methodref 105 147), (0, .nameAndType 118 148), (0, u "(Ljava/lang/String;)Ljava/lang/StringBuilder;"), (0, .string 150), (0, u "\\,+\";<>"), (0, .methodref 19 152), (0, .nameAndType 153 154), (0, u "indexOf"), (0, u "(I)I"), (3, u "(Ljava/lang/String;)Ljava/lang/String;"), (10, u "escapeValue")] 24

def k8m0 : Method := { name := "<init>", desc := "()V", sig := { parameters := [], returnType := none }, accessFlags := 2, code := none }
def k8c1 : Code := { maxStack := 3, maxLocals := 5, code := prog_13_method_8_code, exceptionTable := #[], attributes := #[] }
def k8m1 : Method := { name := "escapeValue", desc := "(Ljava/lang/String;)Ljava/lang/String;", sig := { parameters := [(.object "java/lang/String")], returnType := some (.object "java/lang/String") }, accessFlags := 9, code := some k8c1 }
/-- com/example/rolelattice/rolelattice/decision/DistinguishedName -/
def k8 : Class := { plain "com/example/rolelattice/rolelattice/decision/DistinguishedName" (some 0) with
  accessFlags := 49
  interfaces := #[]
  cf := some (fileOf pool8 8 #[.nestMembers #[24]] #[{ accessFlags := 2, nameIndex := 5, descriptorIndex := 6, attributes := #[] }, { accessFlags := 9, nameIndex := 169, descriptorIndex := 158, attributes := #[] }] 49 2 #[] #[])
  fields := #[]
  methods := #[k8m0, k8m1]
  instanceTypes := #[]
  staticTypes := #[]
  resolved := Array.replicate 194 none
  statics := none }

def pool9 : Array CpInfo := pool [(1, .class_ 2), (0, u "java/lang/Appendable"), (0, .class_ 4), (0, u "java/lang/Object")] 9

/-- java/lang/Appendable -/
def k9 : Class := { plain "java/lang/Appendable" (some 0) with
  accessFlags := 1537
  interfaces := #[]
  cf := some (fileOf pool9 1 #[] #[] 1537 3 #[] #[])
  fields := #[]
  methods := #[]
  instanceTypes := #[]
  staticTypes := #[]
  resolved := Array.replicate 14 none
  statics := none }

def pool10 : Array CpInfo := pool [(1, .class_ 2), (0, u "java/lang/String"), (0, .methodref 4 5), (0, .class_ 6), (0, .nameAndType 7 8), (0, u "java/lang/Object"), (0, u "<init>"), (0, u "()V"), (1, .class_ 12), (1, u "java/lang/AbstractStringBuilder"), (0, u "EMPTYVALUE"), (0, u "[B"), (0, .fieldref 10 16), (0, .nameAndType 17 14), (0, u "value"), (0, .fieldref 1 19), (0, .nameAndType 20 21), (0, u "COMPACT_STRINGS"), (0, u "Z"), (0, .fieldref 10 23), (0, .nameAndType 24 25), (0, u "coder"), (0, u "B"), (0, .methodref 27 28), (0, .class_ 29), (0, .nameAndType 30 31), (0, u "java/lang/StringUTF16"), (0, u "newBytesFor"), (0, u "(I)[B"), (0, .methodref 1 33), (0, .nameAndType 34 35), (0, u "length"), (0, u "()I"), (4, .methodref 1 41), (0, .nameAndType 24 42), (0, u "()B"), (2, u "append"), (0, u "(Ljava/lang/String;)Ljava/lang/AbstractStringBuilder;"), (1, .class_ 49), (0, u "java/lang/CharSequence"), (19, u "(Ljava/lang/String;)V"), (5, u "maybeLatin1"), (3, .fieldref 10 80), (0, .nameAndType 81 82), (0, u "count"), (0, u "I"), (0, .methodref 10 84), (0, .nameAndType 85 86), (0, u "isLatin1"), (0, u "()Z"), (1, .class_ 90), (1, u "java/lang/StringLatin1"), (9, .methodref 10 101), (0, .nameAndType 102 103), (0, u "ensureCapacityInternal"), (0, u "(I)V"), (21, .methodref 88 126), (0, .nameAndType 127 128), (0, u "inflate"), (0, u "([BI[BII)V"), (7, u "([BII)V"), (54, .methodref 88 192), (0, .nameAndType 193 194), (0, u "canEncode"), (0, u "(C)Z"), (0, .methodref 10 196), (0, .nameAndType 127 8), (0, .methodref 27 198), (0, .nameAndType 199 136), (0, u "putCharSB"), (8, .methodref 10 209), (0, .nameAndType 210 211), (0, u "putStringAt"), (0, u "(ILjava/lang/String;)V"), (5, u "inflateIfNeededFor"), (2, .nameAndType 221 222), (0, u "getBytes"), (0, u "([BIB)V"), (69, u "(C)Ljava/lang/AbstractStringBuilder;"), (104, .methodref 10 398), (0, .nameAndType 217 69), (0, .methodref 1 220), (3, u "()[B"), (40, .class_ 445), (0, u "java/lang/Appendable"), (106, u "getValue")] 56

def k10m0 : Method := { name := "<init>", desc := "()V", sig := { parameters := [], returnType := none }, accessFlags := 0, code := none }
def k10c1 : Code := { maxStack := 2, maxLocals := 2, code := jdk_68_method_2_code, exceptionTable := #[], attributes := #[] }
def k10m1 : Method := { name := "<init>", desc := "(I)V", sig := { parameters := [.int], returnType := none }, accessFlags := 0, code := some k10c1 }
def k10c2 : Code := { maxStack := 1, maxLocals := 1, code := jdk_68_method_6_code, exceptionTable := #[], attributes := #[] }
def k10m2 : Method := { name := "length", desc := "()I", sig := { parameters := [], returnType := some .int }, accessFlags := 1, code := some k10c2 }
def k10c3 : Code := { maxStack := 4, maxLocals := 3, code := jdk_68_method_9_code, exceptionTable := #[], attributes := #[] }
def k10m3 : Method := { name := "ensureCapacityInternal", desc := "(I)V", sig := { parameters := [.int], returnType := none }, accessFlags := 2, code := some k10c3 }
def k10c4 : Code := { maxStack := 5, maxLocals := 2, code := jdk_68_method_11_code, exceptionTable := #[], attributes := #[] }
def k10m4 : Method := { name := "inflate", desc := "()V", sig := { parameters := [], returnType := none }, accessFlags := 2, code := some k10c4 }
def k10c5 : Code := { maxStack := 3, maxLocals := 3, code := jdk_68_method_22_code, exceptionTable := #[], attributes := #[] }
def k10m5 : Method := { name := "append", desc := "(Ljava/lang/String;)Ljava/lang/AbstractStringBuilder;", sig := { parameters := [(.object "java/lang/String")], returnType := some (.object "java/lang/AbstractStringBuilder") }, accessFlags := 1, code := some k10c5 }
def k10c6 : Code := { maxStack := 5, maxLocals := 2, code := jdk_68_method_31_code, exceptionTable := #[], attributes := #[] }
def k10m6 : Method := { name := "append", desc := "(C)Ljava/lang/AbstractStringBuilder;", sig := { parameters := [.char], returnType := some (.object "java/lang/AbstractStringBuilder") }, accessFlags := 1, code := some k10c6 }
def k10c7 : Code := { maxStack := 1, maxLocals := 1, code := jdk_68_method_64_code, exceptionTable := #[], attributes := #[] }
def k10m7 : Method := { name := "getValue", desc := "()[B", sig := { parameters := [], returnType := some (.array .byte) }, accessFlags := 16, code := some k10c7 }
def k10c8 : Code := { maxStack := 1, maxLocals := 1, code := jdk_68_method_68_code, exceptionTable := #[], attributes := #[] }
def k10m8 : Method := { name := "isLatin1", desc := "()Z", sig := { parameters := [], returnType := some .boolean }, accessFlags := 16, code := some k10c8 }
def k10c9 : Code := { maxStack := 2, maxLocals := 2, code := jdk_68_method_71_code, exceptionTable := #[], attributes := #[] }
def k10m9 : Method := { name := "inflateIfNeededFor", desc := "(Ljava/lang/String;)V", sig := { parameters := [(.object "java/lang/String")], returnType := none }, accessFlags := 2, code := some k10c9 }
def k10c10 : Code := { maxStack := 4, maxLocals := 3, code := jdk_68_method_73_code, exceptionTable := #[], attributes := #[] }
def k10m10 : Method := { name := "putStringAt", desc := "(ILjava/lang/String;)V", sig := { parameters := [.int, (.object "java/lang/String")], returnType := none }, accessFlags := 2, code := some k10c10 }
/-- java/lang/AbstractStringBuilder -/
def k10 : Class := { plain "java/lang/AbstractStringBuilder" (some 0) with
  accessFlags := 1056
  interfaces := #[9, 4]
  cf := some (fileOf pool10 10 #[] #[{ accessFlags := 0, nameIndex := 7, descriptorIndex := 8, attributes := #[] }, { accessFlags := 0, nameIndex := 7, descriptorIndex := 103, attributes := #[] }, { accessFlags := 1, nameIndex := 34, descriptorIndex := 35, attributes := #[] }, { accessFlags := 2, nameIndex := 102, descriptorIndex := 103, attributes := #[] }, { accessFlags := 2, nameIndex := 127, descriptorIndex := 8, attributes := #[] }, { accessFlags := 1, nameIndex := 45, descriptorIndex := 46, attributes := #[] }, { accessFlags := 1, nameIndex := 45, descriptorIndex := 292, attributes := #[] }, { accessFlags := 16, nameIndex := 552, descriptorIndex := 403, attributes := #[] }, { accessFlags := 16, nameIndex := 85, descriptorIndex := 86, attributes := #[] }, { accessFlags := 2, nameIndex := 217, descriptorIndex := 69, attributes := #[] }, { accessFlags := 2, nameIndex := 210, descriptorIndex := 211, attributes := #[] }] 1056 4 #[444, 48] #[{ accessFlags := 0, nameIndex := 17, descriptorIndex := 14, attributes := #[] }, { accessFlags := 0, nameIndex := 24, descriptorIndex := 25, attributes := #[] }, { accessFlags := 0, nameIndex := 75, descriptorIndex := 21, attributes := #[] }, { accessFlags := 0, nameIndex := 81, descriptorIndex := 82, attributes := #[] }, { accessFlags := 26, nameIndex := 13, descriptorIndex := 14, attributes := #[] }])
  fields := #[{ name := "value", type := (.array .byte), accessFlags := 0, slot := 0, constantValue := 0 }, { name := "coder", type := .byte, accessFlags := 0, slot := 1, constantValue := 0 }, { name := "maybeLatin1", type := .boolean, accessFlags := 0, slot := 2, constantValue := 0 }, { name := "count", type := .int, accessFlags := 0, slot := 3, constantValue := 0 }, { name := "EMPTYVALUE", type := (.array .byte), accessFlags := 26, slot := 0, constantValue := 0 }]
  methods := #[k10m0, k10m1, k10m2, k10m3, k10m4, k10m5, k10m6, k10m7, k10m8, k10m9, k10m10]
  instanceTypes := #[(.array .byte), .byte, .boolean, .int]
  staticTypes := #[(.array .byte)]
  resolved := Array.replicate 609 none
  statics := none }

def pool11 : Array CpInfo := pool [(1, .methodref 2 3), (0, .class_ 4), (0, .nameAndType 5 6), (0, u "java/lang/AbstractStringBuilder"), (0, u "<init>"), (0, u "(I)V"), (11, .class_ 20), (1, u "java/lang/String"), (3, .class_ 26), (1, u "java/lang/StringBuilder"), (0, u "append"), (0, u "(Ljava/lang/String;)Ljava/lang/StringBuilder;"), (0, .methodref 2 30), (0, .nameAndType 27 31), (0, u "(Ljava/lang/String;)Ljava/lang/AbstractStringBuilder;"), (18, .methodref 2 51), (0, .nameAndType 27 52), (0, u "(C)Ljava/lang/AbstractStringBuilder;"), (84, .methodref 18 138), (0, .nameAndType 5 139), (0, u "(Ljava/lang/StringBuilder;)V"), (5, u "()V"), (10, u "()I"), (129, u "(C)Ljava/lang/StringBuilder;"), (56, .methodref 2 344), (0, .nameAndType 345 156), (0, u "length"), (3, .class_ 350), (0, u "java/lang/Appendable"), (0, .class_ 352), (0, u "java/io/Serializable"), (0, .class_ 354), (0, u "java/lang/Comparable"), (0, .class_ 356), (0, u "java/lang/CharSequence"), (0, u "serialVersionUID"), (0, u "J"), (40, u "toString"), (0, u "()Ljava/lang/String;")] 21

def k11c0 : Code := { maxStack := 2, maxLocals := 1, code := jdk_67_method_1_code, exceptionTable := #[], attributes := #[] }
def k11m0 : Method := { name := "<init>", desc := "()V", sig := { parameters := [], returnType := none }, accessFlags := 1, code := some k11c0 }
def k11c1 : Code := { maxStack := 2, maxLocals := 2, code := jdk_67_method_7_code, exceptionTable := #[], attributes := #[] }
def k11m1 : Method := { name := "append", desc := "(Ljava/lang/String;)Ljava/lang/StringBuilder;", sig := { parameters := [(.object "java/lang/String")], returnType := some (.object "java/lang/StringBuilder") }, accessFlags := 1, code := some k11c1 }
def k11c2 : Code := { maxStack := 2, maxLocals := 2, code := jdk_67_method_14_code, exceptionTable := #[], attributes := #[] }
def k11m2 : Method := { name := "append", desc := "(C)Ljava/lang/StringBuilder;", sig := { parameters := [.char], returnType := some (.object "java/lang/StringBuilder") }, accessFlags := 1, code := some k11c2 }
def k11c3 : Code := { maxStack := 3, maxLocals := 1, code := jdk_67_method_42_code, exceptionTable := #[], attributes := #[] }
def k11m3 : Method := { name := "toString", desc := "()Ljava/lang/String;", sig := { parameters := [], returnType := some (.object "java/lang/String") }, accessFlags := 1, code := some k11c3 }
def k11c4 : Code := { maxStack := 1, maxLocals := 1, code := jdk_67_method_93_code, exceptionTable := #[], attributes := #[] }
def k11m4 : Method := { name := "length", desc := "()I", sig := { parameters := [], returnType := some .int }, accessFlags := 4161, code := some k11c4 }
/-- java/lang/StringBuilder -/
def k11 : Class := { plain "java/lang/StringBuilder" (some 10) with
  accessFlags := 49
  interfaces := #[9, 2, 3, 4]
  cf := some (fileOf pool11 24 #[] #[{ accessFlags := 1, nameIndex := 5, descriptorIndex := 145, attributes := #[] }, { accessFlags := 1, nameIndex := 27, descriptorIndex := 28, attributes := #[] }, { accessFlags := 1, nameIndex := 27, descriptorIndex := 286, attributes := #[] }, { accessFlags := 1, nameIndex := 399, descriptorIndex := 400, attributes := #[] }, { accessFlags := 4161, nameIndex := 345, descriptorIndex := 156, attributes := #[] }] 49 2 #[349, 351, 353, 355] #[{ accessFlags := 24, nameIndex := 357, descriptorIndex := 358, attributes := #[] }])
  fields := #[{ name := "serialVersionUID", type := .long, accessFlags := 24, slot := 0, constantValue := 0 }]
  methods := #[k11m0, k11m1, k11m2, k11m3, k11m4]
  instanceTypes := #[(.array .byte), .byte, .boolean, .int]
  staticTypes := #[.long]
  resolved := Array.replicate 422 none
  statics := none }

def pool12 : Array CpInfo := pool [(2, .class_ 4), (1, u "java/lang/Object"), (0, u "<init>"), (0, u "()V"), (7, .class_ 16), (1, u "java/util/Arrays"), (57, .class_ 76), (1, u "java/util/Arrays$NaturalOrder"), (36, .class_ 115), (1, u "java/util/Arrays$LegacyMergeSort"), (1, u "Z"), (21, u "copyOfRange"), (10, .methodref 151 152), (0, .class_ 153), (0, .nameAndType 154 155), (0, u "java/lang/System"), (0, u "arraycopy"), (0, u "(Ljava/lang/Object;ILjava/lang/Object;II)V"), (148, .methodref 305 306), (0, .class_ 307), (0, .nameAndType 308 309), (0, u "java/lang/Math"), (0, u "min"), (0, u "(II)I"), (29, .methodref 14 340), (0, .nameAndType 341 342), (0, u "copyOfRangeByte"), (0, u "([BII)[B"), (0, .methodref 14 344), (0, .nameAndType 345 346), (0, u "checkLength"), (0, u "(II)V"), (28, .class_ 376), (0, u "java/util/Arrays$ArrayList"), (68, u "$assertionsDisabled"), (269, u "MIN_ARRAY_SORT_GRAN"), (0, u "I"), (2, u "INSERTIONSORT_THRESHOLD"), (255, .class_ 976), (0, u "java/util/Arrays$ArrayItr")] 52

def k12m0 : Method := { name := "<init>", desc := "()V", sig := { parameters := [], returnType := none }, accessFlags := 2, code := none }
def k12c1 : Code := { maxStack := 4, maxLocals := 2, code := jdk_65_method_131_code, exceptionTable := #[], attributes := #[] }
def k12m1 : Method := { name := "checkLength", desc := "(II)V", sig := { parameters := [.int, .int], returnType := none }, accessFlags := 10, code := some k12c1 }
def k12c2 : Code := { maxStack := 3, maxLocals := 3, code := jdk_65_method_132_code, exceptionTable := #[], attributes := #[] }
def k12m2 : Method := { name := "copyOfRange", desc := "([BII)[B", sig := { parameters := [(.array .byte), .int, .int], returnType := some (.array .byte) }, accessFlags := 9, code := some k12c2 }
def k12c3 : Code := { maxStack := 6, maxLocals := 5, code := jdk_65_method_133_code, exceptionTable := #[], attributes := #[] }
def k12m3 : Method := { name := "copyOfRangeByte", desc := "([BII)[B", sig := { parameters := [(.array .byte), .int, .int], returnType := some (.array .byte) }, accessFlags := 10, code := some k12c3 }
/-- java/util/Arrays -/
def k12 : Class := { plain "java/util/Arrays" (some 0) with
  accessFlags := 49
  interfaces := #[]
  cf := some (fileOf pool12 14 #[.nestMembers #[975, 375, 113, 74]] #[{ accessFlags := 2, nameIndex := 5, descriptorIndex := 6, attributes := #[] }, { accessFlags := 10, nameIndex := 345, descriptorIndex := 346, attributes := #[] }, { accessFlags := 9, nameIndex := 139, descriptorIndex := 342, attributes := #[] }, { accessFlags := 10, nameIndex := 341, descriptorIndex := 342, attributes := #[] }] 49 2 #[] #[{ accessFlags := 26, nameIndex := 715, descriptorIndex := 716, attributes := #[] }, { accessFlags := 26, nameIndex := 719, descriptorIndex := 716, attributes := #[] }, { accessFlags := 4120, nameIndex := 445, descriptorIndex := 117, attributes := #[] }])
  fields := #[{ name := "MIN_ARRAY_SORT_GRAN", type := .int, accessFlags := 26, slot := 0, constantValue := 0 }, { name := "INSERTIONSORT_THRESHOLD", type := .int, accessFlags := 26, slot := 1, constantValue := 0 }, { name := "$assertionsDisabled", type := .boolean, accessFlags := 4120, slot := 2, constantValue := 0 }]
  methods := #[k12m0, k12m1, k12m2, k12m3]
  instanceTypes := #[]
  staticTypes := #[.int, .int, .boolean]
  resolved := Array.replicate 1029 none
  statics := none }

def pool13 : Array CpInfo := pool [(1, .class_ 2), (0, u "java/lang/Math"), (1, .class_ 6), (1, u "java/lang/Object"), (0, u "<init>"), (0, u "()V"), (89, .class_ 100), (1, u "java/lang/Math$RandomNumberGeneratorHolder"), (71, u "negativeZeroFloatBits"), (0, u "J"), (2, u "negativeZeroDoubleBits"), (21, u "max"), (2, u "min"), (43, u "$assertionsDisabled"), (0, u "Z"), (88, u "(II)I"), (2, u "twoToTheDoubleScaleDown"), (0, u "D"), (4, u "twoToTheDoubleScaleUp"), (9, u "E"), (3, u "PI"), (2, u "TAU"), (2, u "DEGREES_TO_RADIANS"), (0, u "RADIANS_TO_DEGREES")] 94

def k13m0 : Method := { name := "<init>", desc := "()V", sig := { parameters := [], returnType := none }, accessFlags := 2, code := none }
def k13c1 : Code := { maxStack := 2, maxLocals := 2, code := jdk_29_method_65_code, exceptionTable := #[], attributes := #[] }
def k13m1 : Method := { name := "max", desc := "(II)I", sig := { parameters := [.int, .int], returnType := some .int }, accessFlags := 9, code := some k13c1 }
def k13c2 : Code := { maxStack := 2, maxLocals := 2, code := jdk_29_method_69_code, exceptionTable := #[], attributes := #[] }
def k13m2 : Method := { name := "min", desc := "(II)I", sig := { parameters := [.int, .int], returnType := some .int }, accessFlags := 9, code := some k13c2 }
/-- java/lang/Math -/
def k13 : Class := { plain "java/lang/Math" (some 0) with
  accessFlags := 49
  interfaces := #[]
  cf := some (fileOf pool13 1 #[.nestMembers #[98]] #[{ accessFlags := 2, nameIndex := 7, descriptorIndex := 8, attributes := #[] }, { accessFlags := 9, nameIndex := 198, descriptorIndex := 335, attributes := #[] }, { accessFlags := 9, nameIndex := 201, descriptorIndex := 335, attributes := #[] }] 49 4 #[] #[{ accessFlags := 25, nameIndex := 354, descriptorIndex := 339, attributes := #[] }, { accessFlags := 25, nameIndex := 358, descriptorIndex := 339, attributes := #[] }, { accessFlags := 25, nameIndex := 361, descriptorIndex := 339, attributes := #[] }, { accessFlags := 26, nameIndex := 364, descriptorIndex := 339, attributes := #[] }, { accessFlags := 26, nameIndex := 365, descriptorIndex := 339, attributes := #[] }, { accessFlags := 26, nameIndex := 172, descriptorIndex := 173, attributes := #[] }, { accessFlags := 26, nameIndex := 176, descriptorIndex := 173, attributes := #[] }, { accessFlags := 8, nameIndex := 344, descriptorIndex := 339, attributes := #[] }, { accessFlags := 8, nameIndex := 338, descriptorIndex := 339, attributes := #[] }, { accessFlags := 4120, nameIndex := 245, descriptorIndex := 246, attributes := #[] }])
  fields := #[{ name := "E", type := .double, accessFlags := 25, slot := 0, constantValue := 0 }, { name := "PI", type := .double, accessFlags := 25, slot := 1, constantValue := 0 }, { name := "TAU", type := .double, accessFlags := 25, slot := 2, constantValue := 0 }, { name := "DEGREES_TO_RADIANS", type := .double, accessFlags := 26, slot := 3, constantValue := 0 }, { name := "RADIANS_TO_DEGREES", type := .double, accessFlags := 26, slot := 4, constantValue := 0 }, { name := "negativeZeroFloatBits", type := .long, accessFlags := 26, slot := 5, constantValue := 0 }, { name := "negativeZeroDoubleBits", type := .long, accessFlags := 26, slot := 6, constantValue := 0 }, { name := "twoToTheDoubleScaleUp", type := .double, accessFlags := 8, slot := 7, constantValue := 0 }, { name := "twoToTheDoubleScaleDown", type := .double, accessFlags := 8, slot := 8, constantValue := 0 }, { name := "$assertionsDisabled", type := .boolean, accessFlags := 4120, slot := 9, constantValue := 0 }]
  methods := #[k13m0, k13m1, k13m2]
  instanceTypes := #[]
  staticTypes := #[.double, .double, .double, .double, .double, .long, .long, .double, .double, .boolean]
  resolved := Array.replicate 460 none
  statics := none }

def pool14 : Array CpInfo := pool [(2, .class_ 4), (1, u "java/lang/Object"), (0, u "<init>"), (0, u "()V"), (1, .class_ 10), (1, u "java/lang/System"), (0, u "allowSecurityManager"), (0, u "I"), (16, u "cons"), (0, u "Ljava/io/Console;"), (77, .class_ 110), (1, u "java/lang/System$CallersHolder"), (43, u "initialErrStream"), (0, u "Ljava/io/PrintStream;"), (19, u "security"), (0, u "Ljava/lang/SecurityManager;"), (31, .class_ 209), (0, u "java/lang/System$1"), (7, u "props"), (0, u "Ljava/util/Properties;"), (2, u "lineSeparator"), (0, u "Ljava/lang/String;"), (96, .class_ 321), (1, u "java/lang/System$LoggerFinder"), (5, .class_ 328), (0, u "java/lang/System$Logger"), (67, u "err"), (2, u "out"), (91, u "notSupportedJnuEncoding"), (15, u "in"), (17, u "initialIn"), (0, u "Ljava/io/InputStream;"), (35, u "bootLayer"), (0, u "Ljava/lang/ModuleLayer;"), (99, .class_ 664), (0, u "java/lang/System$2"), (9, u "NEVER"), (2, u "MAYBE"), (49, u "arraycopy"), (0, u "(Ljava/lang/Object;ILjava/lang/Object;II)V"), (72, .class_ 802), (0, u "java/lang/System$Logger$Level")] 31

def k14m0 : Method := { name := "<init>", desc := "()V", sig := { parameters := [], returnType := none }, accessFlags := 2, code := none }
def k14m1 : Method := { name := "arraycopy", desc := "(Ljava/lang/Object;ILjava/lang/Object;II)V", sig := { parameters := [(.object "java/lang/Object"), .int, (.object "java/lang/Object"), .int, .int], returnType := none }, accessFlags := 265, code := none }
/-- java/lang/System -/
def k14 : Class := { plain "java/lang/System" (some 0) with
  accessFlags := 49
  interfaces := #[]
  cf := some (fileOf pool14 8 #[.nestMembers #[319, 327, 801, 108, 663, 208]] #[{ accessFlags := 2, nameIndex := 5, descriptorIndex := 6, attributes := #[] }, { accessFlags := 265, nameIndex := 727, descriptorIndex := 728, attributes := #[] }] 49 2 #[] #[{ accessFlags := 25, nameIndex := 507, descriptorIndex := 526, attributes := #[] }, { accessFlags := 25, nameIndex := 399, descriptorIndex := 155, attributes := #[] }, { accessFlags := 25, nameIndex := 396, descriptorIndex := 155, attributes := #[] }, { accessFlags := 10, nameIndex := 525, descriptorIndex := 526, attributes := #[] }, { accessFlags := 26, nameIndex := 674, descriptorIndex := 12, attributes := #[] }, { accessFlags := 26, nameIndex := 677, descriptorIndex := 12, attributes := #[] }, { accessFlags := 10, nameIndex := 11, descriptorIndex := 12, attributes := #[] }, { accessFlags := 74, nameIndex := 175, descriptorIndex := 176, attributes := #[] }, { accessFlags := 10, nameIndex := 491, descriptorIndex := 222, attributes := #[] }, { accessFlags := 74, nameIndex := 29, descriptorIndex := 30, attributes := #[] }, { accessFlags := 74, nameIndex := 154, descriptorIndex := 155, attributes := #[] }, { accessFlags := 10, nameIndex := 217, descriptorIndex := 218, attributes := #[] }, { accessFlags := 10, nameIndex := 221, descriptorIndex := 222, attributes := #[] }, { accessFlags := 8, nameIndex := 562, descriptorIndex := 563, attributes := #[] }])
  fields := #[{ name := "in", type := (.object "java/io/InputStream"), accessFlags := 25, slot := 0, constantValue := 0 }, { name := "out", type := (.object "java/io/PrintStream"), accessFlags := 25, slot := 1, constantValue := 0 }, { name := "err", type := (.object "java/io/PrintStream"), accessFlags := 25, slot := 2, constantValue := 0 }, { name := "initialIn", type := (.object "java/io/InputStream"), accessFlags := 10, slot := 3, constantValue := 0 }, { name := "NEVER", type := .int, accessFlags := 26, slot := 4, constantValue := 0 }, { name := "MAYBE", type := .int, accessFlags := 26, slot := 5, constantValue := 0 }, { name := "allowSecurityManager", type := .int, accessFlags := 10, slot := 6, constantValue := 0 }, { name := "security", type := (.object "java/lang/SecurityManager"), accessFlags := 74, slot := 7, constantValue := 0 }, { name := "notSupportedJnuEncoding", type := (.object "java/lang/String"), accessFlags := 10, slot := 8, constantValue := 0 }, { name := "cons", type := (.object "java/io/Console"), accessFlags := 74, slot := 9, constantValue := 0 }, { name := "initialErrStream", type := (.object "java/io/PrintStream"), accessFlags := 74, slot := 10, constantValue := 0 }, { name := "props", type := (.object "java/util/Properties"), accessFlags := 10, slot := 11, constantValue := 0 }, { name := "lineSeparator", type := (.object "java/lang/String"), accessFlags := 10, slot := 12, constantValue := 0 }, { name := "bootLayer", type := (.object "java/lang/ModuleLayer"), accessFlags := 8, slot := 13, constantValue := 0 }]
  methods := #[k14m0, k14m1]
  instanceTypes := #[]
  staticTypes := #[(.object "java/io/InputStream"), (.object "java/io/PrintStream"), (.object "java/io/PrintStream"), (.object "java/io/InputStream"), .int, .int, .int, (.object "java/lang/SecurityManager"), (.object "java/lang/String"), (.object "java/io/Console"), (.object "java/io/PrintStream"), (.object "java/util/Properties"), (.object "java/lang/String"), (.object "java/lang/ModuleLayer")]
  resolved := Array.replicate 834 none
  statics := none }

def pool15 : Array CpInfo := pool [(3, .class_ 4), (0, u "java/lang/String"), (1, .class_ 8), (1, u "java/lang/Object"), (0, u "<init>"), (0, u "()V"), (0, .methodref 12 13), (0, .class_ 14), (0, .nameAndType 15 16), (0, u "java/lang/StringUTF16"), (0, u "newBytesLength"), (0, u "(I)I"), (3, .integer 1073741823), (23, .fieldref 12 45), (0, .nameAndType 46 47), (0, u "$assertionsDisabled"), (0, u "Z"), (0, .methodref 12 49), (0, .nameAndType 50 51), (0, u "length"), (0, u "([B)I"), (7, .fieldref 12 60), (0, .nameAndType 61 62), (0, u "HI_BYTE_SHIFT"), (0, u "I"), (0, .fieldref 12 64), (0, .nameAndType 65 62), (0, u "LO_BYTE_SHIFT"), (1, .methodref 12 68), (0, .nameAndType 69 70), (0, u "checkIndex"), (0, u "(I[B)V"), (0, .methodref 12 72), (0, .nameAndType 73 74), (0, u "getChar"), (0, u "([BI)C"), (24, u "(II[B)V"), (7, .methodref 12 108), (0, .nameAndType 109 110), (0, u "newBytesFor"), (0, u "(I)[B"), (0, .methodref 12 112), (0, .nameAndType 113 114), (0, u "putChar"), (0, u "([BII)V"), (0, .methodref 12 116), (0, .nameAndType 117 118), (0, u "compress"), (0, u "([CI[BII)I"), (0, .methodref 12 120), (0, .nameAndType 121 122), (0, u "toBytes"), (0, u "([CII)[B"), (17, u "inflate"), (0, u "([BI[BII)V"), (31, .methodref 12 174), (0, .nameAndType 175 99), (0, u "checkBoundsOffCount"), (85, u "coderFromArrayLen"), (0, u "([BI)B"), (18, u "(III)I"), (87, .class_ 371), (1, u "java/lang/StringUTF16$LinesSpliterator"), (20, u "charAt"), (21, .methodref 3 415), (0, .nameAndType 69 416), (0, u "(II)V"), (2, .methodref 3 420), (0, .nameAndType 175 281), (9, u "MAX_LENGTH"), (44, u "(C)[B"), (110, u "putCharSB"), (40, .class_ 628), (0, u "java/lang/StringUTF16$CodePointsSpliterator"), (0, .class_ 630), (0, u "java/lang/StringUTF16$CharsSpliterator")] 4

def k15m0 : Method := { name := "<init>", desc := "()V", sig := { parameters := [], returnType := none }, accessFlags := 0, code := none }
def k15c1 : Code := { maxStack := 1, maxLocals := 1, code := jdk_52_method_2_code, exceptionTable := #[], attributes := #[] }
def k15m1 : Method := { name := "newBytesFor", desc := "(I)[B", sig := { parameters := [.int], returnType := some (.array .byte) }, accessFlags := 9, code := some k15c1 }
def k15c2 : Code := { maxStack := 4, maxLocals := 1, code := jdk_52_method_3_code, exceptionTable := #[], attributes := #[] }
def k15m2 : Method := { name := "newBytesLength", desc := "(I)I", sig := { parameters := [.int], returnType := some .int }, accessFlags := 9, code := some k15c2 }
def k15c3 : Code := { maxStack := 4, maxLocals := 3, code := jdk_52_method_4_code, exceptionTable := #[], attributes := #[] }
def k15m3 : Method := { name := "putChar", desc := "([BII)V", sig := { parameters := [(.array .byte), .int, .int], returnType := none }, accessFlags := 8, code := some k15c3 }
def k15c4 : Code := { maxStack := 3, maxLocals := 2, code := jdk_52_method_5_code, exceptionTable := #[], attributes := #[] }
def k15m4 : Method := { name := "getChar", desc := "([BI)C", sig := { parameters := [(.array .byte), .int], returnType := some .char }, accessFlags := 8, code := some k15c4 }
def k15c5 : Code := { maxStack := 2, maxLocals := 1, code := jdk_52_method_6_code, exceptionTable := #[], attributes := #[] }
def k15m5 : Method := { name := "length", desc := "([B)I", sig := { parameters := [(.array .byte)], returnType := some .int }, accessFlags := 9, code := some k15c5 }
def k15c6 : Code := { maxStack := 4, maxLocals := 5, code := jdk_52_method_14_code, exceptionTable := #[], attributes := #[] }
def k15m6 : Method := { name := "toBytes", desc := "([CII)[B", sig := { parameters := [(.array .char), .int, .int], returnType := some (.array .byte) }, accessFlags := 9, code := some k15c6 }
def k15c7 : Code := { maxStack := 2, maxLocals := 2, code := jdk_52_method_15_code, exceptionTable := #[], attributes := #[] }
def k15m7 : Method := { name := "coderFromArrayLen", desc := "([BI)B", sig := { parameters := [(.array .byte), .int], returnType := some .byte }, accessFlags := 8, code := some k15c7 }
def k15c8 : Code := { maxStack := 5, maxLocals := 6, code := jdk_52_method_16_code, exceptionTable := #[], attributes := #[] }
def k15m8 : Method := { name := "compress", desc := "([CII)[B", sig := { parameters := [(.array .char), .int, .int], returnType := some (.array .byte) }, accessFlags := 9, code := some k15c8 }
def k15c9 : Code := { maxStack := 3, maxLocals := 7, code := jdk_52_method_21_code, exceptionTable := #[], attributes := #[] }
def k15m9 : Method := { name := "compress", desc := "([CI[BII)I", sig := { parameters := [(.array .char), .int, (.array .byte), .int, .int], returnType := some .int }, accessFlags := 9, code := some k15c9 }
def k15c10 : Code := { maxStack := 3, maxLocals := 2, code := jdk_52_method_24_code, exceptionTable := #[], attributes := #[] }
def k15m10 : Method := { name := "toBytes", desc := "(C)[B", sig := { parameters := [.char], returnType := some (.array .byte) }, accessFlags := 9, code := some k15c10 }
def k15c11 : Code := { maxStack := 3, maxLocals := 3, code := jdk_52_method_71_code, exceptionTable := #[], attributes := #[] }
def k15m11 : Method := { name := "putCharSB", desc := "([BII)V", sig := { parameters := [(.array .byte), .int, .int], returnType := none }, accessFlags := 9, code := some k15c11 }
def k15c12 : Code := { maxStack := 2, maxLocals := 2, code := jdk_52_method_83_code, exceptionTable := #[], attributes := #[] }
def k15m12 : Method := { name := "charAt", desc := "([BI)C", sig := { parameters := [(.array .byte), .int], returnType := some .char }, accessFlags := 9, code := some k15c12 }
def k15c13 : Code := { maxStack := 4, maxLocals := 6, code := jdk_52_method_86_code, exceptionTable := #[], attributes := #[] }
def k15m13 : Method := { name := "inflate", desc := "([BI[BII)V", sig := { parameters := [(.array .byte), .int, (.array .byte), .int, .int], returnType := none }, accessFlags := 9, code := some k15c13 }
def k15c14 : Code := { maxStack := 2, maxLocals := 2, code := jdk_52_method_91_code, exceptionTable := #[], attributes := #[] }
def k15m14 : Method := { name := "checkIndex", desc := "(I[B)V", sig := { parameters := [.int, (.array .byte)], returnType := none }, accessFlags := 9, code := some k15c14 }
def k15c15 : Code := { maxStack := 3, maxLocals := 3, code := jdk_52_method_94_code, exceptionTable := #[], attributes := #[] }
def k15m15 : Method := { name := "checkBoundsOffCount", desc := "(II[B)V", sig := { parameters := [.int, .int, (.array .byte)], returnType := none }, accessFlags := 9, code := some k15c15 }
/-- java/lang/StringUTF16 -/
def k15 : Class := { plain "java/lang/StringUTF16" (some 0) with
  accessFlags := 48
  interfaces := #[]
  cf := some (fileOf pool15 12 #[.nestMembers #[627, 629, 369]] #[{ accessFlags := 0, nameIndex := 9, descriptorIndex := 10, attributes := #[] }, { accessFlags := 9, nameIndex := 109, descriptorIndex := 110, attributes := #[] }, { accessFlags := 9, nameIndex := 15, descriptorIndex := 16, attributes := #[] }, { accessFlags := 8, nameIndex := 113, descriptorIndex := 114, attributes := #[] }, { accessFlags := 8, nameIndex := 73, descriptorIndex := 74, attributes := #[] }, { accessFlags := 9, nameIndex := 50, descriptorIndex := 51, attributes := #[] }, { accessFlags := 9, nameIndex := 121, descriptorIndex := 122, attributes := #[] }, { accessFlags := 8, nameIndex := 261, descriptorIndex := 262, attributes := #[] }, { accessFlags := 9, nameIndex := 117, descriptorIndex := 122, attributes := #[] }, { accessFlags := 9, nameIndex := 117, descriptorIndex := 118, attributes := #[] }, { accessFlags := 9, nameIndex := 121, descriptorIndex := 475, attributes := #[] }, { accessFlags := 9, nameIndex := 586, descriptorIndex := 114, attributes := #[] }, { accessFlags := 9, nameIndex := 392, descriptorIndex := 74, attributes := #[] }, { accessFlags := 9, nameIndex := 140, descriptorIndex := 141, attributes := #[] }, { accessFlags := 9, nameIndex := 69, descriptorIndex := 70, attributes := #[] }, { accessFlags := 9, nameIndex := 175, descriptorIndex := 99, attributes := #[] }] 48 6 #[] #[{ accessFlags := 26, nameIndex := 61, descriptorIndex := 62, attributes := #[] }, { accessFlags := 26, nameIndex := 65, descriptorIndex := 62, attributes := #[] }, { accessFlags := 24, nameIndex := 430, descriptorIndex := 62, attributes := #[] }, { accessFlags := 4120, nameIndex := 46, descriptorIndex := 47, attributes := #[] }])
  fields := #[{ name := "HI_BYTE_SHIFT", type := .int, accessFlags := 26, slot := 0, constantValue := 0 }, { name := "LO_BYTE_SHIFT", type := .int, accessFlags := 26, slot := 1, constantValue := 0 }, { name := "MAX_LENGTH", type := .int, accessFlags := 24, slot := 2, constantValue := 0 }, { name := "$assertionsDisabled", type := .boolean, accessFlags := 4120, slot := 3, constantValue := 0 }]
  methods := #[k15m0, k15m1, k15m2, k15m3, k15m4, k15m5, k15m6, k15m7, k15m8, k15m9, k15m10, k15m11, k15m12, k15m13, k15m14, k15m15]
  instanceTypes := #[]
  staticTypes := #[.int, .int, .int, .boolean]
  resolved := Array.replicate 635 none
  statics := some 1 }

def pool16 : Array CpInfo := pool [(1, .class_ 2), (0, u "java/lang/String"), (1, .class_ 6), (1, u "java/lang/Object"), (0, u "<init>"), (0, u "()V"), (0, .methodref 1 10), (0, .nameAndType 11 12), (0, u "checkIndex"), (0, u "(II)V"), (1, .class_ 16), (1, u "java/lang/StringLatin1"), (0, u "inflate"), (2, .class_ 22), (1, u "java/lang/StringUTF16"), (3, .nameAndType 17 27), (0, u "([BI[BII)V"), (10, .methodref 39 40), (0, .class_ 41), (0, .nameAndType 42 43), (0, u "java/lang/Math"), (0, u "min"), (0, u "(II)I"), (9, u "([BI)C"), (34, .methodref 14 89), (0, .nameAndType 90 91), (0, u "canEncode"), (0, u "(I)Z"), (0, .methodref 39 93), (0, .nameAndType 94 43), (0, u "max"), (0, .methodref 14 96), (0, .nameAndType 97 98), (0, u "indexOfChar"), (0, u "([BIII)I"), (2, u "indexOf"), (3, u "(C)Z"), (15, u "$assertionsDisabled"), (0, u "Z"), (98, .class_ 223), (1, u "java/lang/StringLatin1$LinesSpliterator"), (16, .methodref 20 26), (11, u "charAt"), (127, u "toBytes"), (1, u "(C)[B"), (7, .class_ 391), (0, u "java/lang/StringLatin1$CharsSpliterator")] 3

def k16m0 : Method := { name := "<init>", desc := "()V", sig := { parameters := [], returnType := none }, accessFlags := 0, code := none }
def k16c1 : Code := { maxStack := 2, maxLocals := 2, code := jdk_43_method_2_code, exceptionTable := #[], attributes := #[] }
def k16m1 : Method := { name := "charAt", desc := "([BI)C", sig := { parameters := [(.array .byte), .int], returnType := some .char }, accessFlags := 9, code := some k16c1 }
def k16c2 : Code := { maxStack := 2, maxLocals := 1, code := jdk_43_method_3_code, exceptionTable := #[], attributes := #[] }
def k16m2 : Method := { name := "canEncode", desc := "(C)Z", sig := { parameters := [.char], returnType := some .boolean }, accessFlags := 9, code := some k16c2 }
def k16c3 : Code := { maxStack := 2, maxLocals := 1, code := jdk_43_method_4_code, exceptionTable := #[], attributes := #[] }
def k16m3 : Method := { name := "canEncode", desc := "(I)Z", sig := { parameters := [.int], returnType := some .boolean }, accessFlags := 9, code := some k16c3 }
def k16c4 : Code := { maxStack := 4, maxLocals := 4, code := jdk_43_method_22_code, exceptionTable := #[], attributes := #[] }
def k16m4 : Method := { name := "indexOf", desc := "([BIII)I", sig := { parameters := [(.array .byte), .int, .int, .int], returnType := some .int }, accessFlags := 9, code := some k16c4 }
def k16c5 : Code := { maxStack := 2, maxLocals := 6, code := jdk_43_method_23_code, exceptionTable := #[], attributes := #[] }
def k16m5 : Method := { name := "indexOfChar", desc := "([BIII)I", sig := { parameters := [(.array .byte), .int, .int, .int], returnType := some .int }, accessFlags := 10, code := some k16c5 }
def k16c6 : Code := { maxStack := 4, maxLocals := 1, code := jdk_43_method_46_code, exceptionTable := #[], attributes := #[] }
def k16m6 : Method := { name := "toBytes", desc := "(C)[B", sig := { parameters := [.char], returnType := some (.array .byte) }, accessFlags := 9, code := some k16c6 }
def k16c7 : Code := { maxStack := 5, maxLocals := 5, code := jdk_43_method_50_code, exceptionTable := #[], attributes := #[] }
def k16m7 : Method := { name := "inflate", desc := "([BI[BII)V", sig := { parameters := [(.array .byte), .int, (.array .byte), .int, .int], returnType := none }, accessFlags := 9, code := some k16c7 }
/-- java/lang/StringLatin1 -/
def k16 : Class := { plain "java/lang/StringLatin1" (some 0) with
  accessFlags := 48
  interfaces := #[]
  cf := some (fileOf pool16 14 #[.nestMembers #[390, 221]] #[{ accessFlags := 0, nameIndex := 7, descriptorIndex := 8, attributes := #[] }, { accessFlags := 9, nameIndex := 252, descriptorIndex := 53, attributes := #[] }, { accessFlags := 9, nameIndex := 90, descriptorIndex := 105, attributes := #[] }, { accessFlags := 9, nameIndex := 90, descriptorIndex := 91, attributes := #[] }, { accessFlags := 9, nameIndex := 101, descriptorIndex := 98, attributes := #[] }, { accessFlags := 10, nameIndex := 97, descriptorIndex := 98, attributes := #[] }, { accessFlags := 9, nameIndex := 380, descriptorIndex := 382, attributes := #[] }, { accessFlags := 9, nameIndex := 17, descriptorIndex := 27, attributes := #[] }] 48 4 #[] #[{ accessFlags := 4120, nameIndex := 121, descriptorIndex := 122, attributes := #[] }])
  fields := #[{ name := "$assertionsDisabled", type := .boolean, accessFlags := 4120, slot := 0, constantValue := 0 }]
  methods := #[k16m0, k16m1, k16m2, k16m3, k16m4, k16m5, k16m6, k16m7]
  instanceTypes := #[]
  staticTypes := #[.boolean]
  resolved := Array.replicate 395 none
  statics := none }

def pool17 : Array CpInfo := pool [(2, .class_ 4), (1, u "java/lang/Object"), (0, u "<init>"), (0, u "()V"), (17, .class_ 26), (1, u "jdk/internal/util/Preconditions"), (6, u "checkIndex"), (15, u "checkFromIndexSize"), (5, .class_ 56), (0, u "jdk/internal/util/Preconditions$4"), (57, .class_ 115), (0, u "jdk/internal/util/Preconditions$1"), (7, u "SIOOBE_FORMATTER"), (0, u "Ljava/util/function/BiFunction;"), (0, .class_ 126), (0, u "jdk/internal/util/Preconditions$2"), (3, u "AIOOBE_FORMATTER"), (0, .class_ 132), (0, u "jdk/internal/util/Preconditions$3"), (3, u "IOOBE_FORMATTER"), (41, u "(IILjava/util/function/BiFunction;)I"), (4, u "(IIILjava/util/function/BiFunction;)I")] 10

def k17m0 : Method := { name := "<init>", desc := "()V", sig := { parameters := [], returnType := none }, accessFlags := 1, code := none }
def k17c1 : Code := { maxStack := 3, maxLocals := 3, code := jdk_41_method_11_code, exceptionTable := #[], attributes := #[] }
def k17m1 : Method := { name := "checkIndex", desc := "(IILjava/util/function/BiFunction;)I", sig := { parameters := [.int, .int, (.object "java/util/function/BiFunction")], returnType := some .int }, accessFlags := 9, code := some k17c1 }
def k17c2 : Code := { maxStack := 4, maxLocals := 4, code := jdk_41_method_13_code, exceptionTable := #[], attributes := #[] }
def k17m2 : Method := { name := "checkFromIndexSize", desc := "(IIILjava/util/function/BiFunction;)I", sig := { parameters := [.int, .int, .int, (.object "java/util/function/BiFunction")], returnType := some .int }, accessFlags := 9, code := some k17c2 }
/-- jdk/internal/util/Preconditions -/
def k17 : Class := { plain "jdk/internal/util/Preconditions" (some 0) with
  accessFlags := 33
  interfaces := #[]
  cf := some (fileOf pool17 24 #[.nestMembers #[55, 131, 125, 114]] #[{ accessFlags := 1, nameIndex := 5, descriptorIndex := 6, attributes := #[] }, { accessFlags := 9, nameIndex := 33, descriptorIndex := 178, attributes := #[] }, { accessFlags := 9, nameIndex := 49, descriptorIndex := 183, attributes := #[] }] 33 2 #[] #[{ accessFlags := 25, nameIndex := 123, descriptorIndex := 124, attributes := #[] }, { accessFlags := 25, nameIndex := 130, descriptorIndex := 124, attributes := #[] }, { accessFlags := 25, nameIndex := 136, descriptorIndex := 124, attributes := #[] }])
  fields := #[{ name := "SIOOBE_FORMATTER", type := (.object "java/util/function/BiFunction"), accessFlags := 25, slot := 0, constantValue := 0 }, { name := "AIOOBE_FORMATTER", type := (.object "java/util/function/BiFunction"), accessFlags := 25, slot := 1, constantValue := 0 }, { name := "IOOBE_FORMATTER", type := (.object "java/util/function/BiFunction"), accessFlags := 25, slot := 2, constantValue := 0 }]
  methods := #[k17m0, k17m1, k17m2]
  instanceTypes := #[]
  staticTypes := #[(.object "java/util/function/BiFunction"), (.object "java/util/function/BiFunction"), (.object "java/util/function/BiFunction")]
  resolved := Array.replicate 194 none
  statics := some 2 }

def pool18 : Array CpInfo := pool [(9, u "<init>"), (6, .class_ 18), (1, u "java/lang/Object"), (0, u "()V"), (1, .class_ 23), (1, u "jdk/internal/util/ArraysSupport"), (0, u "LOG2_ARRAY_LONG_INDEX_SCALE"), (0, u "I"), (2, u "U"), (0, u "Ljdk/internal/misc/Unsafe;"), (8, u "BIG_ENDIAN"), (0, u "Z"), (8, u "LOG2_BYTE_BIT_SIZE"), (4, u "LOG2_ARRAY_INT_INDEX_SCALE"), (54, u "JLA"), (0, u "Ljdk/internal/access/JavaLangAccess;"), (11, u "LOG2_ARRAY_BOOLEAN_INDEX_SCALE"), (9, u "LOG2_ARRAY_BYTE_INDEX_SCALE"), (5, u "LOG2_ARRAY_CHAR_INDEX_SCALE"), (5, u "LOG2_ARRAY_SHORT_INDEX_SCALE"), (18, u "LOG2_ARRAY_FLOAT_INDEX_SCALE"), (24, u "LOG2_ARRAY_DOUBLE_INDEX_SCALE"), (89, u "T_BOOLEAN"), (2, u "T_CHAR"), (1, u "T_FLOAT"), (1, u "T_DOUBLE"), (1, u "T_BYTE"), (1, u "T_SHORT"), (1, u "T_INT"), (1, u "T_LONG"), (1, u "SOFT_MAX_ARRAY_LENGTH")] 83

def k18m0 : Method := { name := "<init>", desc := "()V", sig := { parameters := [], returnType := none }, accessFlags := 2, code := none }
/-- jdk/internal/util/ArraysSupport -/
def k18 : Class := { plain "jdk/internal/util/ArraysSupport" (some 0) with
  accessFlags := 33
  interfaces := #[]
  cf := some (fileOf pool18 21 #[] #[{ accessFlags := 2, nameIndex := 9, descriptorIndex := 19, attributes := #[] }] 33 16 #[] #[{ accessFlags := 24, nameIndex := 28, descriptorIndex := 29, attributes := #[] }, { accessFlags := 26, nameIndex := 38, descriptorIndex := 39, attributes := #[] }, { accessFlags := 25, nameIndex := 121, descriptorIndex := 25, attributes := #[] }, { accessFlags := 25, nameIndex := 131, descriptorIndex := 25, attributes := #[] }, { accessFlags := 25, nameIndex := 137, descriptorIndex := 25, attributes := #[] }, { accessFlags := 25, nameIndex := 143, descriptorIndex := 25, attributes := #[] }, { accessFlags := 25, nameIndex := 53, descriptorIndex := 25, attributes := #[] }, { accessFlags := 25, nameIndex := 24, descriptorIndex := 25, attributes := #[] }, { accessFlags := 25, nameIndex := 162, descriptorIndex := 25, attributes := #[] }, { accessFlags := 25, nameIndex := 187, descriptorIndex := 25, attributes := #[] }, { accessFlags := 26, nameIndex := 48, descriptorIndex := 25, attributes := #[] }, { accessFlags := 25, nameIndex := 277, descriptorIndex := 25, attributes := #[] }, { accessFlags := 25, nameIndex := 280, descriptorIndex := 25, attributes := #[] }, { accessFlags := 25, nameIndex := 282, descriptorIndex := 25, attributes := #[] }, { accessFlags := 25, nameIndex := 284, descriptorIndex := 25, attributes := #[] }, { accessFlags := 25, nameIndex := 286, descriptorIndex := 25, attributes := #[] }, { accessFlags := 25, nameIndex := 288, descriptorIndex := 25, attributes := #[] }, { accessFlags := 25, nameIndex := 290, descriptorIndex := 25, attributes := #[] }, { accessFlags := 25, nameIndex := 292, descriptorIndex := 25, attributes := #[] }, { accessFlags := 26, nameIndex := 108, descriptorIndex := 109, attributes := #[] }, { accessFlags := 25, nameIndex := 294, descriptorIndex := 25, attributes := #[] }])
  fields := #[{ name := "U", type := (.object "jdk/internal/misc/Unsafe"), accessFlags := 24, slot := 0, constantValue := 0 }, { name := "BIG_ENDIAN", type := .boolean, accessFlags := 26, slot := 1, constantValue := 0 }, { name := "LOG2_ARRAY_BOOLEAN_INDEX_SCALE", type := .int, accessFlags := 25, slot := 2, constantValue := 0 }, { name := "LOG2_ARRAY_BYTE_INDEX_SCALE", type := .int, accessFlags := 25, slot := 3, constantValue := 0 }, { name := "LOG2_ARRAY_CHAR_INDEX_SCALE", type := .int, accessFlags := 25, slot := 4, constantValue := 0 }, { name := "LOG2_ARRAY_SHORT_INDEX_SCALE", type := .int, accessFlags := 25, slot := 5, constantValue := 0 }, { name := "LOG2_ARRAY_INT_INDEX_SCALE", type := .int, accessFlags := 25, slot := 6, constantValue := 0 }, { name := "LOG2_ARRAY_LONG_INDEX_SCALE", type := .int, accessFlags := 25, slot := 7, constantValue := 0 }, { name := "LOG2_ARRAY_FLOAT_INDEX_SCALE", type := .int, accessFlags := 25, slot := 8, constantValue := 0 }, { name := "LOG2_ARRAY_DOUBLE_INDEX_SCALE", type := .int, accessFlags := 25, slot := 9, constantValue := 0 }, { name := "LOG2_BYTE_BIT_SIZE", type := .int, accessFlags := 26, slot := 10, constantValue := 0 }, { name := "T_BOOLEAN", type := .int, accessFlags := 25, slot := 11, constantValue := 0 }, { name := "T_CHAR", type := .int, accessFlags := 25, slot := 12, constantValue := 0 }, { name := "T_FLOAT", type := .int, accessFlags := 25, slot := 13, constantValue := 0 }, { name := "T_DOUBLE", type := .int, accessFlags := 25, slot := 14, constantValue := 0 }, { name := "T_BYTE", type := .int, accessFlags := 25, slot := 15, constantValue := 0 }, { name := "T_SHORT", type := .int, accessFlags := 25, slot := 16, constantValue := 0 }, { name := "T_INT", type := .int, accessFlags := 25, slot := 17, constantValue := 0 }, { name := "T_LONG", type := .int, accessFlags := 25, slot := 18, constantValue := 0 }, { name := "JLA", type := (.object "jdk/internal/access/JavaLangAccess"), accessFlags := 26, slot := 19, constantValue := 0 }, { name := "SOFT_MAX_ARRAY_LENGTH", type := .int, accessFlags := 25, slot := 20, constantValue := 0 }]
  methods := #[k18m0]
  instanceTypes := #[]
  staticTypes := #[(.object "jdk/internal/misc/Unsafe"), .boolean, .int, .int, .int, .int, .int, .int, .int, .int, .int, .int, .int, .int, .int, .int, .int, .int, .int, (.object "jdk/internal/access/JavaLangAccess"), .int]
  resolved := Array.replicate 378 none
  statics := none }

def pool19 : Array CpInfo := pool [(1, u "java/lang/Cloneable"), (0, .class_ 1), (0, u "java/lang/Object"), (0, .class_ 3)] 3

/-- java/lang/Cloneable -/
def k19 : Class := { plain "java/lang/Cloneable" (some 0) with
  accessFlags := 1537
  interfaces := #[]
  cf := some (fileOf pool19 2 #[] #[] 1537 4 #[] #[])
  fields := #[]
  methods := #[]
  instanceTypes := #[]
  staticTypes := #[]
  resolved := Array.replicate 8 none
  statics := none }

/-- the primitive byte -/
def k20 : Class := { plain "byte" none with kind := .primitive 'B', accessFlags := 0x411 }
/-- [B -/
def k21 : Class := { plain "[B" (some 0) with kind := .array 20 .byte, interfaces := #[19, 2], accessFlags := 1041 }

/-- the primitive char -/
def k22 : Class := { plain "char" none with kind := .primitive 'C', accessFlags := 0x411 }
/-- [C -/
def k23 : Class := { plain "[C" (some 0) with kind := .array 22 .char, interfaces := #[19, 2], accessFlags := 1041 }

/-- the primitive int -/
def k24 : Class := { plain "int" none with kind := .primitive 'I', accessFlags := 0x411 }
/-- [I -/
def k25 : Class := { plain "[I" (some 0) with kind := .array 24 .int, interfaces := #[19, 2], accessFlags := 1041 }

def heap : Heap := #[{ cls := 7, slots := #[.long 0, .int 1, .null, .int 0, .null, .int 0, .int 0], vm := .statics 7 },
  { cls := 15, slots := #[.int 0, .int 8, .int 0, .int 1], vm := .statics 15 },
  { cls := 17, slots := #[.null, .null, .null], vm := .statics 17 }]
def classes : Array Class := #[k0, k1, k2, k3, k4, k5, k6, k7, k8, k9, k10, k11, k12, k13, k14, k15, k16, k17, k18, k19, k20, k21, k22, k23, k24, k25]
def interned : List (Array UInt16 × Addr) := []
def slotsUsed : Nat := 14
def theMethod : MethodId := ⟨1, 4⟩
def args0 : Array Value := #[.int 5, .int 5, .int 5, .int 5, .int 5]
def aboutOver (below : List Frame) : State where
  vm := { classes := classes, interned := interned.toArray }
  heap := heap
  slotsUsed := slotsUsed
  threads := #[{ frames := .invoking theMethod args0 :: below }]
def below0 : List Frame := [.native { method := ⟨0, 0⟩, args := #[] }]
def about1 : State := aboutOver below0
def p0 : Program := .bare "" "" ""
def e0 : Env := launch0.env 0 0 0
theorem w_frames : about1.frames = Frame.invoking theMethod args0 :: below0 := rfl
set_option maxRecDepth 65536 in
theorem w_args : argsFit about1.vm theMethod args0 = true := by decide +kernel
set_option maxRecDepth 65536 in
theorem w_heap : heapFits about1 = true := by decide +kernel
set_option maxRecDepth 65536 in
theorem w_runnable : about1.curStatus? = some .runnable := by decide +kernel
set_option maxRecDepth 65536 in
theorem w_alone : about1.alone = true := by decide +kernel
set_option maxRecDepth 65536 in
theorem w_named : about1.methodNamed? x = some theMethod := by decide +kernel
set_option maxRecDepth 65536 in
theorem w_hears : about1.hears theMethod below0 = true := by decide +kernel
set_option maxRecDepth 65536 in
theorem w_ripe : about1.ripe theMethod args0 below0 = true := by decide +kernel
theorem w_running : about1.status = .running := rfl
set_option maxRecDepth 65536 in
theorem w_room : about1.hasRoom e0.platform room_1 = true :=
  launch0.hasRoom_least _ room_1 (by decide +kernel) (by decide +kernel) (by decide +kernel) (by decide +kernel) (by decide +kernel) (by decide +kernel)
theorem allAtoms_all (ts : List Jvm.Cond) (a : Array Jvm.Value) (st : Jvm.State) : (allAtoms ts).before a st = ts.all (fun c => c.before a st) := by
  induction ts with
  | nil => rfl
  | cons c t ih =>
    show (Jvm.Cond.and c (allAtoms t)).before a st = _
    rw [Jvm.Cond.before_and, ih, List.all_cons]
def words1 : List Jvm.Cond := Jvm.Cond.code x code maxLocals ret :: tables_1
/-- a 'code' word, met by the world's own term for the bytes: nothing is compared byte by byte -/
theorem code_word {y : MethodName} {bytes : ByteArray} {mx : Nat} {rt : Option FieldType} {a : Array Value} {s : State} {m : MethodId} {meth : Method} {c : Code} (h1 : s.methodNamed? y = some m) (h2 : s.vm.method? m = some meth) (h3 : meth.code = some c) (h4 : c.code = bytes)
    (h5 : (c.maxLocals == mx && c.exceptionTable.isEmpty && decide (c.maxStack ≤ mostOperands) && decide (meth.sig.returnType = rt) && !meth.locks && decide (parseMethodDescriptor y.desc = some meth.sig)) = true) : (Jvm.Cond.code y bytes mx rt).before a s = true := by
  simp only [Bool.and_eq_true, beq_iff_eq, Bool.not_eq_true', decide_eq_true_eq] at h5
  obtain ⟨⟨⟨⟨⟨g1, g2⟩, g3⟩, g4⟩, g5⟩, g6⟩ := h5
  simp [Cond.before, Cond.holds, Cond.value, h1, h2, h3, h4, g1, g2, g3, g4, g5, g6]
def isCode : Jvm.Cond → Bool
  | .code _ _ _ _ => true
  | _ => false
theorem all_split {L : List Jvm.Cond} {P : Jvm.Cond → Bool} (h1 : L.all (fun c => isCode c || P c) = true) (h2 : ∀ c ∈ L.filter isCode, P c = true) : L.all P = true := by
  refine List.all_eq_true.mpr fun c hc => ?_
  have h := List.all_eq_true.mp h1 c hc
  rcases Bool.eq_false_or_eq_true (isCode c) with hi | hi
  · exact h2 c (List.mem_filter.mpr ⟨hc, hi⟩)
  · simpa [hi] using h
set_option maxRecDepth 65536 in
theorem w_c0 : (Jvm.Cond.code x code maxLocals ret).before args0 about1 = true := code_word (m := ⟨1, 4⟩) (meth := k1m4) (c := k1c4) (by decide +kernel) rfl rfl rfl (by decide +kernel)
set_option maxRecDepth 65536 in
theorem w_c1 : (Jvm.Cond.code ({ cls := "java/lang/String", name := "<init>", desc := "([C)V" } : Jvm.MethodName) jdk_42_method_3_code (2 : Nat) (Option.none : Option Jvm.ClassFile.FieldType)).before args0 about1 = true := code_word (m := ⟨7, 1⟩) (meth := k7m1) (c := k7c1) (by decide +kernel) rfl rfl rfl (by decide +kernel)
set_option maxRecDepth 65536 in
theorem w_c2 : (Jvm.Cond.code ({ cls := "java/lang/String", name := "<init>", desc := "([CIILjava/lang/Void;)V" } : Jvm.MethodName) jdk_42_method_149_code (6 : Nat) (Option.none : Option Jvm.ClassFile.FieldType)).before args0 about1 = true := code_word (m := ⟨7, 9⟩) (meth := k7m9) (c := k7c9) (by decide +kernel) rfl rfl rfl (by decide +kernel)
set_option maxRecDepth 65536 in
theorem w_c3 : (Jvm.Cond.code ({ cls := "java/lang/Object", name := "<init>", desc := "()V" } : Jvm.MethodName) object_method_1_code (1 : Nat) (Option.none : Option Jvm.ClassFile.FieldType)).before args0 about1 = true := code_word (m := ⟨0, 0⟩) (meth := k0m0) (c := k0c0) (by decide +kernel) rfl rfl rfl (by decide +kernel)
set_option maxRecDepth 65536 in
theorem w_c4 : (Jvm.Cond.code ({ cls := "com/example/rolelattice/rolelattice/decision/DistinguishedName", name := "escapeValue", desc := "(Ljava/lang/String;)Ljava/lang/String;" } : Jvm.MethodName) prog_13_method_8_code (5 : Nat) (Option.some (Jvm.ClassFile.FieldType.object "java/lang/String"))).before args0 about1 = true := code_word (m := ⟨8, 1⟩) (meth := k8m1) (c := k8c1) (by decide +kernel) rfl rfl rfl (by decide +kernel)
set_option maxRecDepth 65536 in
theorem w_c5 : (Jvm.Cond.code ({ cls := "java/lang/StringBuilder", name := "<init>", desc := "()V" } : Jvm.MethodName) jdk_67_method_1_code (1 : Nat) (Option.none : Option Jvm.ClassFile.FieldType)).before args0 about1 = true := code_word (m := ⟨11, 0⟩) (meth := k11m0) (c := k11c0) (by decide +kernel) rfl rfl rfl (by decide +kernel)
set_option maxRecDepth 65536 in
theorem w_c6 : (Jvm.Cond.code ({ cls := "java/lang/AbstractStringBuilder", name := "<init>", desc := "(I)V" } : Jvm.MethodName) jdk_68_method_2_code (2 : Nat) (Option.none : Option Jvm.ClassFile.FieldType)).before args0 about1 = true := code_word (m := ⟨10, 1⟩) (meth := k10m1) (c := k10c1) (by decide +kernel) rfl rfl rfl (by decide +kernel)
set_option maxRecDepth 65536 in
theorem w_c7 : (Jvm.Cond.code ({ cls := "java/lang/String", name := "length", desc := "()I" } : Jvm.MethodName) jdk_42_method_54_code (1 : Nat) (Option.some Jvm.ClassFile.FieldType.int)).before args0 about1 = true := code_word (m := ⟨7, 3⟩) (meth := k7m3) (c := k7c3) (by decide +kernel) rfl rfl rfl (by decide +kernel)
set_option maxRecDepth 65536 in
theorem w_c8 : (Jvm.Cond.code ({ cls := "java/lang/String", name := "coder", desc := "()B" } : Jvm.MethodName) jdk_42_method_152_code (1 : Nat) (Option.some Jvm.ClassFile.FieldType.byte)).before args0 about1 = true := code_word (m := ⟨7, 12⟩) (meth := k7m12) (c := k7c12) (by decide +kernel) rfl rfl rfl (by decide +kernel)
set_option maxRecDepth 65536 in
theorem w_c9 : (Jvm.Cond.code ({ cls := "java/lang/StringBuilder", name := "toString", desc := "()Ljava/lang/String;" } : Jvm.MethodName) jdk_67_method_42_code (1 : Nat) (Option.some (Jvm.ClassFile.FieldType.object "java/lang/String"))).before args0 about1 = true := code_word (m := ⟨11, 3⟩) (meth := k11m3) (c := k11c3) (by decide +kernel) rfl rfl rfl (by decide +kernel)
set_option maxRecDepth 65536 in
theorem w_c10 : (Jvm.Cond.code ({ cls := "java/lang/String", name := "<init>", desc := "(Ljava/lang/StringBuilder;)V" } : Jvm.MethodName) jdk_42_method_53_code (2 : Nat) (Option.none : Option Jvm.ClassFile.FieldType)).before args0 about1 = true := code_word (m := ⟨7, 2⟩) (meth := k7m2) (c := k7c2) (by decide +kernel) rfl rfl rfl (by decide +kernel)
set_option maxRecDepth 65536 in
theorem w_c11 : (Jvm.Cond.code ({ cls := "java/lang/String", name := "<init>", desc := "(Ljava/lang/AbstractStringBuilder;Ljava/lang/Void;)V" } : Jvm.MethodName) jdk_42_method_150_code (5 : Nat) (Option.none : Option Jvm.ClassFile.FieldType)).before args0 about1 = true := code_word (m := ⟨7, 10⟩) (meth := k7m10) (c := k7c10) (by decide +kernel) rfl rfl rfl (by decide +kernel)
set_option maxRecDepth 65536 in
theorem w_c12 : (Jvm.Cond.code ({ cls := "java/lang/AbstractStringBuilder", name := "getValue", desc := "()[B" } : Jvm.MethodName) jdk_68_method_64_code (1 : Nat) (Option.some (Jvm.ClassFile.FieldType.array Jvm.ClassFile.FieldType.byte))).before args0 about1 = true := code_word (m := ⟨10, 7⟩) (meth := k10m7) (c := k10c7) (by decide +kernel) rfl rfl rfl (by decide +kernel)
set_option maxRecDepth 65536 in
theorem w_c13 : (Jvm.Cond.code ({ cls := "java/lang/StringBuilder", name := "length", desc := "()I" } : Jvm.MethodName) jdk_67_method_93_code (1 : Nat) (Option.some Jvm.ClassFile.FieldType.int)).before args0 about1 = true := code_word (m := ⟨11, 4⟩) (meth := k11m4) (c := k11c4) (by decide +kernel) rfl rfl rfl (by decide +kernel)
set_option maxRecDepth 65536 in
theorem w_c14 : (Jvm.Cond.code ({ cls := "java/lang/AbstractStringBuilder", name := "length", desc := "()I" } : Jvm.MethodName) jdk_68_method_6_code (1 : Nat) (Option.some Jvm.ClassFile.FieldType.int)).before args0 about1 = true := code_word (m := ⟨10, 2⟩) (meth := k10m2) (c := k10c2) (by decide +kernel) rfl rfl rfl (by decide +kernel)
set_option maxRecDepth 65536 in
theorem w_c15 : (Jvm.Cond.code ({ cls := "java/lang/AbstractStringBuilder", name := "isLatin1", desc := "()Z" } : Jvm.MethodName) jdk_68_method_68_code (1 : Nat) (Option.some Jvm.ClassFile.FieldType.boolean)).before args0 about1 = true := code_word (m := ⟨10, 8⟩) (meth := k10m8) (c := k10c8) (by decide +kernel) rfl rfl rfl (by decide +kernel)
set_option maxRecDepth 65536 in
theorem w_c16 : (Jvm.Cond.code ({ cls := "java/util/Arrays", name := "copyOfRange", desc := "([BII)[B" } : Jvm.MethodName) jdk_65_method_132_code (3 : Nat) (Option.some (Jvm.ClassFile.FieldType.array Jvm.ClassFile.FieldType.byte))).before args0 about1 = true := code_word (m := ⟨12, 2⟩) (meth := k12m2) (c := k12c2) (by decide +kernel) rfl rfl rfl (by decide +kernel)
set_option maxRecDepth 65536 in
theorem w_c17 : (Jvm.Cond.code ({ cls := "java/util/Arrays", name := "copyOfRangeByte", desc := "([BII)[B" } : Jvm.MethodName) jdk_65_method_133_code (5 : Nat) (Option.some (Jvm.ClassFile.FieldType.array Jvm.ClassFile.FieldType.byte))).before args0 about1 = true := code_word (m := ⟨12, 3⟩) (meth := k12m3) (c := k12c3) (by decide +kernel) rfl rfl rfl (by decide +kernel)
set_option maxRecDepth 65536 in
theorem w_c18 : (Jvm.Cond.code ({ cls := "java/util/Arrays", name := "checkLength", desc := "(II)V" } : Jvm.MethodName) jdk_65_method_131_code (2 : Nat) (Option.none : Option Jvm.ClassFile.FieldType)).before args0 about1 = true := code_word (m := ⟨12, 1⟩) (meth := k12m1) (c := k12c1) (by decide +kernel) rfl rfl rfl (by decide +kernel)
set_option maxRecDepth 65536 in
theorem w_c19 : (Jvm.Cond.code ({ cls := "java/lang/Math", name := "min", desc := "(II)I" } : Jvm.MethodName) jdk_29_method_69_code (2 : Nat) (Option.some Jvm.ClassFile.FieldType.int)).before args0 about1 = true := code_word (m := ⟨13, 2⟩) (meth := k13m2) (c := k13c2) (by decide +kernel) rfl rfl rfl (by decide +kernel)
set_option maxRecDepth 65536 in
theorem w_c20 : (Jvm.Cond.code ({ cls := "java/lang/StringUTF16", name := "compress", desc := "([CII)[B" } : Jvm.MethodName) jdk_52_method_16_code (6 : Nat) (Option.some (Jvm.ClassFile.FieldType.array Jvm.ClassFile.FieldType.byte))).before args0 about1 = true := code_word (m := ⟨15, 8⟩) (meth := k15m8) (c := k15c8) (by decide +kernel) rfl rfl rfl (by decide +kernel)
set_option maxRecDepth 65536 in
theorem w_c21 : (Jvm.Cond.code ({ cls := "java/lang/StringUTF16", name := "compress", desc := "([CI[BII)I" } : Jvm.MethodName) jdk_52_method_21_code (7 : Nat) (Option.some Jvm.ClassFile.FieldType.int)).before args0 about1 = true := code_word (m := ⟨15, 9⟩) (meth := k15m9) (c := k15c9) (by decide +kernel) rfl rfl rfl (by decide +kernel)
set_option maxRecDepth 65536 in
theorem w_c22 : (Jvm.Cond.code ({ cls := "java/lang/StringUTF16", name := "coderFromArrayLen", desc := "([BI)B" } : Jvm.MethodName) jdk_52_method_15_code (2 : Nat) (Option.some Jvm.ClassFile.FieldType.byte)).before args0 about1 = true := code_word (m := ⟨15, 7⟩) (meth := k15m7) (c := k15c7) (by decide +kernel) rfl rfl rfl (by decide +kernel)
set_option maxRecDepth 65536 in
theorem w_c23 : (Jvm.Cond.code ({ cls := "java/lang/String", name := "charAt", desc := "(I)C" } : Jvm.MethodName) jdk_42_method_56_code (2 : Nat) (Option.some Jvm.ClassFile.FieldType.char)).before args0 about1 = true := code_word (m := ⟨7, 4⟩) (meth := k7m4) (c := k7c4) (by decide +kernel) rfl rfl rfl (by decide +kernel)
set_option maxRecDepth 65536 in
theorem w_c24 : (Jvm.Cond.code ({ cls := "java/lang/String", name := "isLatin1", desc := "()Z" } : Jvm.MethodName) jdk_42_method_154_code (1 : Nat) (Option.some Jvm.ClassFile.FieldType.boolean)).before args0 about1 = true := code_word (m := ⟨7, 13⟩) (meth := k7m13) (c := k7c13) (by decide +kernel) rfl rfl rfl (by decide +kernel)
set_option maxRecDepth 65536 in
theorem w_c25 : (Jvm.Cond.code ({ cls := "java/lang/StringLatin1", name := "charAt", desc := "([BI)C" } : Jvm.MethodName) jdk_43_method_2_code (2 : Nat) (Option.some Jvm.ClassFile.FieldType.char)).before args0 about1 = true := code_word (m := ⟨16, 1⟩) (meth := k16m1) (c := k16c1) (by decide +kernel) rfl rfl rfl (by decide +kernel)
set_option maxRecDepth 65536 in
theorem w_c26 : (Jvm.Cond.code ({ cls := "java/lang/String", name := "checkIndex", desc := "(II)V" } : Jvm.MethodName) jdk_42_method_155_code (2 : Nat) (Option.none : Option Jvm.ClassFile.FieldType)).before args0 about1 = true := code_word (m := ⟨7, 14⟩) (meth := k7m14) (c := k7c14) (by decide +kernel) rfl rfl rfl (by decide +kernel)
set_option maxRecDepth 65536 in
theorem w_c27 : (Jvm.Cond.code ({ cls := "jdk/internal/util/Preconditions", name := "checkIndex", desc := "(IILjava/util/function/BiFunction;)I" } : Jvm.MethodName) jdk_41_method_11_code (3 : Nat) (Option.some Jvm.ClassFile.FieldType.int)).before args0 about1 = true := code_word (m := ⟨17, 1⟩) (meth := k17m1) (c := k17c1) (by decide +kernel) rfl rfl rfl (by decide +kernel)
set_option maxRecDepth 65536 in
theorem w_c28 : (Jvm.Cond.code ({ cls := "java/lang/String", name := "indexOf", desc := "(I)I" } : Jvm.MethodName) jdk_42_method_79_code (2 : Nat) (Option.some Jvm.ClassFile.FieldType.int)).before args0 about1 = true := code_word (m := ⟨7, 5⟩) (meth := k7m5) (c := k7c5) (by decide +kernel) rfl rfl rfl (by decide +kernel)
set_option maxRecDepth 65536 in
theorem w_c29 : (Jvm.Cond.code ({ cls := "java/lang/String", name := "indexOf", desc := "(II)I" } : Jvm.MethodName) jdk_42_method_80_code (3 : Nat) (Option.some Jvm.ClassFile.FieldType.int)).before args0 about1 = true := code_word (m := ⟨7, 6⟩) (meth := k7m6) (c := k7c6) (by decide +kernel) rfl rfl rfl (by decide +kernel)
set_option maxRecDepth 65536 in
theorem w_c30 : (Jvm.Cond.code ({ cls := "java/lang/StringLatin1", name := "indexOf", desc := "([BIII)I" } : Jvm.MethodName) jdk_43_method_22_code (4 : Nat) (Option.some Jvm.ClassFile.FieldType.int)).before args0 about1 = true := code_word (m := ⟨16, 4⟩) (meth := k16m4) (c := k16c4) (by decide +kernel) rfl rfl rfl (by decide +kernel)
set_option maxRecDepth 65536 in
theorem w_c31 : (Jvm.Cond.code ({ cls := "java/lang/StringLatin1", name := "canEncode", desc := "(I)Z" } : Jvm.MethodName) jdk_43_method_4_code (1 : Nat) (Option.some Jvm.ClassFile.FieldType.boolean)).before args0 about1 = true := code_word (m := ⟨16, 3⟩) (meth := k16m3) (c := k16c3) (by decide +kernel) rfl rfl rfl (by decide +kernel)
set_option maxRecDepth 65536 in
theorem w_c32 : (Jvm.Cond.code ({ cls := "java/lang/Math", name := "max", desc := "(II)I" } : Jvm.MethodName) jdk_29_method_65_code (2 : Nat) (Option.some Jvm.ClassFile.FieldType.int)).before args0 about1 = true := code_word (m := ⟨13, 1⟩) (meth := k13m1) (c := k13c1) (by decide +kernel) rfl rfl rfl (by decide +kernel)
set_option maxRecDepth 65536 in
theorem w_c33 : (Jvm.Cond.code ({ cls := "java/lang/StringLatin1", name := "indexOfChar", desc := "([BIII)I" } : Jvm.MethodName) jdk_43_method_23_code (6 : Nat) (Option.some Jvm.ClassFile.FieldType.int)).before args0 about1 = true := code_word (m := ⟨16, 5⟩) (meth := k16m5) (c := k16c5) (by decide +kernel) rfl rfl rfl (by decide +kernel)
set_option maxRecDepth 65536 in
theorem w_c34 : (Jvm.Cond.code ({ cls := "java/lang/StringBuilder", name := "append", desc := "(C)Ljava/lang/StringBuilder;" } : Jvm.MethodName) jdk_67_method_14_code (2 : Nat) (Option.some (Jvm.ClassFile.FieldType.object "java/lang/StringBuilder"))).before args0 about1 = true := code_word (m := ⟨11, 2⟩) (meth := k11m2) (c := k11c2) (by decide +kernel) rfl rfl rfl (by decide +kernel)
set_option maxRecDepth 65536 in
theorem w_c35 : (Jvm.Cond.code ({ cls := "java/lang/AbstractStringBuilder", name := "append", desc := "(C)Ljava/lang/AbstractStringBuilder;" } : Jvm.MethodName) jdk_68_method_31_code (2 : Nat) (Option.some (Jvm.ClassFile.FieldType.object "java/lang/AbstractStringBuilder"))).before args0 about1 = true := code_word (m := ⟨10, 6⟩) (meth := k10m6) (c := k10c6) (by decide +kernel) rfl rfl rfl (by decide +kernel)
set_option maxRecDepth 65536 in
theorem w_c36 : (Jvm.Cond.code ({ cls := "java/lang/AbstractStringBuilder", name := "ensureCapacityInternal", desc := "(I)V" } : Jvm.MethodName) jdk_68_method_9_code (3 : Nat) (Option.none : Option Jvm.ClassFile.FieldType)).before args0 about1 = true := code_word (m := ⟨10, 3⟩) (meth := k10m3) (c := k10c3) (by decide +kernel) rfl rfl rfl (by decide +kernel)
set_option maxRecDepth 65536 in
theorem w_c37 : (Jvm.Cond.code ({ cls := "java/lang/StringLatin1", name := "canEncode", desc := "(C)Z" } : Jvm.MethodName) jdk_43_method_3_code (1 : Nat) (Option.some Jvm.ClassFile.FieldType.boolean)).before args0 about1 = true := code_word (m := ⟨16, 2⟩) (meth := k16m2) (c := k16c2) (by decide +kernel) rfl rfl rfl (by decide +kernel)
set_option maxRecDepth 65536 in
theorem w_c38 : (Jvm.Cond.code ({ cls := "com/example/rolelattice/rolelattice/decision/DistinguishedNameEscapeValuePinLaw", name := "width", desc := "(CZZ)I" } : Jvm.MethodName) method_3_code (3 : Nat) (Option.some Jvm.ClassFile.FieldType.int)).before args0 about1 = true := code_word (m := ⟨1, 2⟩) (meth := k1m2) (c := k1c2) (by decide +kernel) rfl rfl rfl (by decide +kernel)
set_option maxRecDepth 65536 in
theorem w_c39 : (Jvm.Cond.code ({ cls := "com/example/rolelattice/rolelattice/decision/DistinguishedNameEscapeValuePinLaw", name := "special", desc := "(CZZ)Z" } : Jvm.MethodName) method_2_code (3 : Nat) (Option.some Jvm.ClassFile.FieldType.boolean)).before args0 about1 = true := code_word (m := ⟨1, 1⟩) (meth := k1m1) (c := k1c1) (by decide +kernel) rfl rfl rfl (by decide +kernel)
set_option maxRecDepth 65536 in
theorem w_c40 : (Jvm.Cond.code ({ cls := "com/example/rolelattice/rolelattice/decision/DistinguishedNameEscapeValuePinLaw", name := "check", desc := "(Ljava/lang/String;ICZZ)Z" } : Jvm.MethodName) method_4_code (5 : Nat) (Option.some Jvm.ClassFile.FieldType.boolean)).before args0 about1 = true := code_word (m := ⟨1, 3⟩) (meth := k1m3) (c := k1c3) (by decide +kernel) rfl rfl rfl (by decide +kernel)
set_option maxRecDepth 65536 in
theorem w_c41 : (Jvm.Cond.code ({ cls := "java/lang/String", name := "valueOf", desc := "(C)Ljava/lang/String;" } : Jvm.MethodName) jdk_42_method_139_code (1 : Nat) (Option.some (Jvm.ClassFile.FieldType.object "java/lang/String"))).before args0 about1 = true := code_word (m := ⟨7, 7⟩) (meth := k7m7) (c := k7c7) (by decide +kernel) rfl rfl rfl (by decide +kernel)
set_option maxRecDepth 65536 in
theorem w_c42 : (Jvm.Cond.code ({ cls := "java/lang/StringLatin1", name := "toBytes", desc := "(C)[B" } : Jvm.MethodName) jdk_43_method_46_code (1 : Nat) (Option.some (Jvm.ClassFile.FieldType.array Jvm.ClassFile.FieldType.byte))).before args0 about1 = true := code_word (m := ⟨16, 6⟩) (meth := k16m6) (c := k16c6) (by decide +kernel) rfl rfl rfl (by decide +kernel)
set_option maxRecDepth 65536 in
theorem w_c43 : (Jvm.Cond.code ({ cls := "java/lang/String", name := "<init>", desc := "([BB)V" } : Jvm.MethodName) jdk_42_method_151_code (3 : Nat) (Option.none : Option Jvm.ClassFile.FieldType)).before args0 about1 = true := code_word (m := ⟨7, 11⟩) (meth := k7m11) (c := k7c11) (by decide +kernel) rfl rfl rfl (by decide +kernel)
set_option maxRecDepth 65536 in
theorem w_c44 : (Jvm.Cond.code ({ cls := "java/lang/StringUTF16", name := "toBytes", desc := "([CII)[B" } : Jvm.MethodName) jdk_52_method_14_code (5 : Nat) (Option.some (Jvm.ClassFile.FieldType.array Jvm.ClassFile.FieldType.byte))).before args0 about1 = true := code_word (m := ⟨15, 6⟩) (meth := k15m6) (c := k15c6) (by decide +kernel) rfl rfl rfl (by decide +kernel)
set_option maxRecDepth 65536 in
theorem w_c45 : (Jvm.Cond.code ({ cls := "java/lang/StringUTF16", name := "newBytesFor", desc := "(I)[B" } : Jvm.MethodName) jdk_52_method_2_code (1 : Nat) (Option.some (Jvm.ClassFile.FieldType.array Jvm.ClassFile.FieldType.byte))).before args0 about1 = true := code_word (m := ⟨15, 1⟩) (meth := k15m1) (c := k15c1) (by decide +kernel) rfl rfl rfl (by decide +kernel)
set_option maxRecDepth 65536 in
theorem w_c46 : (Jvm.Cond.code ({ cls := "java/lang/StringUTF16", name := "newBytesLength", desc := "(I)I" } : Jvm.MethodName) jdk_52_method_3_code (1 : Nat) (Option.some Jvm.ClassFile.FieldType.int)).before args0 about1 = true := code_word (m := ⟨15, 2⟩) (meth := k15m2) (c := k15c2) (by decide +kernel) rfl rfl rfl (by decide +kernel)
set_option maxRecDepth 65536 in
theorem w_c47 : (Jvm.Cond.code ({ cls := "java/lang/StringUTF16", name := "putChar", desc := "([BII)V" } : Jvm.MethodName) jdk_52_method_4_code (3 : Nat) (Option.none : Option Jvm.ClassFile.FieldType)).before args0 about1 = true := code_word (m := ⟨15, 3⟩) (meth := k15m3) (c := k15c3) (by decide +kernel) rfl rfl rfl (by decide +kernel)
set_option maxRecDepth 65536 in
theorem w_c48 : (Jvm.Cond.code ({ cls := "java/lang/StringUTF16", name := "getChar", desc := "([BI)C" } : Jvm.MethodName) jdk_52_method_5_code (2 : Nat) (Option.some Jvm.ClassFile.FieldType.char)).before args0 about1 = true := code_word (m := ⟨15, 4⟩) (meth := k15m4) (c := k15c4) (by decide +kernel) rfl rfl rfl (by decide +kernel)
set_option maxRecDepth 65536 in
theorem w_c49 : (Jvm.Cond.code ({ cls := "java/lang/StringUTF16", name := "charAt", desc := "([BI)C" } : Jvm.MethodName) jdk_52_method_83_code (2 : Nat) (Option.some Jvm.ClassFile.FieldType.char)).before args0 about1 = true := code_word (m := ⟨15, 12⟩) (meth := k15m12) (c := k15c12) (by decide +kernel) rfl rfl rfl (by decide +kernel)
set_option maxRecDepth 65536 in
theorem w_c50 : (Jvm.Cond.code ({ cls := "java/lang/StringUTF16", name := "checkIndex", desc := "(I[B)V" } : Jvm.MethodName) jdk_52_method_91_code (2 : Nat) (Option.none : Option Jvm.ClassFile.FieldType)).before args0 about1 = true := code_word (m := ⟨15, 14⟩) (meth := k15m14) (c := k15c14) (by decide +kernel) rfl rfl rfl (by decide +kernel)
set_option maxRecDepth 65536 in
theorem w_c51 : (Jvm.Cond.code ({ cls := "java/lang/StringUTF16", name := "length", desc := "([B)I" } : Jvm.MethodName) jdk_52_method_6_code (1 : Nat) (Option.some Jvm.ClassFile.FieldType.int)).before args0 about1 = true := code_word (m := ⟨15, 5⟩) (meth := k15m5) (c := k15c5) (by decide +kernel) rfl rfl rfl (by decide +kernel)
set_option maxRecDepth 65536 in
theorem w_c52 : (Jvm.Cond.code ({ cls := "java/lang/AbstractStringBuilder", name := "inflate", desc := "()V" } : Jvm.MethodName) jdk_68_method_11_code (2 : Nat) (Option.none : Option Jvm.ClassFile.FieldType)).before args0 about1 = true := code_word (m := ⟨10, 4⟩) (meth := k10m4) (c := k10c4) (by decide +kernel) rfl rfl rfl (by decide +kernel)
set_option maxRecDepth 65536 in
theorem w_c53 : (Jvm.Cond.code ({ cls := "java/lang/StringLatin1", name := "inflate", desc := "([BI[BII)V" } : Jvm.MethodName) jdk_43_method_50_code (5 : Nat) (Option.none : Option Jvm.ClassFile.FieldType)).before args0 about1 = true := code_word (m := ⟨16, 7⟩) (meth := k16m7) (c := k16c7) (by decide +kernel) rfl rfl rfl (by decide +kernel)
set_option maxRecDepth 65536 in
theorem w_c54 : (Jvm.Cond.code ({ cls := "java/lang/StringUTF16", name := "inflate", desc := "([BI[BII)V" } : Jvm.MethodName) jdk_52_method_86_code (6 : Nat) (Option.none : Option Jvm.ClassFile.FieldType)).before args0 about1 = true := code_word (m := ⟨15, 13⟩) (meth := k15m13) (c := k15c13) (by decide +kernel) rfl rfl rfl (by decide +kernel)
set_option maxRecDepth 65536 in
theorem w_c55 : (Jvm.Cond.code ({ cls := "java/lang/StringUTF16", name := "checkBoundsOffCount", desc := "(II[B)V" } : Jvm.MethodName) jdk_52_method_94_code (3 : Nat) (Option.none : Option Jvm.ClassFile.FieldType)).before args0 about1 = true := code_word (m := ⟨15, 15⟩) (meth := k15m15) (c := k15c15) (by decide +kernel) rfl rfl rfl (by decide +kernel)
set_option maxRecDepth 65536 in
theorem w_c56 : (Jvm.Cond.code ({ cls := "java/lang/String", name := "checkBoundsOffCount", desc := "(III)I" } : Jvm.MethodName) jdk_42_method_157_code (3 : Nat) (Option.some Jvm.ClassFile.FieldType.int)).before args0 about1 = true := code_word (m := ⟨7, 15⟩) (meth := k7m15) (c := k7c15) (by decide +kernel) rfl rfl rfl (by decide +kernel)
set_option maxRecDepth 65536 in
theorem w_c57 : (Jvm.Cond.code ({ cls := "jdk/internal/util/Preconditions", name := "checkFromIndexSize", desc := "(IIILjava/util/function/BiFunction;)I" } : Jvm.MethodName) jdk_41_method_13_code (4 : Nat) (Option.some Jvm.ClassFile.FieldType.int)).before args0 about1 = true := code_word (m := ⟨17, 2⟩) (meth := k17m2) (c := k17c2) (by decide +kernel) rfl rfl rfl (by decide +kernel)
set_option maxRecDepth 65536 in
theorem w_c58 : (Jvm.Cond.code ({ cls := "java/lang/StringUTF16", name := "putCharSB", desc := "([BII)V" } : Jvm.MethodName) jdk_52_method_71_code (3 : Nat) (Option.none : Option Jvm.ClassFile.FieldType)).before args0 about1 = true := code_word (m := ⟨15, 11⟩) (meth := k15m11) (c := k15c11) (by decide +kernel) rfl rfl rfl (by decide +kernel)
set_option maxRecDepth 65536 in
theorem w_c59 : (Jvm.Cond.code ({ cls := "java/lang/StringBuilder", name := "append", desc := "(Ljava/lang/String;)Ljava/lang/StringBuilder;" } : Jvm.MethodName) jdk_67_method_7_code (2 : Nat) (Option.some (Jvm.ClassFile.FieldType.object "java/lang/StringBuilder"))).before args0 about1 = true := code_word (m := ⟨11, 1⟩) (meth := k11m1) (c := k11c1) (by decide +kernel) rfl rfl rfl (by decide +kernel)
set_option maxRecDepth 65536 in
theorem w_c60 : (Jvm.Cond.code ({ cls := "java/lang/AbstractStringBuilder", name := "append", desc := "(Ljava/lang/String;)Ljava/lang/AbstractStringBuilder;" } : Jvm.MethodName) jdk_68_method_22_code (3 : Nat) (Option.some (Jvm.ClassFile.FieldType.object "java/lang/AbstractStringBuilder"))).before args0 about1 = true := code_word (m := ⟨10, 5⟩) (meth := k10m5) (c := k10c5) (by decide +kernel) rfl rfl rfl (by decide +kernel)
set_option maxRecDepth 65536 in
theorem w_c61 : (Jvm.Cond.code ({ cls := "java/lang/AbstractStringBuilder", name := "putStringAt", desc := "(ILjava/lang/String;)V" } : Jvm.MethodName) jdk_68_method_73_code (3 : Nat) (Option.none : Option Jvm.ClassFile.FieldType)).before args0 about1 = true := code_word (m := ⟨10, 10⟩) (meth := k10m10) (c := k10c10) (by decide +kernel) rfl rfl rfl (by decide +kernel)
set_option maxRecDepth 65536 in
theorem w_c62 : (Jvm.Cond.code ({ cls := "java/lang/AbstractStringBuilder", name := "inflateIfNeededFor", desc := "(Ljava/lang/String;)V" } : Jvm.MethodName) jdk_68_method_71_code (2 : Nat) (Option.none : Option Jvm.ClassFile.FieldType)).before args0 about1 = true := code_word (m := ⟨10, 9⟩) (meth := k10m9) (c := k10c9) (by decide +kernel) rfl rfl rfl (by decide +kernel)
set_option maxRecDepth 65536 in
theorem w_c63 : (Jvm.Cond.code ({ cls := "java/lang/String", name := "getBytes", desc := "([BIB)V" } : Jvm.MethodName) jdk_42_method_147_code (4 : Nat) (Option.none : Option Jvm.ClassFile.FieldType)).before args0 about1 = true := code_word (m := ⟨7, 8⟩) (meth := k7m8) (c := k7c8) (by decide +kernel) rfl rfl rfl (by decide +kernel)
set_option maxRecDepth 65536 in
theorem w_c64 : (Jvm.Cond.code ({ cls := "java/lang/StringUTF16", name := "toBytes", desc := "(C)[B" } : Jvm.MethodName) jdk_52_method_24_code (2 : Nat) (Option.some (Jvm.ClassFile.FieldType.array Jvm.ClassFile.FieldType.byte))).before args0 about1 = true := code_word (m := ⟨15, 10⟩) (meth := k15m10) (c := k15c10) (by decide +kernel) rfl rfl rfl (by decide +kernel)
def codes1 : List Jvm.Cond := [Jvm.Cond.code x code maxLocals ret, Jvm.Cond.code ({ cls := "java/lang/String", name := "<init>", desc := "([C)V" } : Jvm.MethodName) jdk_42_method_3_code (2 : Nat) (Option.none : Option Jvm.ClassFile.FieldType), Jvm.Cond.code ({ cls := "java/lang/String", name := "<init>", desc := "([CIILjava/lang/Void;)V" } : Jvm.MethodName) jdk_42_method_149_code (6 : Nat) (Option.none : Option Jvm.ClassFile.FieldType), Jvm.Cond.code ({ cls := "java/lang/Object", name := "<init>", desc := "()V" } : Jvm.MethodName) object_method_1_code (1 : Nat) (Option.none : Option Jvm.ClassFile.FieldType), Jvm.Cond.code ({ cls := "com/example/rolelattice/rolelattice/decision/DistinguishedName", name := "escapeValue", desc := "(Ljava/lang/String;)Ljava/lang/String;" } : Jvm.MethodName) prog_13_method_8_code (5 : Nat) (Option.some (Jvm.ClassFile.FieldType.object "java/lang/String")), Jvm.Cond.code ({ cls := "java/lang/StringBuilder", name := "<init>", desc := "()V" } : Jvm.MethodName) jdk_67_method_1_code (1 : Nat) (Option.none : Option Jvm.ClassFile.FieldType), Jvm.Cond.code ({ cls := "java/lang/AbstractStringBuilder", name := "<init>", desc := "(I)V" } : Jvm.MethodName) jdk_68_method_2_code (2 : Nat) (Option.none : Option Jvm.ClassFile.FieldType), Jvm.Cond.code ({ cls := "java/lang/String", name := "length", desc := "()I" } : Jvm.MethodName) jdk_42_method_54_code (1 : Nat) (Option.some Jvm.ClassFile.FieldType.int), Jvm.Cond.code ({ cls := "java/lang/String", name := "coder", desc := "()B" } : Jvm.MethodName) jdk_42_method_152_code (1 : Nat) (Option.some Jvm.ClassFile.FieldType.byte), Jvm.Cond.code ({ cls := "java/lang/StringBuilder", name := "toString", desc := "()Ljava/lang/String;" } : Jvm.MethodName) jdk_67_method_42_code (1 : Nat) (Option.some (Jvm.ClassFile.FieldType.object "java/lang/String")), Jvm.Cond.code ({ cls := "java/lang/String", name := "<init>", desc := "(Ljava/lang/StringBuilder;)V" } : Jvm.MethodName) jdk_42_method_53_code (2 : Nat) (Option.none : Option Jvm.ClassFile.FieldType), Jvm.Cond.code ({ cls := "java/lang/String", name := "<init>", desc := "(Ljava/lang/AbstractStringBuilder;Ljava/lang/Void;)V" } : Jvm.MethodName) jdk_42_method_150_code (5 : Nat) (Option.none : Option Jvm.ClassFile.FieldType), Jvm.Cond.code ({ cls := "java/lang/AbstractStringBuilder", name := "getValue", desc := "()[B" } : Jvm.MethodName) jdk_68_method_64_code (1 : Nat) (Option.some (Jvm.ClassFile.FieldType.array Jvm.ClassFile.FieldType.byte)), Jvm.Cond.code ({ cls := "java/lang/StringBuilder", name := "length", desc := "()I" } : Jvm.MethodName) jdk_67_method_93_code (1 : Nat) (Option.some Jvm.ClassFile.FieldType.int), Jvm.Cond.code ({ cls := "java/lang/AbstractStringBuilder", name := "length", desc := "()I" } : Jvm.MethodName) jdk_68_method_6_code (1 : Nat) (Option.some Jvm.ClassFile.FieldType.int), Jvm.Cond.code ({ cls := "java/lang/AbstractStringBuilder", name := "isLatin1", desc := "()Z" } : Jvm.MethodName) jdk_68_method_68_code (1 : Nat) (Option.some Jvm.ClassFile.FieldType.boolean), Jvm.Cond.code ({ cls := "java/util/Arrays", name := "copyOfRange", desc := "([BII)[B" } : Jvm.MethodName) jdk_65_method_132_code (3 : Nat) (Option.some (Jvm.ClassFile.FieldType.array Jvm.ClassFile.FieldType.byte)), Jvm.Cond.code ({ cls := "java/util/Arrays", name := "copyOfRangeByte", desc := "([BII)[B" } : Jvm.MethodName) jdk_65_method_133_code (5 : Nat) (Option.some (Jvm.ClassFile.FieldType.array Jvm.ClassFile.FieldType.byte)), Jvm.Cond.code ({ cls := "java/util/Arrays", name := "checkLength", desc := "(II)V" } : Jvm.MethodName) jdk_65_method_131_code (2 : Nat) (Option.none : Option Jvm.ClassFile.FieldType), Jvm.Cond.code ({ cls := "java/lang/Math", name := "min", desc := "(II)I" } : Jvm.MethodName) jdk_29_method_69_code (2 : Nat) (Option.some Jvm.ClassFile.FieldType.int), Jvm.Cond.code ({ cls := "java/lang/StringUTF16", name := "compress", desc := "([CII)[B" } : Jvm.MethodName) jdk_52_method_16_code (6 : Nat) (Option.some (Jvm.ClassFile.FieldType.array Jvm.ClassFile.FieldType.byte)), Jvm.Cond.code ({ cls := "java/lang/StringUTF16", name := "compress", desc := "([CI[BII)I" } : Jvm.MethodName) jdk_52_method_21_code (7 : Nat) (Option.some Jvm.ClassFile.FieldType.int), Jvm.Cond.code ({ cls := "java/lang/StringUTF16", name := "coderFromArrayLen", desc := "([BI)B" } : Jvm.MethodName) jdk_52_method_15_code (2 : Nat) (Option.some Jvm.ClassFile.FieldType.byte), Jvm.Cond.code ({ cls := "java/lang/String", name := "charAt", desc := "(I)C" } : Jvm.MethodName) jdk_42_method_56_code (2 : Nat) (Option.some Jvm.ClassFile.FieldType.char), Jvm.Cond.code ({ cls := "java/lang/String", name := "isLatin1", desc := "()Z" } : Jvm.MethodName) jdk_42_method_154_code (1 : Nat) (Option.some Jvm.ClassFile.FieldType.boolean), Jvm.Cond.code ({ cls := "java/lang/StringLatin1", name := "charAt", desc := "([BI)C" } : Jvm.MethodName) jdk_43_method_2_code (2 : Nat) (Option.some Jvm.ClassFile.FieldType.char), Jvm.Cond.code ({ cls := "java/lang/String", name := "checkIndex", desc := "(II)V" } : Jvm.MethodName) jdk_42_method_155_code (2 : Nat) (Option.none : Option Jvm.ClassFile.FieldType), Jvm.Cond.code ({ cls := "jdk/internal/util/Preconditions", name := "checkIndex", desc := "(IILjava/util/function/BiFunction;)I" } : Jvm.MethodName) jdk_41_method_11_code (3 : Nat) (Option.some Jvm.ClassFile.FieldType.int), Jvm.Cond.code ({ cls := "java/lang/String", name := "indexOf", desc := "(I)I" } : Jvm.MethodName) jdk_42_method_79_code (2 : Nat) (Option.some Jvm.ClassFile.FieldType.int), Jvm.Cond.code ({ cls := "java/lang/String", name := "indexOf", desc := "(II)I" } : Jvm.MethodName) jdk_42_method_80_code (3 : Nat) (Option.some Jvm.ClassFile.FieldType.int), Jvm.Cond.code ({ cls := "java/lang/StringLatin1", name := "indexOf", desc := "([BIII)I" } : Jvm.MethodName) jdk_43_method_22_code (4 : Nat) (Option.some Jvm.ClassFile.FieldType.int), Jvm.Cond.code ({ cls := "java/lang/StringLatin1", name := "canEncode", desc := "(I)Z" } : Jvm.MethodName) jdk_43_method_4_code (1 : Nat) (Option.some Jvm.ClassFile.FieldType.boolean), Jvm.Cond.code ({ cls := "java/lang/Math", name := "max", desc := "(II)I" } : Jvm.MethodName) jdk_29_method_65_code (2 : Nat) (Option.some Jvm.ClassFile.FieldType.int), Jvm.Cond.code ({ cls := "java/lang/StringLatin1", name := "indexOfChar", desc := "([BIII)I" } : Jvm.MethodName) jdk_43_method_23_code (6 : Nat) (Option.some Jvm.ClassFile.FieldType.int), Jvm.Cond.code ({ cls := "java/lang/StringBuilder", name := "append", desc := "(C)Ljava/lang/StringBuilder;" } : Jvm.MethodName) jdk_67_method_14_code (2 : Nat) (Option.some (Jvm.ClassFile.FieldType.object "java/lang/StringBuilder")), Jvm.Cond.code ({ cls := "java/lang/AbstractStringBuilder", name := "append", desc := "(C)Ljava/lang/AbstractStringBuilder;" } : Jvm.MethodName) jdk_68_method_31_code (2 : Nat) (Option.some (Jvm.ClassFile.FieldType.object "java/lang/AbstractStringBuilder")), Jvm.Cond.code ({ cls := "java/lang/AbstractStringBuilder", name := "ensureCapacityInternal", desc := "(I)V" } : Jvm.MethodName) jdk_68_method_9_code (3 : Nat) (Option.none : Option Jvm.ClassFile.FieldType), Jvm.Cond.code ({ cls := "java/lang/StringLatin1", name := "canEncode", desc := "(C)Z" } : Jvm.MethodName) jdk_43_method_3_code (1 : Nat) (Option.some Jvm.ClassFile.FieldType.boolean), Jvm.Cond.code ({ cls := "com/example/rolelattice/rolelattice/decision/DistinguishedNameEscapeValuePinLaw", name := "width", desc := "(CZZ)I" } : Jvm.MethodName) method_3_code (3 : Nat) (Option.some Jvm.ClassFile.FieldType.int), Jvm.Cond.code ({ cls := "com/example/rolelattice/rolelattice/decision/DistinguishedNameEscapeValuePinLaw", name := "special", desc := "(CZZ)Z" } : Jvm.MethodName) method_2_code (3 : Nat) (Option.some Jvm.ClassFile.FieldType.boolean), Jvm.Cond.code ({ cls := "com/example/rolelattice/rolelattice/decision/DistinguishedNameEscapeValuePinLaw", name := "check", desc := "(Ljava/lang/String;ICZZ)Z" } : Jvm.MethodName) method_4_code (5 : Nat) (Option.some Jvm.ClassFile.FieldType.boolean), Jvm.Cond.code ({ cls := "java/lang/String", name := "valueOf", desc := "(C)Ljava/lang/String;" } : Jvm.MethodName) jdk_42_method_139_code (1 : Nat) (Option.some (Jvm.ClassFile.FieldType.object "java/lang/String")), Jvm.Cond.code ({ cls := "java/lang/StringLatin1", name := "toBytes", desc := "(C)[B" } : Jvm.MethodName) jdk_43_method_46_code (1 : Nat) (Option.some (Jvm.ClassFile.FieldType.array Jvm.ClassFile.FieldType.byte)), Jvm.Cond.code ({ cls := "java/lang/String", name := "<init>", desc := "([BB)V" } : Jvm.MethodName) jdk_42_method_151_code (3 : Nat) (Option.none : Option Jvm.ClassFile.FieldType), Jvm.Cond.code ({ cls := "java/lang/StringUTF16", name := "toBytes", desc := "([CII)[B" } : Jvm.MethodName) jdk_52_method_14_code (5 : Nat) (Option.some (Jvm.ClassFile.FieldType.array Jvm.ClassFile.FieldType.byte)), Jvm.Cond.code ({ cls := "java/lang/StringUTF16", name := "newBytesFor", desc := "(I)[B" } : Jvm.MethodName) jdk_52_method_2_code (1 : Nat) (Option.some (Jvm.ClassFile.FieldType.array Jvm.ClassFile.FieldType.byte)), Jvm.Cond.code ({ cls := "java/lang/StringUTF16", name := "newBytesLength", desc := "(I)I" } : Jvm.MethodName) jdk_52_method_3_code (1 : Nat) (Option.some Jvm.ClassFile.FieldType.int), Jvm.Cond.code ({ cls := "java/lang/StringUTF16", name := "putChar", desc := "([BII)V" } : Jvm.MethodName) jdk_52_method_4_code (3 : Nat) (Option.none : Option Jvm.ClassFile.FieldType), Jvm.Cond.code ({ cls := "java/lang/StringUTF16", name := "getChar", desc := "([BI)C" } : Jvm.MethodName) jdk_52_method_5_code (2 : Nat) (Option.some Jvm.ClassFile.FieldType.char), Jvm.Cond.code ({ cls := "java/lang/StringUTF16", name := "charAt", desc := "([BI)C" } : Jvm.MethodName) jdk_52_method_83_code (2 : Nat) (Option.some Jvm.ClassFile.FieldType.char), Jvm.Cond.code ({ cls := "java/lang/StringUTF16", name := "checkIndex", desc := "(I[B)V" } : Jvm.MethodName) jdk_52_method_91_code (2 : Nat) (Option.none : Option Jvm.ClassFile.FieldType), Jvm.Cond.code ({ cls := "java/lang/StringUTF16", name := "length", desc := "([B)I" } : Jvm.MethodName) jdk_52_method_6_code (1 : Nat) (Option.some Jvm.ClassFile.FieldType.int), Jvm.Cond.code ({ cls := "java/lang/AbstractStringBuilder", name := "inflate", desc := "()V" } : Jvm.MethodName) jdk_68_method_11_code (2 : Nat) (Option.none : Option Jvm.ClassFile.FieldType), Jvm.Cond.code ({ cls := "java/lang/StringLatin1", name := "inflate", desc := "([BI[BII)V" } : Jvm.MethodName) jdk_43_method_50_code (5 : Nat) (Option.none : Option Jvm.ClassFile.FieldType), Jvm.Cond.code ({ cls := "java/lang/StringUTF16", name := "inflate", desc := "([BI[BII)V" } : Jvm.MethodName) jdk_52_method_86_code (6 : Nat) (Option.none : Option Jvm.ClassFile.FieldType), Jvm.Cond.code ({ cls := "java/lang/StringUTF16", name := "checkBoundsOffCount", desc := "(II[B)V" } : Jvm.MethodName) jdk_52_method_94_code (3 : Nat) (Option.none : Option Jvm.ClassFile.FieldType), Jvm.Cond.code ({ cls := "java/lang/String", name := "checkBoundsOffCount", desc := "(III)I" } : Jvm.MethodName) jdk_42_method_157_code (3 : Nat) (Option.some Jvm.ClassFile.FieldType.int), Jvm.Cond.code ({ cls := "jdk/internal/util/Preconditions", name := "checkFromIndexSize", desc := "(IIILjava/util/function/BiFunction;)I" } : Jvm.MethodName) jdk_41_method_13_code (4 : Nat) (Option.some Jvm.ClassFile.FieldType.int), Jvm.Cond.code ({ cls := "java/lang/StringUTF16", name := "putCharSB", desc := "([BII)V" } : Jvm.MethodName) jdk_52_method_71_code (3 : Nat) (Option.none : Option Jvm.ClassFile.FieldType), Jvm.Cond.code ({ cls := "java/lang/StringBuilder", name := "append", desc := "(Ljava/lang/String;)Ljava/lang/StringBuilder;" } : Jvm.MethodName) jdk_67_method_7_code (2 : Nat) (Option.some (Jvm.ClassFile.FieldType.object "java/lang/StringBuilder")), Jvm.Cond.code ({ cls := "java/lang/AbstractStringBuilder", name := "append", desc := "(Ljava/lang/String;)Ljava/lang/AbstractStringBuilder;" } : Jvm.MethodName) jdk_68_method_22_code (3 : Nat) (Option.some (Jvm.ClassFile.FieldType.object "java/lang/AbstractStringBuilder")), Jvm.Cond.code ({ cls := "java/lang/AbstractStringBuilder", name := "putStringAt", desc := "(ILjava/lang/String;)V" } : Jvm.MethodName) jdk_68_method_73_code (3 : Nat) (Option.none : Option Jvm.ClassFile.FieldType), Jvm.Cond.code ({ cls := "java/lang/AbstractStringBuilder", name := "inflateIfNeededFor", desc := "(Ljava/lang/String;)V" } : Jvm.MethodName) jdk_68_method_71_code (2 : Nat) (Option.none : Option Jvm.ClassFile.FieldType), Jvm.Cond.code ({ cls := "java/lang/String", name := "getBytes", desc := "([BIB)V" } : Jvm.MethodName) jdk_42_method_147_code (4 : Nat) (Option.none : Option Jvm.ClassFile.FieldType), Jvm.Cond.code ({ cls := "java/lang/StringUTF16", name := "toBytes", desc := "(C)[B" } : Jvm.MethodName) jdk_52_method_24_code (2 : Nat) (Option.some (Jvm.ClassFile.FieldType.array Jvm.ClassFile.FieldType.byte))]
set_option maxRecDepth 65536 in
theorem codes_eq : words1.filter isCode = codes1 := rfl
theorem w_codes : ∀ c ∈ words1.filter isCode, c.before args0 about1 = true := by
  rw [codes_eq]
  intro c hc
  simp only [codes1, List.mem_cons, List.not_mem_nil, or_false] at hc
  rcases hc with rfl | rfl | rfl | rfl | rfl | rfl | rfl | rfl | rfl | rfl | rfl | rfl | rfl | rfl | rfl | rfl | rfl | rfl | rfl | rfl | rfl | rfl | rfl | rfl | rfl | rfl | rfl | rfl | rfl | rfl | rfl | rfl | rfl | rfl | rfl | rfl | rfl | rfl | rfl | rfl | rfl | rfl | rfl | rfl | rfl | rfl | rfl | rfl | rfl | rfl | rfl | rfl | rfl | rfl | rfl | rfl | rfl | rfl | rfl | rfl | rfl | rfl | rfl | rfl | rfl
  · exact w_c0
  · exact w_c1
  · exact w_c2
  · exact w_c3
  · exact w_c4
  · exact w_c5
  · exact w_c6
  · exact w_c7
  · exact w_c8
  · exact w_c9
  · exact w_c10
  · exact w_c11
  · exact w_c12
  · exact w_c13
  · exact w_c14
  · exact w_c15
  · exact w_c16
  · exact w_c17
  · exact w_c18
  · exact w_c19
  · exact w_c20
  · exact w_c21
  · exact w_c22
  · exact w_c23
  · exact w_c24
  · exact w_c25
  · exact w_c26
  · exact w_c27
  · exact w_c28
  · exact w_c29
  · exact w_c30
  · exact w_c31
  · exact w_c32
  · exact w_c33
  · exact w_c34
  · exact w_c35
  · exact w_c36
  · exact w_c37
  · exact w_c38
  · exact w_c39
  · exact w_c40
  · exact w_c41
  · exact w_c42
  · exact w_c43
  · exact w_c44
  · exact w_c45
  · exact w_c46
  · exact w_c47
  · exact w_c48
  · exact w_c49
  · exact w_c50
  · exact w_c51
  · exact w_c52
  · exact w_c53
  · exact w_c54
  · exact w_c55
  · exact w_c56
  · exact w_c57
  · exact w_c58
  · exact w_c59
  · exact w_c60
  · exact w_c61
  · exact w_c62
  · exact w_c63
  · exact w_c64
set_option maxRecDepth 65536 in
theorem w_t1 : (words1.take 24).all (fun c => isCode c || c.before args0 about1) = true := by decide +kernel
set_option maxRecDepth 65536 in
theorem w_t2 : ((words1.drop 24).take 24).all (fun c => isCode c || c.before args0 about1) = true := by decide +kernel
set_option maxRecDepth 65536 in
theorem w_t3 : (((words1.drop 24).drop 24).take 24).all (fun c => isCode c || c.before args0 about1) = true := by decide +kernel
set_option maxRecDepth 65536 in
theorem w_t4 : ((((words1.drop 24).drop 24).drop 24).take 24).all (fun c => isCode c || c.before args0 about1) = true := by decide +kernel
set_option maxRecDepth 65536 in
theorem w_t5 : (((((words1.drop 24).drop 24).drop 24).drop 24).take 24).all (fun c => isCode c || c.before args0 about1) = true := by decide +kernel
set_option maxRecDepth 65536 in
theorem w_t6 : ((((((words1.drop 24).drop 24).drop 24).drop 24).drop 24).take 24).all (fun c => isCode c || c.before args0 about1) = true := by decide +kernel
set_option maxRecDepth 65536 in
theorem w_t7 : (((((((words1.drop 24).drop 24).drop 24).drop 24).drop 24).drop 24).take 24).all (fun c => isCode c || c.before args0 about1) = true := by decide +kernel
set_option maxRecDepth 65536 in
theorem w_t8 : ((((((((words1.drop 24).drop 24).drop 24).drop 24).drop 24).drop 24).drop 24).take 24).all (fun c => isCode c || c.before args0 about1) = true := by decide +kernel
set_option maxRecDepth 65536 in
theorem w_t9 : (((((((((words1.drop 24).drop 24).drop 24).drop 24).drop 24).drop 24).drop 24).drop 24).take 24).all (fun c => isCode c || c.before args0 about1) = true := by decide +kernel
set_option maxRecDepth 65536 in
theorem w_t10 : ((((((((((words1.drop 24).drop 24).drop 24).drop 24).drop 24).drop 24).drop 24).drop 24).drop 24).take 24).all (fun c => isCode c || c.before args0 about1) = true := by decide +kernel
set_option maxRecDepth 65536 in
theorem w_t11 : (((((((((((words1.drop 24).drop 24).drop 24).drop 24).drop 24).drop 24).drop 24).drop 24).drop 24).drop 24).take 24).all (fun c => isCode c || c.before args0 about1) = true := by decide +kernel
set_option maxRecDepth 65536 in
theorem w_t12 : ((((((((((((words1.drop 24).drop 24).drop 24).drop 24).drop 24).drop 24).drop 24).drop 24).drop 24).drop 24).drop 24).take 24).all (fun c => isCode c || c.before args0 about1) = true := by decide +kernel
set_option maxRecDepth 65536 in
theorem w_t13 : ((((((((((((words1.drop 24).drop 24).drop 24).drop 24).drop 24).drop 24).drop 24).drop 24).drop 24).drop 24).drop 24).drop 24).all (fun c => isCode c || c.before args0 about1) = true := by decide +kernel
theorem w_tables : (allAtoms (Jvm.Cond.code x code maxLocals ret :: tables_1)).before args0 about1 = true := by
  rw [allAtoms_all]
  show words1.all (fun c => c.before args0 about1) = true
  refine all_split ?_ w_codes
  rw [← List.take_append_drop 24 words1, List.all_append, w_t1, ← List.take_append_drop 24 (words1.drop 24), List.all_append, w_t2, ← List.take_append_drop 24 ((words1.drop 24).drop 24), List.all_append, w_t3, ← List.take_append_drop 24 (((words1.drop 24).drop 24).drop 24), List.all_append, w_t4, ← List.take_append_drop 24 ((((words1.drop 24).drop 24).drop 24).drop 24), List.all_append, w_t5, ← List.take_append_drop 24 (((((words1.drop 24).drop 24).drop 24).drop 24).drop 24), List.all_append, w_t6, ← List.take_append_drop 24 ((((((words1.drop 24).drop 24).drop 24).drop 24).drop 24).drop 24), List.all_append, w_t7, ← List.take_append_drop 24 (((((((words1.drop 24).drop 24).drop 24).drop 24).drop 24).drop 24).drop 24), List.all_append, w_t8, ← List.take_append_drop 24 ((((((((words1.drop 24).drop 24).drop 24).drop 24).drop 24).drop 24).drop 24).drop 24), List.all_append, w_t9, ← List.take_append_drop 24 (((((((((words1.drop 24).drop 24).drop 24).drop 24).drop 24).drop 24).drop 24).drop 24).drop 24), List.all_append, w_t10, ← List.take_append_drop 24 ((((((((((words1.drop 24).drop 24).drop 24).drop 24).drop 24).drop 24).drop 24).drop 24).drop 24).drop 24), List.all_append, w_t11, ← List.take_append_drop 24 (((((((((((words1.drop 24).drop 24).drop 24).drop 24).drop 24).drop 24).drop 24).drop 24).drop 24).drop 24).drop 24), List.all_append, w_t12, w_t13]
  rfl
set_option maxRecDepth 65536 in
theorem w_rest : rest_1_c.before args0 about1 = true := by decide +kernel
set_option maxRecDepth 65536 in
theorem w_case : (Jvm.Cond.and given_1 narrow_1).before args0 about1 = true := by decide +kernel
set_option maxRecDepth 65536 in
theorem w_consts : constsHeld consts_1 about1 := Jvm.Lit.constsHeldB_iff.mp (by decide +kernel)
theorem w_applies : (headSpec (Jvm.Cond.code x code maxLocals ret :: tables_1) room_1).applies x e0.platform about1 = true :=
  (Spec.applies_iff w_frames).mpr ⟨w_running, w_runnable, w_alone, w_named, w_hears, w_ripe, w_room, w_tables⟩
theorem atStart : AtStart classFile x code maxLocals ret World_1 tables_1 room_1 Calls_1 rest_1 Pre_1 launch0 p0 e0 about1 theMethod args0 below0 :=
  ⟨lists_1, trivial, launch0.admits_env _ _ _, launch0.least_env, fairChoices_fair.cas, fairChoices_fair.clock, w_frames, w_args, w_heap, w_applies, ⟨w_consts, trivial⟩, w_rest, w_case⟩
end start1
theorem witness_1 : WitnessClaimed_1 := ⟨start1.p0, start1.e0, start1.about1, start1.theMethod, start1.args0, start1.below0, start1.atStart⟩
end Jvm.Pilot.@@N@@
