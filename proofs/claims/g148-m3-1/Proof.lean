import JvmDerived
import JvmDerived.Pilot.@@N@@Statement
import JvmDerived.Pilot.@@N@@Code
set_option linter.unusedVariables false
set_option linter.unusedSimpArgs false
namespace Jvm.RoadKit
open Sem ClassFile Op Lib Jvm.Stand Jvm.Free Jvm.LawKit
section New
variable {p : Program} {l : Launch} {e : Env} {R : Room} {s : State} {m : MethodId} {args : Array Value} {below : List Frame} {meth : Method} {c : Code} {T : State} {locs : List Loc} {cells slots : Nat}
theorem retI (X : Stand p l e R s m args below meth c T locs cells slots) (hx : p.tables.exec = Jvm.exec) {pc : Nat} {Ls : Array Slot} {z : Int32} {rest : List Value} (hret : meth.sig.returnType = some .int) (hd : decode c.code pc = .ok (.ireturn, 1)) {fs : List Frame}
    (hl : ∀ (f : JFrame) (acts : List Action), f.method = m → f.locked = none → f.entered = [] → (doReturn e (T.setTop f) acts (some (.int z))).1 = T.setFrames fs) : Steps p.tables e below (T.setTop (mkF m pc Ls (.int z :: rest))) (T.setFrames fs) := by
  have hm' : T.vm.method? m = some meth := X.method'
  have hn : narrow .int (.int z) = .int z := rfl
  show Steps p.tables e below (T.setTop { method := m, pc := pc, locals := Ls, stack := _ :: rest, locked := none }) _
  jvm_step X.here [X.here.top, hx, hd, hm', hret, hn]
  first | (intro acts; rw [hl _ acts rfl rfl rfl]) | rw [hl _ _ rfl rfl rfl]
  exact Steps.refl _
theorem retR (X : Stand p l e R s m args below meth c T locs cells slots) (hx : p.tables.exec = Jvm.exec) {pc : Nat} {Ls : Array Slot} {w : Value} {t : FieldType} {rest : List Value} (hret : meth.sig.returnType = some t) (hn : narrow t w = w) (ht : t.isReference = true) (hw : w.isRef = true) (hd : decode c.code pc = .ok (.areturn, 1)) {fs : List Frame}
    (hl : ∀ (f : JFrame) (acts : List Action), f.method = m → f.locked = none → f.entered = [] → (doReturn e (T.setTop f) acts (some w)).1 = T.setFrames fs) : Steps p.tables e below (T.setTop (mkF m pc Ls (w :: rest))) (T.setFrames fs) := by
  have hm' : T.vm.method? m = some meth := X.method'
  show Steps p.tables e below (T.setTop { method := m, pc := pc, locals := Ls, stack := _ :: rest, locked := none }) _
  jvm_step X.here [X.here.top, hx, hd, hm', hret, hn, hw]
  try (refine ⟨ht, ?_⟩)
  first | (intro acts; rw [hl _ acts rfl rfl rfl]) | rw [hl _ _ rfl rfl rfl]
  exact Steps.refl _
end New
end Jvm.RoadKit
/- laws to paste: Road.lenW, StrChars.pair_says, StrChars.lo8_mask, StrChars.shr1, StrChars.shr0, StrChars.narrow_ch, Road.wide_lo, Road.wide_hi (cut by pick.py; bodies as the Statement names them) -/
namespace Jvm.Pilot.@@N@@
namespace StrChars
open Jvm Sem ClassFile Op Lib Jvm.Stand Jvm.Free.XT Jvm.Free.ALB Jvm.Free.JM Jvm.Free
open Jvm.Lib.Cold (StaticIs)
/-- the byte that i2b leaves of a char -/
def lo8 (x : Int32) : Int32 := x.toInt8.toInt32
def U16 : String := "java/lang/StringUTF16"
namespace Cmp5
def yN : MethodName := ⟨"java/lang/StringUTF16", "compress", "([CI[BII)I"⟩
abbrev yB : ByteArray := jdk_52_method_21_code
end Cmp5
namespace Cmp3
def yN : MethodName := ⟨"java/lang/StringUTF16", "compress", "([CII)[B"⟩
abbrev yB : ByteArray := jdk_52_method_16_code
end Cmp3
namespace CodL
def yN : MethodName := ⟨"java/lang/StringUTF16", "coderFromArrayLen", "([BI)B"⟩
abbrev yB : ByteArray := jdk_52_method_15_code
end CodL
namespace New4
def yN : MethodName := ⟨"java/lang/String", "<init>", "([CIILjava/lang/Void;)V"⟩
abbrev yB : ByteArray := jdk_42_method_149_code
end New4
namespace New1
def yN : MethodName := ⟨"java/lang/String", "<init>", "([C)V"⟩
abbrev yB : ByteArray := jdk_42_method_3_code
end New1
/-- the byte, read back as charAt reads it, is the char -/
theorem lo8_mask {x : Int32} (h0 : ¬ x < 0) (h1 : ¬ 255 < x) : lo8 x &&& 255 = x := by
  have t : ∀ k : Fin 256, lo8 (Int32.ofNat k.val) &&& 255 = Int32.ofNat k.val := by decide +kernel
  rw [Int32.lt_iff_toInt_lt] at h0 h1
  have e0 : (0 : Int32).toInt = 0 := rfl
  have e1 : (255 : Int32).toInt = 255 := rfl
  obtain ⟨k, hk⟩ : ∃ k : Nat, x.toInt = k := ⟨x.toInt.toNat, by omega⟩
  have hx : x = Int32.ofNat k := Int32.toInt_inj.mp (by rw [hk, Int32.toInt_ofNat_small (by omega)])
  rw [hx]
  exact t ⟨k, by omega⟩
end StrChars
namespace StrChars.Road
open Jvm Sem ClassFile Op Lib Jvm.Stand Jvm.Free Jvm.Free.XT
open Jvm.Lib.Cold (StaticIs)
abbrev ST : String := "java/lang/String"
/-- every table word that New1's law asks, flat -/
abbrev words : List Jvm.Cond := [.code New1.yN New1.yB 2 none, .initialized ST, .methodLink ST 27 New4.yN, .instanceMethod New4.yN,
  .code New4.yN New4.yB 6 none, .fieldLink ST 38 ST "COMPACT_STRINGS" "Z", .laysFinal ST ST "value" "[B", .fieldLink ST 9 ST "value" "[B", .laysFinal ST ST "coder" "B", .fieldLink ST 15 ST "coder" "B",
  .methodLink ST 1 Lib.objectInit, .instanceMethod Lib.objectInit, .code Lib.objectInit ⟨#[0xb1]⟩ 1 none, .methodLink ST 177 Cmp3.yN, .static Cmp3.yN, .methodLink ST 47 CodL.yN, .static CodL.yN,
  .code Cmp3.yN Cmp3.yB 6 (some (.array .byte)), .initialized U16, .arrayClass .byte, .methodLink U16 115 Cmp5.yN, .static Cmp5.yN, .code Cmp5.yN Cmp5.yB 7 (some .int), .code CodL.yN CodL.yB 2 (some .byte)]
end StrChars.Road
namespace StrChars
open Jvm Sem ClassFile Op Lib Jvm.Stand Jvm.Free.XT Jvm.Free.ALB Jvm.Free.JM Jvm.Free
open Jvm.Lib.Cold (StaticIs)
def hi8 (x : Int32) : Int32 := lo8 (x >>> ((8 : Int32) &&& 31))
/-- what StringUTF16.getChar makes of two bytes -/
def pairCh (u v : Int32) : Int32 := (((u &&& 255) <<< ((0 : Int32) &&& 31)) ||| ((v &&& 255) <<< ((8 : Int32) &&& 31))).toUInt32.toUInt16.toUInt32.toInt32
theorem shr0 (c : Int32) : c >>> ((0 : Int32) &&& 31) = c := by
  have e : ((0 : Int32) &&& 31) = 0 := by decide
  rw [e]
  apply Int32.toBitVec_inj.mp
  rw [Int32.toBitVec_shiftRight]
  have e1 : ((0 : Int32).toBitVec.smod 32) = 0#32 := by decide
  rw [e1, BitVec.sshiftRight_eq']
  exact BitVec.sshiftRight_zero
theorem lo8_and (x : Int32) : (lo8 x &&& 255).toBitVec.toNat = x.toBitVec.toNat % 256 := by
  have h : (lo8 x).toBitVec = (x.toBitVec.signExtend 8).signExtend 32 := by rw [lo8, Int8.toBitVec_toInt32, Int32.toBitVec_toInt8]
  rw [Int32.toBitVec_and, BitVec.toNat_and, h]
  have e : ((x.toBitVec.signExtend 8).signExtend 32).toNat % 256 = x.toBitVec.toNat % 256 := by
    rw [BitVec.toNat_signExtend]
    have hlt := x.toBitVec.isLt
    simp only [BitVec.toNat_setWidth, BitVec.toNat_signExtend]
    split <;> split <;> omega
  rw [← e]
  exact Nat.and_two_pow_sub_one_eq_mod _ 8
theorem pair_says {c : Int32} (h0 : ¬ c < 0) (h1 : ¬ 65535 < c) : pairCh (lo8 c) (hi8 c) = c := by
  rw [Int32.lt_iff_toInt_lt] at h0 h1
  have e0 : (0 : Int32).toInt = 0 := rfl
  have e1 : (65535 : Int32).toInt = 65535 := rfl
  have hc : c.toInt = c.toBitVec.toNat := by
    have := c.toBitVec.isLt
    have e : c.toInt = c.toBitVec.toInt := rfl
    rw [e] at h0 h1
    rw [e]
    rw [BitVec.toInt_eq_toNat_cond] at h0 h1 ⊢
    split at h0 <;> split <;> omega
  have hn : c.toBitVec.toNat < 65536 := by omega
  have a1 := lo8_and c
  have a2 : (hi8 c &&& 255).toBitVec.toNat = c.toBitVec.toNat / 256 := by
    rw [hi8, lo8_and]
    have e : ((8 : Int32) &&& 31) = 8 := by decide
    rw [e, Int32.toBitVec_shiftRight]
    have e2 : ((8 : Int32).toBitVec.smod 32) = 8#32 := by decide
    rw [e2, BitVec.sshiftRight_eq', BitVec.toNat_sshiftRight_of_msb_false (by rw [BitVec.msb_eq_false_iff_two_mul_lt]; omega)]
    show c.toBitVec.toNat >>> 8 % 256 = _
    rw [Nat.shiftRight_eq_div_pow]
    omega
  unfold pairCh
  apply Int32.toBitVec_inj.mp
  apply BitVec.eq_of_toNat_eq
  have f0 : ((0 : Int32) &&& 31) = 0 := by decide
  have f8 : ((8 : Int32) &&& 31) = 8 := by decide
  rw [f0, f8]
  have g : (((lo8 c &&& 255) <<< (0 : Int32)) ||| ((hi8 c &&& 255) <<< (8 : Int32))).toBitVec.toNat = c.toBitVec.toNat := by
    rw [Int32.toBitVec_or, Int32.toBitVec_shiftLeft, Int32.toBitVec_shiftLeft]
    have s0 : ((0 : Int32).toBitVec.smod 32) = 0#32 := by decide
    have s8 : ((8 : Int32).toBitVec.smod 32) = 8#32 := by decide
    rw [s0, s8, BitVec.toNat_or]
    simp only [BitVec.shiftLeft_eq', BitVec.toNat_shiftLeft, a1, a2]
    show (c.toBitVec.toNat % 256) <<< 0 % 2 ^ 32 ||| (c.toBitVec.toNat / 256) <<< 8 % 2 ^ 32 = _
    rw [Nat.shiftLeft_zero, Nat.mod_eq_of_lt (show c.toBitVec.toNat % 256 < 2 ^ 32 by omega), Nat.mod_eq_of_lt (show (c.toBitVec.toNat / 256) <<< 8 < 2 ^ 32 by rw [Nat.shiftLeft_eq]; omega), Nat.or_comm, ← Nat.shiftLeft_add_eq_or_of_lt (by omega), Nat.shiftLeft_eq]
    omega
  show BitVec.toNat (((((lo8 c &&& 255) <<< (0 : Int32)) ||| ((hi8 c &&& 255) <<< (8 : Int32))).toBitVec.setWidth 16).setWidth 32) = _
  rw [BitVec.toNat_setWidth, BitVec.toNat_setWidth, g]
  omega
end StrChars
namespace StrChars
open Jvm Sem ClassFile Op Lib Jvm.Stand Jvm.Free.XT Jvm.Free.ALB Jvm.Free.JM Jvm.Free
open Jvm.Lib.Cold (StaticIs)
theorem shr1 {n : Nat} (h : 2 * n < 2 ^ 31) : Int32.ofNat (2 * n) >>> ((1 : Int32) &&& 31) = Int32.ofNat n := by
  have e : ((1 : Int32) &&& 31) = 1 := by decide
  rw [e]
  apply Int32.toBitVec_inj.mp
  rw [Int32.toBitVec_shiftRight]
  have e1 : ((1 : Int32).toBitVec.smod 32) = 1#32 := by decide
  have hm : (BitVec.ofNat 32 (2 * n)).toNat = 2 * n := by rw [BitVec.toNat_ofNat, Nat.mod_eq_of_lt (by omega)]
  rw [e1, BitVec.sshiftRight_eq']
  apply BitVec.eq_of_toNat_eq
  show ((BitVec.ofNat 32 (2 * n)).sshiftRight 1).toNat = (BitVec.ofNat 32 n).toNat
  rw [BitVec.toNat_sshiftRight_of_msb_false (by rw [BitVec.msb_eq_false_iff_two_mul_lt, hm]; omega), hm, BitVec.toNat_ofNat, Nat.shiftRight_eq_div_pow]
  omega
theorem narrow_ch {c : Int32} (h0 : ¬ c < 0) (h1 : ¬ 65535 < c) : narrow .char (.int c) = .int c := by
  have q : narrow .char (.int (pairCh (lo8 c) (hi8 c))) = .int (pairCh (lo8 c) (hi8 c)) := narrow_c _
  rwa [pair_says h0 h1] at q
/-- the array's cell V codes the n chars f 0 .. f (n - 1) by the coder cd, as the JDK does: coder 1 just where some char is above 255 -/
def Cod (cd : Int32) (n : Nat) (f : Nat → Int32) (V : Cell) : Prop := (cd = 0 ∧ V.slots.size = n ∧ ∀ j, j < n → V.slots[j]? = some (.int (lo8 (f j))) ∧ ¬ 255 < f j) ∨ (cd = 1 ∧ V.slots.size = 2 * n ∧ (∀ j, j < n → V.slots[2 * j]? = some (.int (lo8 (f j))) ∧ V.slots[2 * j + 1]? = some (.int (hi8 (f j)))) ∧ ∃ j, j < n ∧ 255 < f j)
theorem Cod.cd {cd : Int32} {n : Nat} {f : Nat → Int32} {V : Cell} (h : Cod cd n f V) : cd = 0 ∨ cd = 1 := h.imp (fun q => q.1) fun q => q.1
theorem Cod.len {cd : Int32} {n : Nat} {f : Nat → Int32} {V : Cell} (h : Cod cd n f V) (hs : V.slots.size < 2 ^ 31) : Int32.ofNat V.slots.size >>> (cd &&& 31) = Int32.ofNat n := by
  rcases h with ⟨rfl, h, -⟩ | ⟨rfl, h, -⟩
  · rw [shr0, h]
  · rw [h, shr1 (by omega)]
/-- **x is a String of the n chars f 0 .. f (n - 1)**, Latin-1 or UTF-16; its array at t has the cell V -/
def Txt (x t : Addr) (V : Cell) (cd : Int32) (n : Nat) (f : Nat → Int32) (U : State) : Prop := Exact "java/lang/String" x U ∧ Has x "java/lang/String" "value" "[B" (.ref t) U ∧ Has x "java/lang/String" "coder" "B" (.int cd) U ∧ XT.Arr .byte t V U ∧ Cod cd n f V ∧ ∀ j, j < n → ¬ f j < 0 ∧ ¬ 65535 < f j
theorem Txt.mv {x t : Addr} {V : Cell} {cd : Int32} {n : Nat} {f : Nat → Int32} {U U' : State} (h : Txt x t V cd n f U) (hal : U.vm.Alike U'.vm) (hh : U'.heap = U.heap) : Txt x t V cd n f U' := ⟨h.1.mv hal hh, h.2.1.mv hal hh, h.2.2.1.mv hal hh, h.2.2.2.1.mv hal hh, h.2.2.2.2⟩
namespace Cdr
def yN : MethodName := ⟨"java/lang/String", "coder", "()B"⟩
abbrev yB : ByteArray := jdk_42_method_152_code
theorem d0 : decode yB 0 = .ok (.getstatic 38, 3) := by decide +kernel
theorem d3 : decode yB 3 = .ok (.ifCond (.eq) 10, 3) := by decide +kernel
theorem d6 : decode yB 6 = .ok (.aload_n 0, 1) := by decide +kernel
theorem d7 : decode yB 7 = .ok (.getfield 15, 3) := by decide +kernel
theorem d10 : decode yB 10 = .ok (.goto 4, 3) := by decide +kernel
theorem d14 : decode yB 14 = .ok (.ireturn, 1) := by decide +kernel
def site : List Cond := [.fieldLink "java/lang/String" 38 "java/lang/String" "COMPACT_STRINGS" "Z", .fieldLink "java/lang/String" 15 "java/lang/String" "coder" "B"]
def tab : Cond := tabOf yN yB 1 (some .byte) site
def P (x : Addr) (cd z : Int32) (args : Array Value) (s : State) : Prop := args = #[.ref x] ∧ Has x "java/lang/String" "coder" "B" (.int cd) s ∧ (cd = 0 ∨ cd = 1) ∧ StaticIs s "java/lang/String" "COMPACT_STRINGS" "Z" (.int z) ∧ ¬ z = 0
def E (cd : Int32) (r : Option Value) (s u : State) : Prop := XT.PureE (some (.int cd)) r s u
theorem law (l : Launch) (x : Addr) (cd z : Int32) : Law l yN 1 0 0 0 yB 1 (some .byte) site (P x cd z) (E cd) [] 0 0 := by
  refine Law.of_walk (plainFor_of_name (by decide +kernel)) (by decide +kernel) (by decide +kernel) (by decide) (fun _ _ h => by rw [h.1]; rfl) (fun _ U U' hal hh h => ⟨h.1, h.2.1.mv hal hh, h.2.2.1, h.2.2.2.1.there hal hh, h.2.2.2.2⟩) (fun r U U' V V' h1 hal h2 h => XT.PureE.mv r U U' V V' h1 hal h2 h) ?_
  intro p e s m args below meth c s₁ X0 hexec hbytes hml hret hlk hnm hown hh0 W hP
  obtain ⟨rfl, hx, hc, s1, hz⟩ := hP
  have c1 : Steps p.tables e below (s₁.setTop (entryFrame m #[.ref x] 1)) (s₁.setTop (mkF m 0 #[.val (.ref x)] [])) := entry rfl
  obtain ⟨T2, X2, q2, st2⟩ := X0.sget hexec hown (wk W (.fieldLink "java/lang/String" 38 "java/lang/String" "COMPACT_STRINGS" "Z")) s1 (fun _ _ h => by rw [hh0]; exact h) (g := (mkF m 0 #[.val (.ref x)] [])) rfl (hb hbytes d0)
  have hh2 := q2.trans hh0
  have c3 : Steps p.tables e below (s₁.setTop (entryFrame m #[.ref x] 1)) (T2.setTop (mkF m 7 #[.val (.ref x)] [.ref x])) := (c1.trans (st2 _ (Steps.refl _))).trans (by
    refine XS.ifNo X2.here hexec rfl (hb hbytes d3) rfl (i0_eq_f hz) ?_
    refine XS.aloadN X2.here hexec rfl (hb hbytes d6) rfl rfl ?_
    exact Steps.refl _)
  obtain ⟨T4, X4, q4, st4⟩ := X2.hget hexec hown (wk W (.fieldLink "java/lang/String" 15 "java/lang/String" "coder" "B")) (hx.mv X2.warmed.alike hh2) (g := (mkF m 7 #[.val (.ref x)] [.ref x])) rfl (rest := []) rfl (hb hbytes d7)
  have c5 : Steps p.tables e below (s₁.setTop (entryFrame m #[.ref x] 1)) (T4.setTop (mkF m 14 #[.val (.ref x)] [.int cd])) := (c3.trans (st4 _ (Steps.refl _))).trans (by
    refine XS.goto X4.here hexec rfl (pc0 := 10) rfl (hb hbytes d10) (by decide) rfl ?_
    exact Steps.refl _)
  exact ⟨T4, some (.int cd), _, _, _, X4, rfl, rfl, rfl, (fun h => by cases h), ⟨rfl, q4.trans hh2⟩, fun fs hl => c5.trans (X4.ireturnOut hexec hret (by rcases hc with rfl | rfl <;> rfl) (Or.inr (Or.inr (Or.inl rfl))) (hb hbytes d14) hl)⟩
end Cdr
namespace Len
def yN : MethodName := ⟨"java/lang/String", "length", "()I"⟩
abbrev yB : ByteArray := jdk_42_method_54_code
theorem d0 : decode yB 0 = .ok (.aload_n 0, 1) := by decide +kernel
theorem d1 : decode yB 1 = .ok (.getfield 9, 3) := by decide +kernel
theorem d4 : decode yB 4 = .ok (.arraylength, 1) := by decide +kernel
theorem d5 : decode yB 5 = .ok (.aload_n 0, 1) := by decide +kernel
theorem d6 : decode yB 6 = .ok (.invokevirtual 335, 3) := by decide +kernel
theorem d9 : decode yB 9 = .ok (.ishr, 1) := by decide +kernel
theorem d10 : decode yB 10 = .ok (.ireturn, 1) := by decide +kernel
def site : List Cond := [.fieldLink "java/lang/String" 9 "java/lang/String" "value" "[B", Cdr.tab] ++ virtW "java/lang/String" 335 "java/lang/String" Cdr.yN Cdr.yN
def tab : Cond := tabOf yN yB 1 (some .int) site
def P (x t : Addr) (V : Cell) (cd : Int32) (n : Nat) (f : Nat → Int32) (z : Int32) (args : Array Value) (s : State) : Prop := args = #[.ref x] ∧ Txt x t V cd n f s ∧ StaticIs s "java/lang/String" "COMPACT_STRINGS" "Z" (.int z) ∧ ¬ z = 0
def E (n : Nat) (r : Option Value) (s u : State) : Prop := XT.PureE (some (.int (Int32.ofNat n))) r s u
/-- length() of a String of n chars, in either coding -/
theorem law (l : Launch) (x t : Addr) (V : Cell) (cd : Int32) (n : Nat) (f : Nat → Int32) (z : Int32) : Law l yN 1 0 1 13 yB 1 (some .int) site (P x t V cd n f z) (E n) [] 0 0 := by
  refine Law.of_walk (plainFor_of_name (by decide +kernel)) (by decide +kernel) (by decide +kernel) (by decide) (fun _ _ h => by rw [h.1]; rfl) (fun _ U U' hal hh h => ⟨h.1, h.2.1.mv hal hh, h.2.2.1.there hal hh, h.2.2.2⟩) (fun r U U' V V' h1 hal h2 h => XT.PureE.mv r U U' V V' h1 hal h2 h) ?_
  intro p e s m args below meth c s₁ X0 hexec hbytes hml hret hlk hnm hown hh0 W hP
  obtain ⟨rfl, hx, s1, hz⟩ := hP
  have v31 := hx.2.2.2.1.2.2.2
  have c1 : Steps p.tables e below (s₁.setTop (entryFrame m #[.ref x] 1)) (s₁.setTop (mkF m 1 #[.val (.ref x)] [.ref x])) := Steps.trans (entry rfl) (by
    show Steps p.tables e below (s₁.setTop (mkF m 0 #[.val (.ref x)] [])) _
    refine XS.aloadN X0.here hexec rfl (hb hbytes d0) rfl rfl ?_
    exact Steps.refl _)
  obtain ⟨T2, X2, q2, st2⟩ := X0.hget hexec hown (wk W (.fieldLink "java/lang/String" 9 "java/lang/String" "value" "[B")) (hx.mv X0.warmed.alike hh0).2.1 (g := (mkF m 1 #[.val (.ref x)] [.ref x])) rfl (rest := []) rfl (hb hbytes d1)
  have hh2 := q2.trans hh0
  have hx2 := hx.mv X2.warmed.alike hh2
  have c3 : Steps p.tables e below (s₁.setTop (entryFrame m #[.ref x] 1)) (T2.setTop (mkF m 6 #[.val (.ref x)] [.ref x, .int (Int32.ofNat V.slots.size)])) := (c1.trans (st2 _ (Steps.refl _))).trans (by
    refine X2.alen hexec hx2.2.2.2.1 rfl rfl (hb hbytes d4) ?_
    refine XS.aloadN X2.here hexec rfl (hb hbytes d5) rfl rfl ?_
    exact Steps.refl _)
  obtain ⟨v4, T4, X4, E4, g4⟩ := X2.callV hexec (Cdr.law l x cd z) hown (wks W (virtW "java/lang/String" 335 "java/lang/String" Cdr.yN Cdr.yN)) rfl (by decide) (wk W Cdr.tab) (W := 1) (Nat.le_of_ble_eq_true rfl) (Nat.le_of_ble_eq_true rfl) (Nat.le_refl _) (Nat.le_refl _) (hx2.1.fc X2.warmed.alike) hx2.1.is (g := (mkF m 6 #[.val (.ref x)] [.ref x, .int (Int32.ofNat V.slots.size)])) rfl (by rw [hml]; rfl) c3 (argsL := []) (rest := [.int (Int32.ofNat V.slots.size)]) rfl rfl (by show 2 * 0 + (1 + 0) ≤ _; decide) (hb hbytes d6) (⟨rfl, hx2.2.2.1, hx.2.2.2.2.1.cd, s1.there X2.warmed.alike hh2, hz⟩)
  obtain ⟨rfl, q4⟩ := E4
  have c5 : Steps p.tables e below (s₁.setTop (entryFrame m #[.ref x] 1)) (T4.setTop (mkF m 10 #[.val (.ref x)] [.int (Int32.ofNat V.slots.size >>> (cd &&& 31))])) := Steps.trans g4 (by
    refine ishr X4.here hexec rfl (hb hbytes d9) rfl ?_
    exact Steps.refl _)
  rw [hx.2.2.2.2.1.len v31] at c5
  exact ⟨T4, some (.int (Int32.ofNat n)), _, _, _, X4, rfl, rfl, rfl, (fun h => by cases h), ⟨rfl, q4.trans hh2⟩, fun fs hl => c5.trans (X4.ireturnOut hexec hret rfl (Or.inl rfl) (hb hbytes d10) hl)⟩
theorem pays {l : Launch} {R : Room} {p : Program} {e : Env} {below : List Frame} {s : State} {sargs : Array Value} {len W : Nat} (x t : Addr) (V : Cell) (cd : Int32) (n : Nat) (f : Nat → Int32) (z : Int32) (htab : tab.before sargs s = true) (hfr : 2 ≤ R.frames) (hlo : W + 25 ≤ R.locals) :
    Back l R p e below s sargs yN len W (fun A₁ a₁ => A₁.cells + 0 ≤ R.cells ∧ A₁.slots + 0 ≤ R.slots ∧ P x t V cd n f z a₁ A₁.U) (fun A₁ _ v₁ B₁ => E n v₁ A₁.U B₁.U ∧ B₁.locs = A₁.locs ++ [] ∧ B₁.cells = A₁.cells + 0 ∧ B₁.slots = A₁.slots + 0) :=
  (law l x t V cd n f z).pays htab hfr (by omega)
end Len
end StrChars
namespace StrChars.Road
open Jvm Sem ClassFile Op Lib Jvm.Stand Jvm.Free Jvm.Free.XT
open Jvm.Lib.Cold (StaticIs)
theorem consq {a : Array Value} {s : State} {c : Jvm.Cond} {L : List Jvm.Cond} (h0 : c.before a s = true) (h : ∀ w ∈ L, w.before a s = true) : ∀ w ∈ c :: L, w.before a s = true := fun w hw => (List.mem_cons.mp hw).elim (fun e => e ▸ h0) (h w)
/-- the words of String.length(), either coding -/
abbrev wordsLen : List Jvm.Cond := [.code Len.yN Len.yB 1 (some .int), .initialized ST, .fieldLink ST 9 ST "value" "[B", .fieldLink ST 38 ST "COMPACT_STRINGS" "Z", .fieldLink ST 15 ST "coder" "B", .code Cdr.yN Cdr.yB 1 (some .byte), .methodLink ST 335 Cdr.yN, .declares Cdr.yN, .selects ST Cdr.yN Cdr.yN, .instanceMethod Cdr.yN]
theorem tabLen_of {a : Array Value} {s : State} (h : ∀ w ∈ wordsLen, w.before a s = true) : Len.tab.before a s = true := by
  have hc : Cdr.tab.before a s = true := unparts (wk h (.code Cdr.yN Cdr.yB 1 (some .byte))) (wks h (.initialized Cdr.yN.cls :: Cdr.site))
  have q := consq hc h
  exact unparts (wk q (.code Len.yN Len.yB 1 (some .int))) (wks q (.initialized Len.yN.cls :: Len.site))
theorem movedLen {Z s : State} {a0 args : Array Value} (hZ : Z.Warmed39 s.vm) (hw : ∀ d ∈ wordsLen, d.before a0 Z = true) : ∀ d ∈ wordsLen, d.before args s = true := fun d hd => by
  have q := hw d hd
  have t : ∀ d ∈ wordsLen, d = .arrayClass .byte ∨ (d.onTables && d.keepsFace) = true := by decide +kernel
  rcases t d hd with rfl | t
  · exact RoadKit.mvA hZ q
  · exact RoadKit.mv hZ q t
/-- the bytes of the chars cs, low before high -/
def wideBytes : List Int32 → List Value
  | [] => []
  | c :: cs => .int (lo8 c) :: .int (hi8 c) :: wideBytes cs
theorem wide_lo (d : Value) : ∀ (cs : List Int32) (j : Nat), j < cs.length → (wideBytes cs).getD (2 * j) d = .int (lo8 (cs.getD j 0))
  | [], j, h => absurd h (Nat.not_lt_zero j)
  | c :: cs, 0, _ => rfl
  | c :: cs, j + 1, h => by
    have q := wide_lo d cs j (by simpa using h)
    rw [show 2 * (j + 1) = 2 * j + 1 + 1 from by omega]
    simpa [wideBytes] using q
theorem wide_hi (d : Value) : ∀ (cs : List Int32) (j : Nat), j < cs.length → (wideBytes cs).getD (2 * j + 1) d = .int (hi8 (cs.getD j 0))
  | [], j, h => absurd h (Nat.not_lt_zero j)
  | c :: cs, 0, _ => rfl
  | c :: cs, j + 1, h => by
    have q := wide_hi d cs j (by simpa using h)
    rw [show 2 * (j + 1) + 1 = 2 * j + 1 + 1 + 1 from by omega]
    simpa [wideBytes] using q
theorem low_at (d : Value) (cs : List Int32) (j : Nat) (h : j < cs.length) : (cs.map fun c => Value.int (lo8 c)).getD j d = .int (lo8 (cs.getD j 0)) := by
  simp [List.getD_eq_getElem?_getD, h]
/-- an array of N2 bytes vs codes the chars cs by the coder cd -/
def CodA (cs : List Int32) (cd N2 : Int32) (vs : List Value) : Prop := (cd = 0 ∧ N2 = Int32.ofNat cs.length ∧ vs = (cs.map fun c => Value.int (lo8 c)) ∧ ∀ c ∈ cs, ¬ 255 < c) ∨ (cd = 1 ∧ N2 = Int32.ofNat (2 * cs.length) ∧ vs = wideBytes cs ∧ ∃ c ∈ cs, 255 < c)
theorem CodA.cod {cs : List Int32} {cd N2 : Int32} {vs : List Value} {V : Cell} (h : CodA cs cd N2 vs) (hn : 2 * cs.length < 2 ^ 31) (hs : V.slots.size = N2.toNatClampNeg) (hv : RoadKit.Has V vs (.int 0)) : Cod cd cs.length (fun j => cs.getD j 0) V := by
  rcases h with ⟨rfl, rfl, rfl, h⟩ | ⟨rfl, rfl, rfl, c, hc, hw⟩
  · rw [n32 (by omega)] at hs
    exact Or.inl ⟨rfl, hs, fun j hj => ⟨by rw [hv j (by omega), low_at _ _ _ hj], by
      have e : cs.getD j 0 = cs[j] := by simp [List.getD_eq_getElem?_getD, hj]
      show ¬ 255 < cs.getD j 0
      rw [e]; exact h _ (List.getElem_mem _)⟩⟩
  · rw [n32 (by omega)] at hs
    obtain ⟨j, hj, rfl⟩ := List.getElem_of_mem hc
    exact Or.inr ⟨rfl, hs, fun j hj => ⟨by rw [hv _ (by omega), wide_lo _ _ _ hj], by rw [hv _ (by omega), wide_hi _ _ _ hj]⟩, j, hj, by
      have e : cs.getD j 0 = cs[j] := by simp [List.getD_eq_getElem?_getD, hj]
      show 255 < cs.getD j 0
      rw [e]; exact hw⟩
/-- an object of exactly java/lang/String, its two fields found: as the laws ask it -/
theorem strObj {Z U : State} {a0 : Array Value} {kI : Nat} (wi : (Jvm.Cond.instantiable ST kI).before a0 Z = true) (al : Z.vm.Alike U.vm) {x : Addr} {v0 c0 : Value} (E : RoadKit.Exa Z U.heap x ST) (V : RoadKit.Fld Z U.heap x ST "value" "[B" v0) (C : RoadKit.Fld Z U.heap x ST "coder" "B" c0) :
    ∃ (D : Cell) (fV fC : Field), Blank ST x D U ∧ Found ST "value" "[B" fV U ∧ Found ST "coder" "B" fC U ∧ D.slots[fV.slot]? = some v0 ∧ D.slots[fC.slot]? = some c0 ∧ RoadKit.slotOf Z ST "value" "[B" = fV.slot ∧ RoadKit.slotOf Z ST "coder" "B" = fC.slot := by
  obtain ⟨D, cfV, kV, iV, fV, hD, gV, stV, knV, obV, asV, slV⟩ := V
  obtain ⟨D', cfC, kC, iC, fC, hD', gC, stC, -, -, asC, slC⟩ := C
  cases hD.symm.trans hD'
  obtain ⟨D2, kD, e1, e2, e3, e4, e5⟩ := E
  cases hD.symm.trans e1
  obtain ⟨c2, k2, i1, i2, i3, -⟩ := Cond.instantiable_spec wi
  cases e2.symm.trans i1
  cases e3.symm.trans i2
  obtain ⟨kU, u1, u2⟩ := al.2.2 _ _ e3
  exact ⟨D, fV, fC, ⟨hD, ⟨knV, fun q hq => by rw [hq] at obV; cases obV⟩, by rw [al.findClass]; exact e2, kU, u1, by rw [u2]; exact i3, by rw [u2]; exact e5 i3⟩, ⟨SBG.found_only al ⟨cfV, kV, iV, gV⟩, stV⟩, ⟨SBG.found_only al ⟨cfC, kC, iC, gC⟩, stC⟩, slV, slC, by simp [RoadKit.slotOf, gV], by simp [RoadKit.slotOf, gC]⟩
theorem sta_is {Z U : State} (al : Z.vm.Alike U.vm) {C n d : String} {v : Value} (S : RoadKit.Sta Z U.heap C n d v) : StaticIs U C n d v := by
  obtain ⟨cfS, iS, kS, fS, st, cS, t1, t2, t3, t4, t5, t6, t7⟩ := S
  exact StaticIs.there (s := { Z with heap := U.heap }) ⟨cfS, iS, kS, fS, st, cS, t1, t2, t3, t4, t5, (fun q => by rw [q] at t6; cases t6), t7⟩ al rfl
/-- **length() OF SUCH A STRING** -/
theorem lenW {p : Program} {l : Launch} {e : Env} {R : Room} {s : State} {args : Array Value} {below : List Frame} {len W : Nat} {Z : State} {a0 : Array Value} {h : Heap} (hZ : Z.Warmed39 s.vm) (hw : ∀ d ∈ wordsLen, d.before a0 Z = true) {kI : Nat} (wi : (Jvm.Cond.instantiable ST kI).before a0 Z = true)
    {x t : Addr} {kb : ClassId} {cs : List Int32} {cd N2 z : Int32} {vs : List Value} (E : RoadKit.Exa Z h x ST) (V : RoadKit.Fld Z h x ST "value" "[B" (.ref t)) (C : RoadKit.Fld Z h x ST "coder" "B" (.int cd)) (K : RoadKit.Arv Z h t kb .byte N2 vs (.int 0)) (hc : CodA cs cd N2 vs) (hb : ∀ c ∈ cs, ¬ c < 0 ∧ ¬ (65535 : Int32) < c)
    (S : RoadKit.Sta Z h ST "COMPACT_STRINGS" "Z" (.int z)) (hz : ¬ z = 0) (l2 : cs.length ≤ 4000) (hfr : 2 ≤ R.frames) (hlo : W + 25 ≤ R.locals) :
    Back l R p e below s args (⟨"java/lang/String", "length", "()I"⟩ : MethodName) len W (fun P a => a = #[.ref x] ∧ P.U.heap = h ∧ P.cells + 0 ≤ R.cells ∧ P.slots + 0 ≤ R.slots)
      (fun P _ v B => ∃ L, (v = some (.int (Int32.ofNat cs.length)) ∧ L = [] ∧ B.U.heap = h) ∧ B.locs = P.locs ++ L ∧ B.cells = P.cells + 0 ∧ B.slots = P.slots + 0) := by
  obtain ⟨A, K1, K2, K3, K4, K5, K6⟩ := K
  have hcod := hc.cod (by omega) K3 K5
  intro m meth c P g ig mk a X hg hsize hdg hW hn hp'
  obtain ⟨rfl, rfl, r1, r2⟩ := hp'
  have al : Z.vm.Alike P.U.vm := hZ.alike.trans X.warmed.alike
  obtain ⟨D, fV, fC, hB, F1, F2, g1, g2, -, -⟩ := strObj wi al E V C
  have hx : Txt x t A cd cs.length (fun j => cs.getD j 0) P.U := ⟨⟨_, hB.2.2.1, D, hB.1, rfl, by cases q : D.vm <;> first | rfl | exact absurd q (hB.2.1.2 _)⟩, Has.of hB F1 g1, Has.of hB F2 g2, ⟨K1.1, State.isArrayOf_alike al K1.2.1, K1.2.2, by rcases hcod with ⟨-, q, -⟩ | ⟨-, q, -⟩ <;> omega⟩, hcod, fun j hj => by
    have e : cs.getD j 0 = cs[j] := by simp [List.getD_eq_getElem?_getD, hj]
    show ¬ cs.getD j 0 < 0 ∧ ¬ 65535 < cs.getD j 0
    rw [e]; exact hb _ (List.getElem_mem _)⟩
  obtain ⟨v, B, X', ⟨⟨hv, hh⟩, hl, hk, hs⟩, st⟩ := Len.pays x t A cd cs.length (fun j => cs.getD j 0) z (tabLen_of (movedLen hZ hw)) hfr hlo m meth c P g ig mk _ X hg hsize hdg hW hn ⟨r1, r2, rfl, hx, sta_is al S, hz⟩
  exact ⟨v, B, X', ⟨[], ⟨hv, rfl, hh⟩, hl, hk, hs⟩, st⟩
end StrChars.Road
end Jvm.Pilot.@@N@@
namespace Jvm.Pilot.@@N@@
open Jvm Jvm.ClassFile Sem Op Lib Jvm.Free Jvm.Stand Jvm.LawKit Jvm.RoadKit Bundle Jvm.Pilot.@@N@@.Jvm.D
theorem tw {a0 : Array Value} {Z : State} (hw : ∀ d ∈ tables_1, d.before a0 Z = true) (k : Nat) {d : Jvm.Cond} (h : tables_1[k]? = some d) : d.before a0 Z = true := hw d (List.mem_of_getElem? h)
abbrev Dk (c : ByteArray) (n : Nat) (i : Instr) (k : Nat) : Prop := decode c n = .ok (i, k)
theorem own_k {P : Prop} (h : P := by decide +kernel) : P := h
theorem own_b {P : Prop} (h : P := by first | decide | (dsimp only [Pt.cells, Pt.slots]; omega) | (dsimp only; omega) | omega) : P := h
def own_Go (p : Program) (e : Env) (below : List Frame) (A : State) (G : Outcome → State → Prop) : Prop := ∃ s₂ o, Steps p.tables e below A s₂ ∧ s₂.status = .running ∧ Ended s₂ below o ∧ G o s₂
theorem own_go {p : Program} {e : Env} {below : List Frame} {A B : State} {G : Outcome → State → Prop} (st : ∀ t, Steps p.tables e below B t → Steps p.tables e below A t) (k : own_Go p e below B G) : own_Go p e below A G := by
  obtain ⟨t, o, h1, h2⟩ := k
  exact ⟨t, o, st t h1, h2⟩
theorem og {p : Program} {e : Env} {below : List Frame} {A B : State} {G : Outcome → State → Prop} (st : ∀ t, Steps p.tables e below B t → Steps p.tables e below A t) (k : own_Go p e below B G) : own_Go p e below A G := own_go st k
theorem own_gos {p : Program} {e : Env} {below : List Frame} {A B : State} {G : Outcome → State → Prop} (st : Steps p.tables e below A B) (k : own_Go p e below B G) : own_Go p e below A G := by
  obtain ⟨t, o, h1, h2⟩ := k
  exact ⟨t, o, st.trans h1, h2⟩
theorem own_fin {p : Program} {l : Launch} {e : Env} {R : Room} {s : State} {m : MethodId} {args : Array Value} {below : List Frame} {meth : Method} {c : Code} {T : State} {locs : List Loc} {cells slots : Nat} (X : Stand p l e R s m args below meth c T locs cells slots) {v : Option Value} (hv : meth.sig.returnType = none → v = none) (hl : meth.locks = false) {A : State}
    (ret : ∀ fs : List Frame, (∀ (f : JFrame) (acts : List Action), f.method = m → f.locked = none → f.entered = [] → (doReturn e (T.setTop f) acts v).1 = T.setFrames fs) → Steps p.tables e below A (T.setFrames fs)) {QQ : Option Value → Heap → List Loc → Prop} (hQ : QQ v T.heap locs) {C S : Nat} (hc : cells ≤ C) (hs : slots ≤ S) :
    own_Go p e below A (fun o U' => ∃ v L, o = .returned v ∧ QQ v U'.heap L ∧ FrameEnd s o U' L C S) := by
  obtain ⟨fs, hr, hrun, hended, hW, hsame⟩ := X.leave hv hl
  exact ⟨_, _, ret fs hr, hrun, hended, v, locs, rfl, hQ, ⟨_, rfl⟩, hW, hsame.mono hc hs⟩
theorem own_finW {p : Program} {l : Launch} {e : Env} {R : Room} {s : State} {vm1 : Vm} {m : MethodId} {args : Array Value} {below : List Frame} {meth : Method} {c : Code} {T : State} {locs : List Loc} {cells slots : Nat} (X : Stand p l e R (s.setVm vm1) m args below meth c T locs cells slots) {h0 h : Heap} (hh : s.heap = h0) {Z : State} {a0 : Array Value} (hZ : Z.Warmed39 (s.setVm vm1).vm) {n : Nat} (hS : s.Since vm1 n) (hn : n ≤ T.heap.size) {v : Option Value} (hv : meth.sig.returnType = none → v = none) (hl : meth.locks = false) {A : State}
    (ret : ∀ fs : List Frame, (∀ (f : JFrame) (acts : List Action), f.method = m → f.locked = none → f.entered = [] → (doReturn e (T.setTop f) acts v).1 = T.setFrames fs) → Steps p.tables e below A (T.setFrames fs)) {QQ : Option Value → Heap → List Loc → Prop} (hQ : QQ v T.heap locs) {EL : List (String × Nat)} (hEL : EW Z a0 EL) (eT : T.heap = h) (C : CHr Z EL s.vm h0 vm1 h) {CC SS : Nat} (hc : cells ≤ CC) (hs : slots ≤ SS) :
    own_Go p e below A (fun o U' => ∃ v L, o = .returned v ∧ QQ v U'.heap L ∧ CHr Z EL s.vm s.heap U'.vm U'.heap ∧ ReturnedEndW s o U' L CC SS) := by
  obtain ⟨fs, hr, hrun, hended, hE⟩ := X.leaveW hS hn hv hl
  have hC := C.trans (CHv.at X hZ hEL C.1)
  subst hh eT
  exact ⟨_, _, ret fs hr, hrun, hended, v, locs, rfl, hQ, hC, hE.1, hE.2.1, hE.2.2.1, hE.2.2.2.mono hc hs⟩
def own_EL : List (String × Nat) := [("com/example/cohortwise/cohortwise/http/Requests", 63), ("java/lang/String", 7)]
theorem own_wSt {Z : State} {a0 : Array Value} (hw : ∀ d ∈ tables_1, d.before a0 Z = true) : ∀ a ∈ Bundle.stringAtoms, a.before a0 Z = true := fun d hd => hw d ((by decide +kernel : ∀ d ∈ Bundle.stringAtoms, d ∈ tables_1) d hd)
theorem own_hELt {Z : State} {a0 : Array Value} (hw : ∀ d ∈ tables_1, d.before a0 Z = true) : EW Z a0 own_EL := (EW.cons (hw _ (List.mem_of_getElem? (i := 185) rfl)) (by decide) (EW.cons (hw _ (List.mem_of_getElem? (i := 23) rfl)) (by decide) EW.nil))
theorem own_and255 (x : Int32) : ¬ nar .char ((x &&& (255 : Int32)).toUInt32.toUInt16.toUInt32.toInt32) < 0 ∧ ¬ (255 : Int32) < nar .char ((x &&& (255 : Int32)).toUInt32.toUInt16.toUInt32.toInt32) := by
  have t : ∀ k : Fin 256, ¬ nar .char ((Int32.ofNat k.val).toUInt32.toUInt16.toUInt32.toInt32) < 0 ∧ ¬ (255 : Int32) < nar .char ((Int32.ofNat k.val).toUInt32.toUInt16.toUInt32.toInt32) := by decide +kernel
  have h : (x &&& 255).toBitVec.toNat < 256 := by
    simp only [Int32.toBitVec_and, BitVec.toNat_and]
    exact Nat.lt_succ_of_le Nat.and_le_right
  have e : (x &&& 255) = Int32.ofNat (x &&& 255).toBitVec.toNat := by
    apply Int32.toBitVec_inj.mp
    show _ = BitVec.ofNat 32 _
    rw [BitVec.ofNat_toNat]; simp
  rw [e]
  exact t ⟨_, h⟩
theorem own_up (cs : List Int32) (h : ∀ c ∈ cs, ¬ c < 0 ∧ ¬ (255 : Int32) < c) : ∀ c ∈ cs, ¬ c < 0 ∧ ¬ (65535 : Int32) < c := fun c hc => ⟨(h c hc).1, fun q => (h c hc).2 (by rw [Int32.lt_iff_toInt_lt] at q ⊢; have e1 : (65535 : Int32).toInt = 65535 := rfl; have e2 : (255 : Int32).toInt = 255 := rfl; omega)⟩
theorem own_safeNull {Z : State} {EL : List (String × Nat)} {vm : Vm} {h : Heap} {x : Addr} (hal : Z.vm.Alike vm) (E : Exa Z h x "java/lang/String") (F : Fld Z h x "java/lang/String" "value" "[B" .null) : Safe Z EL vm h x := fun B => by
  obtain ⟨cell, k, e1, e2, e3, -, -⟩ := E
  obtain ⟨cell', cf, kf, i, f, f1, f2, -, -, -, -, f7⟩ := F
  cases e1.symm.trans f1
  obtain ⟨p, -, u, a, -, q, -, G, rfl | rfl⟩ := B
  · cases (show h[q.sa]? = some q.sC from G.ha).symm.trans e1
    obtain ⟨cS, ⟨⟨s1, s2, s3, ⟨cv, kv, iv, s4, s4'⟩, -, s6, s7, s8, -⟩, -⟩, -⟩ := G
    obtain ⟨k', hf'⟩ := ff_back (U := Wst Z vm h) hal s4
    cases f2.symm.trans hf'
    rw [f7] at s8
    cases s8
  · cases (show h[q.sd]? = some q.SA from G.hd).symm.trans e1
    obtain ⟨cS, -, -, hB, -⟩ := G
    have hB : vm.findClass "[B" = some q.SA.cls := hB
    rw [hal.findClass] at hB
    obtain ⟨k1, q1, q2⟩ := Vm.findClass_spec hB
    obtain ⟨k2, q3, q4⟩ := Vm.findClass_spec e2
    cases q1.symm.trans q3
    exact absurd (q2.symm.trans q4) (by decide)
theorem own_litX {Z : State} {a0 : Array Value} {EL : List (String × Nat)} {s : State} {vm1 : Vm} {h1 : Heap} {own text : String} {index : Nat} {mc : ClassId} {a b : Addr} (hW : Z.Warmed39 vm1) (hf : vm1.findClass own = some mc) (w : (Cond.stringLink own index text).before a0 Z = true) (hL : Lit (s.setVm vm1) own index a) (hC : CHv Z EL vm1 h1) (hmem : (own, index) ∈ EL) (F : Fld Z h1 a "java/lang/String" "value" "[B" (.ref b)) : Exa Z h1 b "[B" := by
  have hal : Z.vm.Alike vm1 := hW.alike
  have w2 : (Cond.stringLink own index text).before a0 (Wst Z vm1 h1) = true := mvS (s := { Z with heap := h1 }) hW w
  obtain ⟨k1, cf, i, units, hkx, hcf, hp, hu, -, htext, -⟩ := Cond.stringLink_spec (s := Wst Z vm1 h1) hf w2
  have hres : k1.resolved[index]? = some (some (.string a)) := by
    have q : (s.setVm vm1).resolvedAt? own index = some (.string a) := hL
    have hk1 : vm1.classes[mc]? = some k1 := hkx
    simp [State.resolvedAt?, hf, hk1] at q
    cases hr : k1.resolved[index]? with
    | none => rw [hr] at q; cases q
    | some o => rw [hr] at q; cases o with
      | none => cases q
      | some r => simpa using q
  have hB0 : Booksv vm1 own index units a := ⟨mc, k1, cf, i, hf, hkx, hcf, hp, hu, Or.inl hres⟩
  obtain ⟨q, hqa, G⟩ := SlB.of (hC _ hmem units a hB0)
  obtain ⟨cS, ⟨⟨s1, s2, s3, ⟨cv, kv, iv, s4, s5⟩, -, s6, s7, s8, s9, s10, s11, -⟩, -⟩, -, hB, -⟩ := G
  subst hqa
  obtain ⟨cell, cf2, kf, i2, f, f1, f2, -, -, -, -, f7⟩ := F
  cases (show h1[q.sa]? = some q.sC from s1).symm.trans f1
  obtain ⟨k2, hf2⟩ := ff_back (U := Wst Z vm1 h1) hal s4
  cases f2.symm.trans hf2
  rw [f7] at s8
  cases s8
  have hB : vm1.findClass "[B" = some q.SA.cls := hB
  have hBZ : Z.vm.findClass "[B" = some q.SA.cls := by rw [← hal.findClass]; exact hB
  obtain ⟨kb, hkb, -⟩ := Vm.findClass_spec hBZ
  obtain ⟨kb2, hkb2, ekb⟩ := hal.2.2 _ _ hkb
  obtain ⟨hst, k9, hk9, comp, hkind9⟩ := s11
  have ek9 : k9 = kb2 := Option.some.inj ((show vm1.classes[q.SA.cls]? = some k9 from hk9).symm.trans hkb2)
  rw [ek9, ekb] at hkind9
  refine ⟨q.SA, kb, s10, hBZ, hkb, ?_, fun ho => ?_⟩
  · cases hq : q.SA.vm <;> first | rfl | exact absurd hq (hst _)
  · have hk : kb.kind = .array comp .byte := hkind9
    rw [ho] at hk; cases hk
abbrev own_TN (l : Launch) (Z : State) (ws : List Jvm.Cond) (h0 : Heap) (y : MethodName) (b : ByteArray) (ml : Nat) (r : Option FieldType) (R : Room) (A : Array Value) (Q : Option Value → Heap → List Loc → Prop) (cl sl : Nat) : Prop :=
  MetFree l y (head1 (Jvm.Cond.code y b ml r :: ws) R) (fun aA U => aA = A ∧ Z.Warmed39 U.vm ∧ U.heap = h0) (fun _ _ _ _ _ => True) (fun _ U oO U' => ∃ rV rL, oO = .returned rV ∧ Q rV U'.heap rL ∧ FrameEnd U oO U' rL cl sl)
theorem own_bN {l : Launch} {Z : State} {ws : List Jvm.Cond} {h0 : Heap} {n0 : Nat} {y : MethodName} {b : ByteArray} {ml : Nat} {r : Option FieldType} {R : Room} {A : Array Value} {Q : Option Value → Heap → List Loc → Prop} {cl sl : Nat} (C : String) (L : Array Slot) (pn : plainFor y = true) (hC : y.cls = C) (O0 : Old Z n0 h0) (ef : ∀ m, entryFrame m A ml = mkF m 0 L []) (K : ∀ (p : Program) (e : Env) (s : State) (m : MethodId) (below : List Frame) (meth : Method) (cC : Code) (s₁ : State), Z.Warmed39 s.vm → s.heap = h0 → p.tables.exec = Jvm.exec → cC.code = b → cC.maxLocals = ml → s.vm.findClass C = some m.cls → meth.name = y.name → meth.sig.returnType = r → meth.locks = false → Stand p l e R s m A below meth cC s₁ [] 0 0 → s₁.heap = h0 → Fr n0 [] → n0 ≤ h0.size → own_Go p e below (s₁.setTop (mkF m 0 L [])) (fun oO U' => ∃ rV rL, oO = .returned rV ∧ Q rV U'.heap rL ∧ FrameEnd s oO U' rL cl sl)) : own_TN l Z ws h0 y b ml r R A Q cl sl := by
  refine MetFree.of_bodySF pn hisR ?_
  intro p e s m args below meth cC s₁ Bd hml hP _
  obtain ⟨rfl, hZ, hh⟩ := hP
  exact own_go (fun _ k => castTop (ef m) k) (K p e s m below meth cC s₁ hZ hh Bd.exec Bd.bytes hml (hC ▸ findClass_of_methodNamed Bd.named) (name_of_methodNamed Bd.named Bd.method).1 Bd.returns Bd.notSynchronized (Stand.of_body Bd) (by rw [← hh, Bd.state]; rfl) (Fr.nil n0) (O0.1 ▸ O0.2.1))
abbrev own_TW (l : Launch) (Z : State) (ws : List Jvm.Cond) (h0 : Heap) (y : MethodName) (b : ByteArray) (ml : Nat) (r : Option FieldType) (R : Room) (A : Array Value) (Q : Option Value → Heap → List Loc → Prop) (cl sl : Nat) : Prop :=
  MetFree l y (head1 (Jvm.Cond.code y b ml r :: ws) R) (fun aA U => aA = A ∧ Z.Warmed39 U.vm ∧ U.heap = h0 ∧ CHv Z own_EL U.vm h0) (fun _ _ _ _ _ => True) (fun _ U oO U' => ∃ rV rL, oO = .returned rV ∧ Q rV U'.heap rL ∧ CHr Z own_EL U.vm U.heap U'.vm U'.heap ∧ ReturnedEndW U oO U' rL cl sl)
theorem own_bW {l : Launch} {Z : State} {a0 : Array Value} {ws : List Jvm.Cond} {h0 : Heap} {n0 : Nat} {y : MethodName} {b : ByteArray} {ml : Nat} {r : Option FieldType} {R : Room} {A : Array Value} {Q : Option Value → Heap → List Loc → Prop} {cl sl : Nat} (C : String) (L : Array Slot) (hw : ∀ d ∈ tables_1, d.before a0 Z = true) (pn : plainFor y = true) (hC : y.cls = C) (O0 : Old Z n0 h0) (ef : ∀ m, entryFrame m A ml = mkF m 0 L []) (K : ∀ (p : Program) (e : Env) (s : State) (m : MethodId) (below : List Frame) (meth : Method) (cC : Code) (s₁ : State), Z.Warmed39 s.vm → s.heap = h0 → p.tables.exec = Jvm.exec → cC.code = b → cC.maxLocals = ml → s.vm.findClass C = some m.cls → meth.name = y.name → meth.sig.returnType = r → meth.locks = false → Stand p l e R (s.setVm s.vm) m A below meth cC s₁ [] 0 0 → s₁.heap = h0 → Fr n0 [] → n0 ≤ h0.size → s.Since s.vm 0 → CHr Z own_EL s.vm h0 s.vm h0 → (∀ a ∈ Bundle.stringAtoms, a.before a0 Z = true) → EW Z a0 own_EL → own_Go p e below (s₁.setTop (mkF m 0 L [])) (fun oO U' => ∃ rV rL, oO = .returned rV ∧ Q rV U'.heap rL ∧ CHr Z own_EL s.vm s.heap U'.vm U'.heap ∧ ReturnedEndW s oO U' rL cl sl)) : own_TW l Z ws h0 y b ml r R A Q cl sl := by
  refine MetFree.of_bodySF pn hisR ?_
  intro p e s m args below meth cC s₁ Bd hml hP _
  obtain ⟨rfl, hZ, hh, hC0⟩ := hP
  exact own_go (fun _ k => castTop (ef m) k) (K p e s m below meth cC s₁ hZ hh Bd.exec Bd.bytes hml (hC ▸ findClass_of_methodNamed Bd.named) (name_of_methodNamed Bd.named Bd.method).1 Bd.returns Bd.notSynchronized (Stand.of_body Bd) (by rw [← hh, Bd.state]; rfl) (Fr.nil n0) (O0.1 ▸ O0.2.1) ((State.WarmedH.refl s).since 0) (CHr.refl hC0) (own_wSt hw) (own_hELt hw))
theorem kk {P : Prop} (h : P := by decide +kernel) : P := h
theorem pf {y : MethodName} {C : String} (h : plainName C = true) (e : y.cls = C) : plainFor y = true := plainFor_of_name (e ▸ h)
theorem own_e {P : Prop} (h : P := by first | rfl | (simp [entryFrame, mkF, argsToLocals, Value.category]; done)) : P := h
section OwnSteps
variable {p : Program} {l : Launch} {e : Env} {R : Room} {s : State} {m : MethodId} {args : Array Value} {below : List Frame} {meth : Method} {c : Code} {T : State} {locs : List Loc} {cells slots : Nat} {b : ByteArray} {L : Array Slot} {S : List Value} {G : Outcome → State → Prop} 
theorem wl (X : Stand p l e R s m args below meth c T locs cells slots) (hx : p.tables.exec = Jvm.exec) (hby : c.code = b) (pc : Nat) {k : Fin 4} {v : Int32} (d : Dk b pc (.iload_n k) 1) (h1 : L[k.val]? = some (.val (.int v))) (K : own_Go p e below (T.setTop (mkF m (pc + 1) L (.int v :: S))) G) : own_Go p e below (T.setTop (mkF m pc L S)) G := og (fun _ k => XS.iloadN X.here hx rfl (hb hby d) h1 k) K
theorem wm (X : Stand p l e R s m args below meth c T locs cells slots) (hx : p.tables.exec = Jvm.exec) (hby : c.code = b) (pc : Nat) {k : Nat} {v : Int32} (d : Dk b pc (.iload k) 2) (h1 : L[k]? = some (.val (.int v))) (K : own_Go p e below (T.setTop (mkF m (pc + 2) L (.int v :: S))) G) : own_Go p e below (T.setTop (mkF m pc L S)) G := og (fun _ k => XS.iload X.here hx rfl (hb hby d) h1 k) K
theorem wa (X : Stand p l e R s m args below meth c T locs cells slots) (hx : p.tables.exec = Jvm.exec) (hby : c.code = b) (pc : Nat) {k : Fin 4} {v : Value} (d : Dk b pc (.aload_n k) 1) (h1 : L[k.val]? = some (.val v)) (h2 : v.isRef = true) (K : own_Go p e below (T.setTop (mkF m (pc + 1) L (v :: S))) G) : own_Go p e below (T.setTop (mkF m pc L S)) G := og (fun _ k => XS.aloadN X.here hx rfl (hb hby d) h1 h2 k) K
theorem wb (X : Stand p l e R s m args below meth c T locs cells slots) (hx : p.tables.exec = Jvm.exec) (hby : c.code = b) (pc : Nat) {k : Nat} {v : Value} (d : Dk b pc (.aload k) 2) (h1 : L[k]? = some (.val v)) (h2 : v.isRef = true) (K : own_Go p e below (T.setTop (mkF m (pc + 2) L (v :: S))) G) : own_Go p e below (T.setTop (mkF m pc L S)) G := og (fun _ k => XS.aload X.here hx rfl (hb hby d) h1 h2 k) K
theorem wc (X : Stand p l e R s m args below meth c T locs cells slots) (hx : p.tables.exec = Jvm.exec) (hby : c.code = b) (pc : Nat) {i : Int} (d : Dk b pc (.iconst i) 1)  (K : own_Go p e below (T.setTop (mkF m (pc + 1) L (.int (Int32.ofInt i) :: S))) G) : own_Go p e below (T.setTop (mkF m pc L S)) G := og (fun _ k => XS.iconst X.here hx rfl (hb hby d)  k) K
theorem wp (X : Stand p l e R s m args below meth c T locs cells slots) (hx : p.tables.exec = Jvm.exec) (hby : c.code = b) (pc : Nat) {i : Int} (d : Dk b pc (.bipush i) 2)  (K : own_Go p e below (T.setTop (mkF m (pc + 2) L (.int (Int8.ofInt i).toInt32 :: S))) G) : own_Go p e below (T.setTop (mkF m pc L S)) G := og (fun _ k => XS.bipush X.here hx rfl (hb hby d)  k) K
theorem wn (X : Stand p l e R s m args below meth c T locs cells slots) (hx : p.tables.exec = Jvm.exec) (hby : c.code = b) (pc : Nat) {cd : ClassFile.Cond} {o : Int} {x y : Int32} (d : Dk b pc (.if_icmp cd o) 3) (h1 : if_icmp.holds cd x y = false) (K : own_Go p e below (T.setTop (mkF m (pc + 3) L S)) G) : own_Go p e below (T.setTop (mkF m pc L (.int y :: .int x :: S))) G := og (fun _ k => XS.icmpNo X.here hx rfl (hb hby d) rfl h1 k) K
theorem we (X : Stand p l e R s m args below meth c T locs cells slots) (hx : p.tables.exec = Jvm.exec) (hby : c.code = b) (pc : Nat) {cd : ClassFile.Cond} {o : Int} {x : Int32} (d : Dk b pc (.ifCond cd o) 3) (h1 : ifCond.holds cd x = false) (K : own_Go p e below (T.setTop (mkF m (pc + 3) L S)) G) : own_Go p e below (T.setTop (mkF m pc L (.int x :: S))) G := og (fun _ k => XS.ifNo X.here hx rfl (hb hby d) rfl h1 k) K
theorem wz (X : Stand p l e R s m args below meth c T locs cells slots) (hx : p.tables.exec = Jvm.exec) (hby : c.code = b) (pc : Nat) {k : Nat} {x : Int32} (l' : Array Slot) (d : Dk b pc (.istore k) 2) (h1 : storeLocals L k (.int x) = some l') (K : own_Go p e below (T.setTop (mkF m (pc + 2) l' S)) G) : own_Go p e below (T.setTop (mkF m pc L (.int x :: S))) G := og (fun _ k => XS.istore X.here hx rfl (hb hby d) rfl h1 k) K
theorem wt (X : Stand p l e R s m args below meth c T locs cells slots) (hx : p.tables.exec = Jvm.exec) (hby : c.code = b) (pc : Nat) {k : Fin 4} {x : Int32} (l' : Array Slot) (d : Dk b pc (.istore_n k) 1) (h1 : storeLocals L k.val (.int x) = some l') (K : own_Go p e below (T.setTop (mkF m (pc + 1) l' S)) G) : own_Go p e below (T.setTop (mkF m pc L (.int x :: S))) G := og (fun _ k => XS.istoreN X.here hx rfl (hb hby d) rfl h1 k) K
theorem wu (X : Stand p l e R s m args below meth c T locs cells slots) (hx : p.tables.exec = Jvm.exec) (hby : c.code = b) (pc : Nat) {k : Nat} {x : Value} (l' : Array Slot) (d : Dk b pc (.astore k) 2) (h2 : x.isRef = true) (h1 : storeLocals L k x = some l') (K : own_Go p e below (T.setTop (mkF m (pc + 2) l' S)) G) : own_Go p e below (T.setTop (mkF m pc L (x :: S))) G := og (fun _ k => XS.astore X.here hx rfl (hb hby d) rfl h2 h1 k) K
theorem wv (X : Stand p l e R s m args below meth c T locs cells slots) (hx : p.tables.exec = Jvm.exec) (hby : c.code = b) (pc : Nat) {k : Fin 4} {x : Value} (l' : Array Slot) (d : Dk b pc (.astore_n k) 1) (h2 : x.isRef = true) (h1 : storeLocals L k.val x = some l') (K : own_Go p e below (T.setTop (mkF m (pc + 1) l' S)) G) : own_Go p e below (T.setTop (mkF m pc L (x :: S))) G := og (fun _ k => XS.astoreN X.here hx rfl (hb hby d) rfl h2 h1 k) K
theorem wi (X : Stand p l e R s m args below meth c T locs cells slots) (hx : p.tables.exec = Jvm.exec) (hby : c.code = b) (pc : Nat) {k : Nat} {i : Int} {x : Int32} (l' : Array Slot) (d : Dk b pc (.iinc k i) 3) (h1 : L[k]? = some (.val (.int x))) (h2 : storeLocals L k (.int (x + Int32.ofInt i)) = some l') (K : own_Go p e below (T.setTop (mkF m (pc + 3) l' S)) G) : own_Go p e below (T.setTop (mkF m pc L S)) G := og (fun _ k => XS.iinc X.here hx rfl (hb hby d) h1 h2 k) K
theorem wy (X : Stand p l e R s m args below meth c T locs cells slots) (hx : p.tables.exec = Jvm.exec) (hby : c.code = b) (pc : Nat) {cd : ClassFile.Cond} {o : Int} {x y : Int32} (q : Nat) (d : Dk b pc (.if_icmp cd o) 3) (h1 : if_icmp.holds cd x y = true) (K : own_Go p e below (T.setTop (mkF m q L S)) G) (h3 : 0 ≤ (pc : Int) + o := by decide) (h4 : ((pc : Int) + o).toNat = q := by decide) : own_Go p e below (T.setTop (mkF m pc L (.int y :: .int x :: S))) G := og (fun _ k => XS.icmpYes X.here hx rfl (pc0 := pc) (pc' := q) rfl (hb hby d) rfl h1 h3 h4 k) K
theorem wf (X : Stand p l e R s m args below meth c T locs cells slots) (hx : p.tables.exec = Jvm.exec) (hby : c.code = b) (pc : Nat) {cd : ClassFile.Cond} {o : Int} {x : Int32} (q : Nat) (d : Dk b pc (.ifCond cd o) 3) (h1 : ifCond.holds cd x = true) (K : own_Go p e below (T.setTop (mkF m q L S)) G) (h3 : 0 ≤ (pc : Int) + o := by decide) (h4 : ((pc : Int) + o).toNat = q := by decide) : own_Go p e below (T.setTop (mkF m pc L (.int x :: S))) G := og (fun _ k => XS.ifYes X.here hx rfl (pc0 := pc) (pc' := q) rfl (hb hby d) rfl h1 h3 h4 k) K
theorem wg (X : Stand p l e R s m args below meth c T locs cells slots) (hx : p.tables.exec = Jvm.exec) (hby : c.code = b) (pc : Nat) {o : Int} (q : Nat) (d : Dk b pc (.goto o) 3)  (K : own_Go p e below (T.setTop (mkF m q L S)) G) (h3 : 0 ≤ (pc : Int) + o := by decide) (h4 : ((pc : Int) + o).toNat = q := by decide) : own_Go p e below (T.setTop (mkF m pc L S)) G := og (fun _ k => XS.goto X.here hx rfl (pc0 := pc) (pc' := q) rfl (hb hby d)  h3 h4 k) K
end OwnSteps
theorem own_catR {v : Value} (h : v.isRef = true) : v.category = 1 := by cases v <;> first | rfl | cases h
def QPure (r : Option Value) (h0 : Heap) (n0 : Nat) (v : Option Value) (h : Heap) (L : List Loc) : Prop := v = r ∧ Fr n0 L ∧ h = h0
theorem own_selP {Z s : State} {a0 args : Array Value} {y : MethodName} {n : Nat} (hZ : Z.Warmed39 s.vm) (wi : (Cond.instantiable y.cls n).before a0 Z = true) (wp : (Cond.privateMethod y).before a0 Z = true) (wm : (Cond.instanceMethod y).before a0 Z = true) (hy : y.cls ≠ "java/lang/invoke/MethodHandle" ∧ y.cls ≠ "java/lang/invoke/VarHandle") : (Cond.selects y.cls y y).before args s = true := by
  have wi' : (Cond.instantiable y.cls n).before args s = true := mvT hZ wi
  have wm' : (Cond.instanceMethod y).before args s = true := mvT hZ wm
  obtain ⟨c, k, h1, h2, h3, h4⟩ := Cond.instantiable_spec wi'
  refine Jvm.Stand.selects_self_of_private h1 h2 ?_ (Cond.privateMethod_at (mvP hZ wp (args := args))) wm' hy
  have h5 := h4.1
  cases hi : k.isInterface <;> simp_all
theorem own_ti {i : Nat} (h : i < 2147483648) : (Int32.ofNat i).toInt = (i : Int) := Int32.toInt_ofNat_of_lt (by omega)
theorem own_tn {i : Nat} (h : i < 2147483648) : (Int32.ofNat i).toNatClampNeg = i := by
  show (Int32.ofNat i).toInt.toNat = i
  rw [own_ti h]; rfl
theorem own_nn0 {i : Nat} (h : i < 2147483648) : ¬ Int32.ofNat i < (0 : Int32) := by
  rw [Int32.lt_iff_toInt_lt, own_ti h]
  show ¬ (i : Int) < 0
  omega
theorem own_lti {i j : Nat} (hi : i < 2147483648) (hj : j < 2147483648) : Int32.ofNat i < Int32.ofNat j ↔ i < j := by
  rw [Int32.lt_iff_toInt_lt, own_ti hi, own_ti hj]; omega
theorem own_inc (i : Nat) : Int32.ofNat i + (1 : Int32) = Int32.ofNat (i + 1) := (Int32.ofNat_add i 1).symm
theorem own_inb {i j : Nat} (hi : i < j) (hj : j < 2147483648) : ¬ Int32.ofNat i < (0 : Int32) ∧ Int32.ofNat i < Int32.ofNat j := ⟨own_nn0 (by omega), (own_lti (by omega) hj).mpr hi⟩
theorem own_shl1 {n : Nat} (h : n ≤ 4000) : Int32.ofNat n <<< ((1 : Int32) &&& 31) = Int32.ofNat (2 * n) := by
  apply Int32.toBitVec_inj.mp
  show (BitVec.ofNat 32 n) <<< ((((1 : Int32) &&& 31).toBitVec).smod 32#32) = BitVec.ofNat 32 (2 * n)
  have e : (((1 : Int32) &&& 31).toBitVec).smod 32#32 = 1#32 := by decide
  rw [e]
  apply BitVec.eq_of_toNat_eq
  rw [BitVec.shiftLeft_eq', BitVec.toNat_shiftLeft, BitVec.toNat_ofNat, BitVec.toNat_ofNat, Nat.shiftLeft_eq]
  show n % 4294967296 * 2 % 4294967296 = 2 * n % 4294967296
  omega
theorem own_nb (x : Int32) : nar .byte (x.toInt8.toInt32) = x.toInt8.toInt32 := by simp [nar]
theorem own_nc {c : Int32} (h0 : ¬ c < 0) (h1 : ¬ (65535 : Int32) < c) : nar .char c = c := by
  have h := StrChars.narrow_ch h0 h1
  exact Value.int.inj h
def own_lat (cs : List Int32) : List Value := cs.map fun c => Value.int (StrChars.lo8 c)
def own_part (cs : List Int32) (i : Nat) : List Value := own_lat (cs.take i) ++ List.replicate (cs.length - i) (Value.int (0 : Int32))
def own_wpart (cs : List Int32) (i : Nat) : List Value := StrChars.Road.wideBytes (cs.take i) ++ List.replicate (2 * (cs.length - i)) (Value.int (0 : Int32))
theorem own_gd {cs : List Int32} {i n : Nat} {d : Value} (hn : cs.length = n) (hi : i < n) (h : n < 2147483648) : (cs.map Value.int).getD (Int32.ofNat i).toNatClampNeg d = Value.int (cs.getD i 0) := by
  rw [own_tn (by omega)]
  simp [List.getD_eq_getElem?_getD, hn, hi]
theorem own_set1 {cs : List Int32} {i : Nat} (hi : i < cs.length) : (own_part cs i).set i (Value.int (StrChars.lo8 (cs.getD i 0))) = own_part cs (i + 1) := by
  apply List.ext_getElem?
  intro j
  simp only [own_part, own_lat, List.getElem?_set, List.getElem?_append, List.length_append, List.length_map, List.length_take, List.length_replicate, List.getElem?_map, List.getElem?_take, List.getElem?_replicate]
  have e : cs.getD i 0 = cs[i] := by simp [List.getD_eq_getElem?_getD, hi]
  by_cases q : i = j
  · subst q
    have h1 : i < min i cs.length + (cs.length - i) := by omega
    have h2 : i < min (i + 1) cs.length := by omega
    rw [if_pos rfl, if_pos h1, if_pos h2, if_pos (by omega), e]
    simp [hi]
  · rw [if_neg q]
    by_cases a : j < i
    · have h1 : j < min i cs.length := by omega
      have h2 : j < min (i + 1) cs.length := by omega
      rw [if_pos h1, if_pos h2, if_pos a, if_pos (by omega)]
    · have h1 : ¬ j < min i cs.length := by omega
      have h2 : ¬ j < min (i + 1) cs.length := by omega
      rw [if_neg h1, if_neg h2]
      by_cases b : j < cs.length
      · rw [if_pos (by omega), if_pos (by omega)]
      · rw [if_neg (by omega), if_neg (by omega)]
theorem own_part0 (cs : List Int32) : own_part cs 0 = List.replicate cs.length (Value.int (0 : Int32)) := by simp [own_part, own_lat]
theorem own_partn (cs : List Int32) : own_part cs cs.length = own_lat cs := by simp [own_part]
theorem own_partl {cs : List Int32} {i : Nat} (hi : i ≤ cs.length) : (own_part cs i).length = cs.length := by simp [own_part, own_lat]; omega
theorem own_wl : ∀ cs : List Int32, (StrChars.Road.wideBytes cs).length = 2 * cs.length
  | [] => rfl
  | _ :: cs => by simp [StrChars.Road.wideBytes, own_wl cs]; omega
theorem own_wa : ∀ (as bs : List Int32), StrChars.Road.wideBytes (as ++ bs) = StrChars.Road.wideBytes as ++ StrChars.Road.wideBytes bs
  | [], _ => rfl
  | a :: as, bs => by simp [StrChars.Road.wideBytes, own_wa as bs]
theorem own_set2 {cs : List Int32} {i : Nat} (hi : i < cs.length) : ((own_wpart cs i).set (2 * i) (Value.int (StrChars.lo8 (cs.getD i 0)))).set (2 * i + 1) (Value.int (StrChars.hi8 (cs.getD i 0))) = own_wpart cs (i + 1) := by
  have e : cs.take (i + 1) = cs.take i ++ [cs[i]] := by rw [List.take_succ_eq_append_getElem hi]
  have e2 : cs.getD i 0 = cs[i] := by simp [List.getD_eq_getElem?_getD, hi]
  have e3 : List.replicate (2 * (cs.length - i)) (Value.int (0 : Int32)) = Value.int 0 :: Value.int 0 :: List.replicate (2 * (cs.length - (i + 1))) (Value.int (0 : Int32)) := by
    rw [show 2 * (cs.length - i) = 2 * (cs.length - (i + 1)) + 1 + 1 by omega]; rfl
  have l : (StrChars.Road.wideBytes (cs.take i)).length = 2 * i := by rw [own_wl, List.length_take]; omega
  unfold own_wpart
  rw [e, e2, own_wa, e3, List.set_append_right _ _ (by omega), l, Nat.sub_self, List.set_cons_zero, List.set_append_right _ _ (by omega), l, show 2 * i + 1 - 2 * i = 0 + 1 by omega, List.set_cons_succ, List.set_cons_zero, List.append_assoc]
  rfl
theorem own_wpart0 (cs : List Int32) : own_wpart cs 0 = List.replicate (2 * cs.length) (Value.int (0 : Int32)) := by simp [own_wpart, StrChars.Road.wideBytes]
theorem own_wpartn (cs : List Int32) : own_wpart cs cs.length = StrChars.Road.wideBytes cs := by simp [own_wpart]
theorem own_wpartl {cs : List Int32} {i : Nat} (hi : i ≤ cs.length) : (own_wpart cs i).length = 2 * cs.length := by simp [own_wpart, own_wl]; omega
theorem own_rpl {n : Nat} : (List.replicate n (Value.int (0 : Int32))).length = n := List.length_replicate
def own_Ok (cs : List Int32) : Prop := (∀ c ∈ cs, ¬ c < 0 ∧ ¬ (65535 : Int32) < c) ∧ cs.length ≤ 4000
theorem own_Ok.at {cs : List Int32} (h : own_Ok cs) {i : Nat} (hi : i < cs.length) : ¬ cs.getD i 0 < 0 ∧ ¬ (65535 : Int32) < cs.getD i 0 := by
  have e : cs.getD i 0 = cs[i] := by simp [List.getD_eq_getElem?_getD, hi]
  rw [e]; exact h.1 _ (List.getElem_mem _)
theorem own_all {cs : List Int32} (h : ∀ j, j < cs.length → ¬ (255 : Int32) < cs.getD j 0) : ∀ c ∈ cs, ¬ (255 : Int32) < c := fun c hc => by
  obtain ⟨j, hj, rfl⟩ := List.getElem_of_mem hc
  have := h j hj
  rwa [show cs.getD j 0 = cs[j] by simp [List.getD_eq_getElem?_getD, hj]] at this
def own_cfa (n N2 : Int32) : Int32 := (((n - N2).toUInt32 >>> ((31 : Int32) &&& 31).toUInt32).toInt32).toInt8.toInt32
theorem own_cfa1 {k : Nat} (h1 : 0 < k) (h2 : k ≤ 4000) : own_cfa (Int32.ofNat k) (Int32.ofNat (2 * k)) = 1 := by
  have q : ((Int32.ofNat k - Int32.ofNat (2 * k)).toUInt32 >>> ((31 : Int32) &&& 31).toUInt32).toInt32 = 1 := by
    apply Int32.toBitVec_inj.mp
    show (BitVec.ofNat 32 k - BitVec.ofNat 32 (2 * k)) >>> ((((31 : Int32) &&& 31).toUInt32.mod 32).toBitVec) = 1#32
    have e : (((31 : Int32) &&& 31).toUInt32.mod 32).toBitVec = 31#32 := by decide
    rw [e]
    apply BitVec.eq_of_toNat_eq
    rw [BitVec.ushiftRight_eq', BitVec.toNat_ushiftRight, BitVec.toNat_sub, BitVec.toNat_ofNat, BitVec.toNat_ofNat, Nat.shiftRight_eq_div_pow]
    show (4294967296 - 2 * k % 4294967296 + k % 4294967296) % 4294967296 / 2147483648 = 1
    omega
  unfold own_cfa; rw [q]; decide
theorem own_cod {cs : List Int32} {cd N2 : Int32} {vs : List Value} (h : StrChars.Road.CodA cs cd N2 vs) (h1 : 0 < cs.length) (h2 : cs.length ≤ 4000) : own_cfa (Int32.ofNat cs.length) N2 = cd := by
  rcases h with ⟨rfl, rfl, -⟩ | ⟨rfl, rfl, -⟩
  · unfold own_cfa; rw [Int32.sub_self]; decide
  · exact own_cfa1 h1 h2
theorem own_cd01 {cs : List Int32} {cd N2 : Int32} {vs : List Value} (h : StrChars.Road.CodA cs cd N2 vs) : cd = 0 ∨ cd = 1 := h.imp (fun q => q.1) fun q => q.1
def QC5 (Z : State) (b : Addr) (kb : ClassId) (cs : List Int32) (h0 : Heap) (n0 : Nat) (v : Option Value) (h : Heap) (L : List Loc) : Prop := ∃ r : Nat, v = some (.int (Int32.ofNat r)) ∧ Fr n0 L ∧ Keep h0 h [b] ∧ ((r = cs.length ∧ (∀ c ∈ cs, ¬ (255 : Int32) < c) ∧ Arv Z h b kb .byte (Int32.ofNat cs.length) (own_lat cs) (.int (0 : Int32))) ∨ (r < cs.length ∧ (255 : Int32) < cs.getD r 0))
def QPut (Z : State) (b : Addr) (kb : ClassId) (N : Int32) (vs : List Value) (h0 : Heap) (n0 : Nat) (v : Option Value) (h : Heap) (L : List Loc) : Prop := v = none ∧ Fr n0 L ∧ Keep h0 h [b] ∧ Arv Z h b kb .byte N vs (.int (0 : Int32))
def QNew (Z : State) (N : Int32) (vs : List Value) (h0 : Heap) (n0 : Nat) (v : Option Value) (h : Heap) (L : List Loc) : Prop := ∃ (t : Addr) (k : ClassId), v = some (.ref t) ∧ Fr n0 L ∧ Keep h0 h [] ∧ h0.size ≤ t ∧ Arv Z h t k .byte N vs (.int (0 : Int32)) ∧ Exa Z h t "[B"
def QCmp (Z : State) (cs : List Int32) (h0 : Heap) (n0 : Nat) (v : Option Value) (h : Heap) (L : List Loc) : Prop := ∃ (t : Addr) (k : ClassId) (cd N2 : Int32) (vs : List Value), v = some (.ref t) ∧ Fr n0 L ∧ Keep h0 h [] ∧ h0.size ≤ t ∧ Arv Z h t k .byte N2 vs (.int (0 : Int32)) ∧ StrChars.Road.CodA cs cd N2 vs ∧ Exa Z h t "[B"
def QSt (Z : State) (x : Addr) (cs : List Int32) (h0 : Heap) (n0 : Nat) (v : Option Value) (h : Heap) (L : List Loc) : Prop := ∃ (t : Addr) (k : ClassId) (cd N2 : Int32) (vs : List Value), v = none ∧ Fr n0 L ∧ Keep h0 h [x] ∧ Fld Z h x "java/lang/String" "value" "[B" (.ref t) ∧ Fld Z h x "java/lang/String" "coder" "B" (.int cd) ∧ Arv Z h t k .byte N2 vs (.int (0 : Int32)) ∧ StrChars.Road.CodA cs cd N2 vs ∧ Exa Z h t "[B"
theorem own_none : ∀ c ∈ ([] : List Int32), ¬ c < 0 ∧ ¬ (255 : Int32) < c := fun c hc => nomatch hc
theorem own_selQ {Z s : State} {a0 args : Array Value} {y : MethodName} {C : String} (hZ : Z.Warmed39 s.vm) (wsel : (Cond.selects C y y).before a0 Z = true) (wp : (Cond.privateMethod y).before a0 Z = true) (wm : (Cond.instanceMethod y).before a0 Z = true) (hy : y.cls ≠ "java/lang/invoke/MethodHandle" ∧ y.cls ≠ "java/lang/invoke/VarHandle") : (Cond.selects y.cls y y).before args s = true := by
  have ws' : (Cond.selects C y y).before args s = true := mvT hZ wsel
  have wm' : (Cond.instanceMethod y).before args s = true := mvT hZ wm
  obtain ⟨c, r, m2, -, -, q3, -, mk, hk, hi⟩ := Cond.selects_spec ws'
  exact Jvm.Stand.selects_self_of_private (findClass_of_methodNamed q3) hk hi (Cond.privateMethod_at (mvP hZ wp (args := args))) wm' hy
theorem own_same {Z : State} {a0 : Array Value} {y u : MethodName} {C : String} (w3 : (Cond.instanceMethod y).before a0 Z = true) (ws : (Cond.selects C u u).before a0 Z = true) (hc : u.cls = y.cls) (hmh : y.cls ≠ "java/lang/invoke/MethodHandle" ∧ y.cls ≠ "java/lang/invoke/VarHandle") : (Cond.sameMethod y.cls y.cls y.name y.desc).before a0 Z = true := by
  obtain ⟨m, meth, hn, hm, -, -⟩ := Cond.instanceMethod_spec w3
  have hf := State.methodFound?_of_named hn hmh
  obtain ⟨c, r, m2, -, -, q3, -, mk, hk, hi⟩ := Cond.selects_spec ws
  have e1 := findClass_of_methodNamed hn
  have e2 := findClass_of_methodNamed q3
  rw [hc] at e2
  have e3 : m.cls = m2.cls := Option.some.inj (e1.symm.trans e2)
  have hn' : Z.methodNamed? ⟨y.cls, y.name, y.desc⟩ = some m := hn
  simp only [Cond.before, Cond.holds, Cond.value, e1, hf, hn', e3, hk]
  simp [hi]
theorem own_nf {s : State} {args : Array Value} {y u : MethodName} {C : String} (ws : (Cond.selects C u u).before args s = true) (hc : u.cls = y.cls) : NotFace s y := fun r0 h0 => by
  obtain ⟨c, r, m2, -, -, q3, -, mk, hk, hi⟩ := Cond.selects_spec ws
  have e1 := findClass_of_methodNamed h0
  have e2 := findClass_of_methodNamed q3
  rw [hc] at e2
  have e3 : r0.cls = m2.cls := Option.some.inj (e1.symm.trans e2)
  exact ⟨mk, e3 ▸ hk, hi⟩
def own_z (n : Nat) : List Value := List.replicate n (.int (0 : Int32))
def own_sb0 (cs : List Int32) : List Value := own_lat cs ++ own_z (16 - cs.length)
def own_sb1 (cs : List Int32) : List Value := StrChars.Road.wideBytes cs ++ own_z (32 - 2 * cs.length)
def own_sbN (cd : Int32) : Int32 := if cd = 0 then 16 else 32
def own_sbv (cd : Int32) (cs : List Int32) : List Value := if cd = 0 then own_sb0 cs else own_sb1 cs
def own_cdi (cd : Int32) (cs : List Int32) : Prop := (cd = 0 ∧ ∀ c ∈ cs, ¬ (255 : Int32) < c) ∨ (cd = 1 ∧ ∃ c ∈ cs, (255 : Int32) < c)
theorem own_zl (n : Nat) : (own_z n).length = n := List.length_replicate
theorem own_zs (n : Nat) : own_z (n + 1) = .int (0 : Int32) :: own_z n := rfl
theorem own_latl (cs : List Int32) : (own_lat cs).length = cs.length := List.length_map _
theorem own_lata (as bs : List Int32) : own_lat (as ++ bs) = own_lat as ++ own_lat bs := List.map_append
theorem own_sb0l {cs : List Int32} (h : cs.length ≤ 16) : (own_sb0 cs).length = 16 := by unfold own_sb0; rw [List.length_append, own_latl, own_zl]; omega
theorem own_sb1l {cs : List Int32} (h : cs.length ≤ 16) : (own_sb1 cs).length = 32 := by unfold own_sb1; rw [List.length_append, own_wl, own_zl]; omega
theorem own_ap0 {cs : List Int32} {c : Int32} (h : cs.length < 16) : (own_sb0 cs).set cs.length (.int (StrChars.lo8 c)) = own_sb0 (cs ++ [c]) := by
  unfold own_sb0
  have e : 16 - cs.length = (16 - (cs ++ [c]).length) + 1 := by rw [List.length_append]; simp; omega
  rw [List.set_append_right _ _ (by rw [own_latl]; exact Nat.le_refl _), own_latl, Nat.sub_self, e, own_zs, List.set_cons_zero, own_lata, List.append_assoc]
  rfl
theorem own_wext {xs : List Int32} {c : Int32} {k : Nat} : ((StrChars.Road.wideBytes xs ++ own_z (k + 2)).set (2 * xs.length) (.int (StrChars.lo8 c))).set (2 * xs.length + 1) (.int (StrChars.hi8 c)) = StrChars.Road.wideBytes (xs ++ [c]) ++ own_z k := by
  have l := own_wl xs
  rw [own_zs, own_zs, List.set_append_right _ _ (by omega), l, Nat.sub_self, List.set_cons_zero, List.set_append_right _ _ (by omega), l, show 2 * xs.length + 1 - 2 * xs.length = 0 + 1 by omega, List.set_cons_succ, List.set_cons_zero, own_wa, List.append_assoc]
  rfl
theorem own_ap1 {cs : List Int32} {c : Int32} (h : cs.length < 16) : ((own_sb1 cs).set (2 * cs.length) (.int (StrChars.lo8 c))).set (2 * cs.length + 1) (.int (StrChars.hi8 c)) = own_sb1 (cs ++ [c]) := by
  unfold own_sb1
  have e : 32 - 2 * cs.length = (32 - 2 * (cs ++ [c]).length) + 2 := by rw [List.length_append]; simp; omega
  rw [e]; exact own_wext
theorem own_cdi0 {cs : List Int32} {c : Int32} (h : ∀ c ∈ cs, ¬ (255 : Int32) < c) (q : ¬ (255 : Int32) < c) : own_cdi 0 (cs ++ [c]) := Or.inl ⟨rfl, fun d hd => by
  rcases List.mem_append.mp hd with z | z
  · exact h d z
  · rw [List.mem_singleton.mp z]; exact q⟩
theorem own_cdi1 {cs : List Int32} {c : Int32} (q : (255 : Int32) < c) : own_cdi 1 (cs ++ [c]) := Or.inr ⟨rfl, c, List.mem_append.mpr (Or.inr (List.mem_singleton.mpr rfl)), q⟩
theorem own_cdi2 {cs ds : List Int32} (h : ∃ c ∈ cs, (255 : Int32) < c) : own_cdi 1 (cs ++ ds) := by
  obtain ⟨c, hc, q⟩ := h
  exact Or.inr ⟨rfl, c, List.mem_append.mpr (Or.inl hc), q⟩
theorem own_cdi3 {cs ds : List Int32} (h : ∀ c ∈ cs, ¬ (255 : Int32) < c) (q : ∀ c ∈ ds, ¬ (255 : Int32) < c) : own_cdi 0 (cs ++ ds) := Or.inl ⟨rfl, fun d hd => (List.mem_append.mp hd).elim (h d) (q d)⟩
theorem own_len1 (cs : List Int32) (c : Int32) : Int32.ofNat cs.length + (1 : Int32) = Int32.ofNat (cs ++ [c]).length := by rw [List.length_append]; exact own_inc _
theorem own_ofadd (a b : Nat) : Int32.ofNat a + Int32.ofNat b = Int32.ofNat (a + b) := (Int32.ofNat_add a b).symm
theorem own_lenA (cs ds : List Int32) : Int32.ofNat cs.length + Int32.ofNat ds.length = Int32.ofNat (cs ++ ds).length := by rw [List.length_append]; exact own_ofadd _ _
theorem own_sub16 {m : Nat} (h : m ≤ 16) : ¬ (0 : Int32) < Int32.ofNat m - (16 : Int32) := by
  have t : ∀ k : Fin 17, ¬ (0 : Int32) < Int32.ofNat k.val - (16 : Int32) := by decide
  exact t ⟨m, by omega⟩
theorem own_sb0g {cs : List Int32} {i : Nat} (h : i < cs.length) : (own_sb0 cs).getD i (.int (0 : Int32)) = .int (StrChars.lo8 (cs.getD i 0)) := by
  unfold own_sb0
  rw [List.getD_eq_getElem?_getD, List.getElem?_append_left (by rw [own_latl]; exact h)]
  simp [own_lat, List.getD_eq_getElem?_getD, h]
theorem own_take0 {cs : List Int32} (h : cs.length ≤ 16) : (List.range cs.length).map (fun i => (own_sb0 cs).getD (0 + i) (.int (0 : Int32))) = own_lat cs := by
  apply List.ext_getElem
  · rw [List.length_map, List.length_range, own_latl]
  · intro i h1 h2
    rw [List.getElem_map, List.getElem_range, Nat.zero_add]
    have hi : i < cs.length := by rw [own_latl] at h2; exact h2
    rw [own_sb0g hi]; simp [own_lat, List.getD_eq_getElem?_getD, hi]
theorem own_take1 {cs : List Int32} (h : cs.length ≤ 16) : (List.range (2 * cs.length)).map (fun i => (own_sb1 cs).getD (0 + i) (.int (0 : Int32))) = StrChars.Road.wideBytes cs := by
  apply List.ext_getElem
  · rw [List.length_map, List.length_range, own_wl]
  · intro i h1 h2
    rw [List.getElem_map, List.getElem_range, Nat.zero_add]
    unfold own_sb1
    rw [List.getD_eq_getElem?_getD, List.getElem?_append_left h2, List.getElem?_eq_getElem h2]; rfl
def QInf (Z : State) (d : Addr) (kd : ClassId) (N : Int32) (vs : List Value) (h0 : Heap) (n0 : Nat) (r : Option Value) (h : Heap) (L : List Loc) : Prop := r = none ∧ Fr n0 L ∧ Keep h0 h [d] ∧ Arv Z h d kd .byte N vs (.int (0 : Int32))
def QStrN (Z : State) (cs : List Int32) (h0 : Heap) (n0 : Nat) (v : Option Value) (h : Heap) (L : List Loc) : Prop := ∃ (x t : Addr) (k : ClassId) (cd N2 : Int32) (vs : List Value), v = some (.ref x) ∧ Fr n0 L ∧ Keep h0 h [] ∧ h0.size ≤ x ∧ Exa Z h x "java/lang/String" ∧ Fld Z h x "java/lang/String" "value" "[B" (.ref t) ∧ Fld Z h x "java/lang/String" "coder" "B" (.int cd) ∧ Arv Z h t k .byte N2 vs (.int (0 : Int32)) ∧ StrChars.Road.CodA cs cd N2 vs ∧ Exa Z h t "[B"
def own_ce (c : Int32) : Int32 := if (255 : Int32) < c then 0 else 1
theorem own_ce1 {c : Int32} (h : ¬ own_ce c = 0) : ¬ (255 : Int32) < c := fun q => h (by unfold own_ce; rw [if_pos q])
theorem own_ce0 {c : Int32} (h : own_ce c = 0) : (255 : Int32) < c := by
  by_cases q : (255 : Int32) < c
  · exact q
  · unfold own_ce at h; rw [if_neg q] at h; exact absurd h (by decide)
theorem own_nneg {x : Int32} (h : x.toBitVec.toNat < 2147483648) : ¬ x < 0 := by
  rw [Int32.lt_iff_toInt_lt]
  show ¬ x.toBitVec.toInt < 0
  rw [BitVec.toInt_eq_toNat_of_lt (by omega)]; omega
theorem own_ofN {i : Nat} (h : i < 2147483648) : (Int32.ofNat i).toBitVec.toNat < 2147483648 := by
  show (BitVec.ofNat 32 i).toNat < _
  rw [BitVec.toNat_ofNat]; omega
theorem own_or3 {a b d : Nat} (ha : a < 2147483648) (hb : b < 2147483648) (hd : d < 2147483648) : ¬ (Int32.ofNat a ||| Int32.ofNat b) ||| Int32.ofNat d < 0 := by
  apply own_nneg
  rw [Int32.toBitVec_or, Int32.toBitVec_or, BitVec.toNat_or, BitVec.toNat_or]
  exact Nat.or_lt_two_pow (n := 31) (Nat.or_lt_two_pow (n := 31) (own_ofN ha) (own_ofN hb)) (own_ofN hd)
theorem own_ofsub {n i : Nat} (h : i ≤ n) : Int32.ofNat n - Int32.ofNat i = Int32.ofNat (n - i) := by
  have e : Int32.ofNat n = Int32.ofNat (n - i) + Int32.ofNat i := by rw [own_ofadd, Nat.sub_add_cancel h]
  rw [e, Int32.add_sub_cancel]
theorem own_room3 {N a b : Nat} (h : a + b ≤ N) (hN : N < 2147483648) : ¬ (Int32.ofNat N - Int32.ofNat a) < Int32.ofNat b := by
  rw [own_ofsub (by omega), own_lti (by omega) (by omega)]; omega
def own_wx (M : Nat) (ds cs : List Int32) (i : Nat) : List Value := StrChars.Road.wideBytes (ds ++ cs.take i) ++ own_z (M - 2 * (ds.length + i))
theorem own_wx0 (M : Nat) (ds cs : List Int32) : own_wx M ds cs 0 = StrChars.Road.wideBytes ds ++ own_z (M - 2 * ds.length) := by simp [own_wx]
theorem own_wxn (M : Nat) (ds cs : List Int32) : own_wx M ds cs cs.length = StrChars.Road.wideBytes (ds ++ cs) ++ own_z (M - 2 * (ds ++ cs).length) := by simp [own_wx]
theorem own_wxl {M : Nat} {ds cs : List Int32} {i : Nat} (hi : i ≤ cs.length) (h : 2 * (ds.length + cs.length) ≤ M) : (own_wx M ds cs i).length = M := by
  unfold own_wx; rw [List.length_append, own_wl, own_zl, List.length_append, List.length_take]; omega
theorem own_wxs {M : Nat} {ds cs : List Int32} {i : Nat} (hi : i < cs.length) (h : 2 * (ds.length + cs.length) ≤ M) : ((own_wx M ds cs i).set (2 * (ds.length + i)) (.int (StrChars.lo8 (cs.getD i 0)))).set (2 * (ds.length + i) + 1) (.int (StrChars.hi8 (cs.getD i 0))) = own_wx M ds cs (i + 1) := by
  have e : cs.take (i + 1) = cs.take i ++ [cs.getD i 0] := by rw [List.take_succ_eq_append_getElem hi]; simp [List.getD_eq_getElem?_getD, hi]
  have l : (ds ++ cs.take i).length = ds.length + i := by rw [List.length_append, List.length_take]; omega
  unfold own_wx
  rw [e, ← List.append_assoc, show M - 2 * (ds.length + i) = (M - 2 * (ds.length + (i + 1))) + 2 by omega]
  have q := own_wext (xs := ds ++ cs.take i) (c := cs.getD i 0) (k := M - 2 * (ds.length + (i + 1)))
  rw [l] at q; exact q
theorem own_wx0' {M : Nat} {cs : List Int32} : own_wx M [] cs 0 = own_z M := by simp [own_wx, StrChars.Road.wideBytes]
theorem own_shl0 (x : Int32) : x <<< ((0 : Int32) &&& 31) = x := by
  apply Int32.toBitVec_inj.mp
  show x.toBitVec <<< ((((0 : Int32) &&& 31).toBitVec).smod 32#32) = x.toBitVec
  have e : (((0 : Int32) &&& 31).toBitVec).smod 32#32 = 0#32 := by decide
  rw [e]
  apply BitVec.eq_of_toNat_eq
  rw [BitVec.shiftLeft_eq', BitVec.toNat_shiftLeft, Nat.shiftLeft_eq]
  have := x.toBitVec.isLt
  show x.toBitVec.toNat * 1 % _ = _
  rw [Nat.mul_one, Nat.mod_eq_of_lt this]
theorem own_latr (ts : List Int32) : own_lat ts = (List.range ts.length).map fun i => (own_lat ts).getD (0 + i) (.int (0 : Int32)) := by
  apply List.ext_getElem
  · rw [List.length_map, List.length_range, own_latl]
  · intro i h1 h2
    rw [List.getElem_map, List.getElem_range, Nat.zero_add, List.getD_eq_getElem?_getD, List.getElem?_eq_getElem h1]; rfl
theorem own_ap0A {cs ts : List Int32} (h : cs.length + ts.length ≤ 16) : List.take cs.length (own_sb0 cs) ++ own_lat ts ++ List.drop (cs.length + ts.length) (own_sb0 cs) = own_sb0 (cs ++ ts) := by
  unfold own_sb0
  rw [List.take_append_of_le_length (by rw [own_latl]; exact Nat.le_refl _), List.take_of_length_le (by rw [own_latl]; exact Nat.le_refl _), List.drop_append, own_latl, List.drop_of_length_le (by rw [own_latl]; omega), List.nil_append, own_lata, List.length_append]
  congr 1
  unfold own_z
  rw [List.drop_replicate]
  congr 1; omega
theorem own_cpR {us : List Value} {n : Nat} (h : us.length = n) : List.take 0 (List.replicate n (Value.int (0 : Int32))) ++ us ++ List.drop (0 + n) (List.replicate n (Value.int (0 : Int32))) = us := by
  rw [List.take_zero, List.nil_append, Nat.zero_add, List.drop_of_length_le (by rw [List.length_replicate]; exact Nat.le_refl _), List.append_nil]
theorem own_ne16 {n : Nat} (h : n < 16) : ¬ Int32.ofNat n = (16 : Int32) := fun q => by
  have e := congrArg Int32.toInt q
  rw [own_ti (by omega)] at e
  have e2 : (16 : Int32).toInt = 16 := rfl
  omega
theorem own_ne32 {n : Nat} (h : n < 32) : ¬ Int32.ofNat n = (32 : Int32) := fun q => by
  have e := congrArg Int32.toInt q
  rw [own_ti (by omega)] at e
  have e2 : (32 : Int32).toInt = 32 := rfl
  omega
theorem own_codS {cd : Int32} {cs : List Int32} (h : own_cdi cd cs) : StrChars.Road.CodA cs cd (Int32.ofNat (if cd = 0 then cs.length else 2 * cs.length)) (if cd = 0 then own_lat cs else StrChars.Road.wideBytes cs) := by
  rcases h with ⟨rfl, ha⟩ | ⟨rfl, c, hc, q⟩
  · exact Or.inl ⟨rfl, rfl, rfl, ha⟩
  · exact Or.inr ⟨rfl, rfl, rfl, c, hc, q⟩
def own_sM (M : Nat) (cs : List Int32) : List Value := own_lat cs ++ own_z (M - cs.length)
def own_wM (M : Nat) (cs : List Int32) : List Value := StrChars.Road.wideBytes cs ++ own_z (2 * M - 2 * cs.length)
def own_zN (cd : Int32) (M : Nat) : Int32 := if cd = 0 then Int32.ofNat M else Int32.ofNat (2 * M)
def own_zV (cd : Int32) (M : Nat) (cs : List Int32) : List Value := if cd = 0 then own_sM M cs else own_wM M cs
theorem own_sMl {M : Nat} {cs : List Int32} (h : cs.length ≤ M) : (own_sM M cs).length = M := by unfold own_sM; rw [List.length_append, own_latl, own_zl]; omega
theorem own_wMl {M : Nat} {cs : List Int32} (h : cs.length ≤ M) : (own_wM M cs).length = 2 * M := by unfold own_wM; rw [List.length_append, own_wl, own_zl]; omega
theorem own_self {vs : List Value} {n : Nat} (h : vs.length = n) : vs = (List.range n).map fun i => vs.getD (0 + i) (.int (0 : Int32)) := by
  subst h
  apply List.ext_getElem
  · rw [List.length_map, List.length_range]
  · intro i h1 h2
    rw [List.getElem_map, List.getElem_range, Nat.zero_add, List.getD_eq_getElem?_getD, List.getElem?_eq_getElem h1]; rfl
theorem own_cpG {cs : List Int32} {M M' : Nat} (h : cs.length ≤ M) (h2 : M ≤ M') : List.take 0 (List.replicate M' (Value.int (0 : Int32))) ++ own_sM M cs ++ List.drop (0 + M) (List.replicate M' (Value.int (0 : Int32))) = own_sM M' cs := by
  unfold own_sM own_z
  rw [List.take_zero, List.nil_append, Nat.zero_add, List.drop_replicate, List.append_assoc, List.replicate_append_replicate, show M - cs.length + (M' - M) = M' - cs.length by omega]
theorem own_sMg {M : Nat} {cs : List Int32} {i : Nat} (h : i < cs.length) : (own_sM M cs).getD i (.int (0 : Int32)) = .int (StrChars.lo8 (cs.getD i 0)) := by
  unfold own_sM
  rw [List.getD_eq_getElem?_getD, List.getElem?_append_left (by rw [own_latl]; exact h)]
  simp [own_lat, List.getD_eq_getElem?_getD, h]
theorem own_takeM {M : Nat} {cs : List Int32} : own_lat cs = (List.range cs.length).map (fun i => (own_sM M cs).getD (0 + i) (.int (0 : Int32))) := by
  apply List.ext_getElem
  · rw [List.length_map, List.length_range, own_latl]
  · intro i h1 h2
    rw [List.getElem_map, List.getElem_range, Nat.zero_add]
    have hi : i < cs.length := by rw [own_latl] at h1; exact h1
    rw [own_sMg hi]; simp [own_lat, List.getD_eq_getElem?_getD, hi]
theorem own_takeW {M : Nat} {cs : List Int32} : StrChars.Road.wideBytes cs = (List.range (2 * cs.length)).map (fun i => (own_wM M cs).getD (0 + i) (.int (0 : Int32))) := by
  apply List.ext_getElem
  · rw [List.length_map, List.length_range, own_wl]
  · intro i h1 h2
    rw [List.getElem_map, List.getElem_range, Nat.zero_add]
    unfold own_wM
    rw [List.getD_eq_getElem?_getD, List.getElem?_append_left h1, List.getElem?_eq_getElem h1]; rfl
theorem own_widr (ts : List Int32) : StrChars.Road.wideBytes ts = (List.range (2 * ts.length)).map fun i => (StrChars.Road.wideBytes ts).getD (0 + i) (.int (0 : Int32)) := own_self (own_wl ts)
theorem own_apM {M : Nat} {cs ts : List Int32} (h : cs.length + ts.length ≤ M) : List.take cs.length (own_sM M cs) ++ own_lat ts ++ List.drop (cs.length + ts.length) (own_sM M cs) = own_sM M (cs ++ ts) := by
  unfold own_sM
  rw [List.take_append_of_le_length (by rw [own_latl]; exact Nat.le_refl _), List.take_of_length_le (by rw [own_latl]; exact Nat.le_refl _), List.drop_append, own_latl, List.drop_of_length_le (by rw [own_latl]; omega), List.nil_append, own_lata, List.length_append]
  congr 1
  unfold own_z
  rw [List.drop_replicate]
  congr 1; omega
theorem own_apW {M : Nat} {cs ts : List Int32} (h : cs.length + ts.length ≤ M) : List.take (2 * cs.length) (own_wM M cs) ++ StrChars.Road.wideBytes ts ++ List.drop (2 * cs.length + 2 * ts.length) (own_wM M cs) = own_wM M (cs ++ ts) := by
  unfold own_wM
  rw [List.take_append_of_le_length (by rw [own_wl]; exact Nat.le_refl _), List.take_of_length_le (by rw [own_wl]; exact Nat.le_refl _), List.drop_append, own_wl, List.drop_of_length_le (by rw [own_wl]; omega), List.nil_append, own_wa, List.length_append]
  congr 1
  unfold own_z
  rw [List.drop_replicate]
  congr 1; omega
theorem own_g16 {n : Nat} (h : 16 < n) (h2 : n ≤ 34) : (0 : Int32) < Int32.ofNat n - (16 : Int32) := by
  have t : ∀ k : Fin 35, 16 < k.val → (0 : Int32) < Int32.ofNat k.val - (16 : Int32) := by decide
  exact t ⟨n, by omega⟩ h
theorem own_m16 {n : Nat} (h : 16 < n) (h2 : n ≤ 34) : (18 : Int32) = if Int32.ofNat n - (16 : Int32) < (18 : Int32) then (18 : Int32) else Int32.ofNat n - (16 : Int32) := by
  have t : ∀ k : Fin 35, 16 < k.val → (18 : Int32) = if Int32.ofNat k.val - (16 : Int32) < (18 : Int32) then (18 : Int32) else Int32.ofNat k.val - (16 : Int32) := by decide
  exact t ⟨n, by omega⟩ h
theorem own_eqN {a b : Nat} (h : Int32.ofNat a = Int32.ofNat b) (ha : a < 2147483648) (hb : b < 2147483648) : a = b := by
  have e := congrArg Int32.toInt h
  rw [own_ti ha, own_ti hb] at e; omega
theorem own_cdW {cs ts : List Int32} (h : ∃ c ∈ ts, (255 : Int32) < c) : own_cdi 1 (cs ++ ts) := by
  obtain ⟨c, hc, q⟩ := h
  exact Or.inr ⟨rfl, c, List.mem_append.mpr (Or.inr hc), q⟩
def QNewE (Z : State) (N : Int32) (vs : List Value) (h0 : Heap) (n0 : Nat) (v : Option Value) (h : Heap) (L : List Loc) : Prop := ∃ (t : Addr) (k : ClassId), v = some (.ref t) ∧ Fr n0 L ∧ Keep h0 h [] ∧ h0.size ≤ t ∧ Arv Z h t k .byte N vs (.int (0 : Int32)) ∧ Exa Z h t "[B"
theorem own_lgd2 {cs : List Int32} {i : Nat} (h : i < cs.length) : (own_lat cs).getD i (.int (0 : Int32)) = .int (StrChars.lo8 (cs.getD i 0)) := by simp [own_lat, List.getD_eq_getElem?_getD, h]
theorem own_cdiA {cd : Int32} {cs ts : List Int32} (h : own_cdi cd cs) (q : ∀ c ∈ ts, ¬ (255 : Int32) < c) : own_cdi cd (cs ++ ts) := by
  rcases h with ⟨rfl, ha⟩ | ⟨rfl, hx⟩
  · exact own_cdi3 ha q
  · exact own_cdi2 hx
theorem own_getm {cs : List Int32} {r : Nat} (h : r < cs.length) : cs.getD r 0 ∈ cs := by
  rw [show cs.getD r 0 = cs[r] by simp [List.getD_eq_getElem?_getD, h]]; exact List.getElem_mem _
abbrev k29_69 := jdk_29_method_69_code
theorem d29_69_0:Dk k29_69 0 (.iload_n 0) 1:=kk
theorem d29_69_1:Dk k29_69 1 (.iload_n 1) 1:=kk
theorem d29_69_2:Dk k29_69 2 (.if_icmp .gt 7) 3:=kk
theorem d29_69_9:Dk k29_69 9 (.iload_n 1) 1:=kk
theorem d29_69_10:Dk k29_69 10 (.ireturn) 1:=kk
theorem d29_69_5:Dk k29_69 5 (.iload_n 0) 1:=kk
theorem d29_69_6:Dk k29_69 6 (.goto 4) 3:=kk
set_option maxRecDepth 65536 in
set_option maxHeartbeats 40000000 in
theorem rm_min (l : Launch) (Z : State) (a0 : Array Value) (hw : ∀ d ∈ tables_1, d.before a0 Z = true) (ws : List Jvm.Cond) (p1 p2 r : Int32) (h0 : Heap) (n0 : Nat) (O0 : Old Z n0 h0) (hr0 : r = if p2 < p1 then p2 else p1) :
    own_TN l Z ws h0 (⟨"java/lang/Math", "min", "(II)I"⟩ : MethodName) jdk_29_method_69_code 2 (some .int) ⟨0, 0, 0, 0⟩ #[(.int p1), (.int p2)] (QPure (some (.int r)) h0 n0) 0 0 := by
  refine own_bN "java/lang/Math" #[iv p1, iv p2] (Jvm.Free.JP.mathPlain rfl (by decide +kernel)) rfl O0 (fun m => own_e) ?_
  intro p e s m below meth cC s₁ hZ hh hx hby hml hown hnm hrt hlk X0 e0 N0 Z0
  refine wl X0 hx hby 0 d29_69_0 rfl ?_
  refine wl X0 hx hby 1 d29_69_1 rfl ?_
  by_cases hc1 : p2 < p1
  · skip
    refine wy X0 hx hby 2 9 d29_69_2 (tlt hc1).2.2.1 ?_
    refine wl X0 hx hby 9 d29_69_9 rfl ?_
    try dsimp only [mkF]
    refine own_fin (v := (some (.int p2))) X0 (fun h => by rw [hrt] at h; cases h) hlk (fun fs hr => retI X0 hx hrt (hb hby d29_69_10) hr) (QQ := QPure (some (.int r)) h0 n0) ?_ (by decide) (by decide)
    rw [e0]
    exact ⟨by rw [hr0, if_pos hc1], N0, rfl⟩
  · skip
    refine wn X0 hx hby 2 d29_69_2 (flt hc1).2.2.1 ?_
    refine wl X0 hx hby 5 d29_69_5 rfl ?_
    try dsimp only [mkF]
    refine wg X0 hx hby 6 10 d29_69_6 ?_
    refine own_fin (v := (some (.int p1))) X0 (fun h => by rw [hrt] at h; cases h) hlk (fun fs hr => retI X0 hx hrt (hb hby d29_69_10) hr) (QQ := QPure (some (.int r)) h0 n0) ?_ (by decide) (by decide)
    rw [e0]
    exact ⟨by rw [hr0, if_neg hc1], N0, rfl⟩

abbrev k29_65 := jdk_29_method_65_code
theorem d29_65_0:Dk k29_65 0 (.iload_n 0) 1:=kk
theorem d29_65_1:Dk k29_65 1 (.iload_n 1) 1:=kk
theorem d29_65_2:Dk k29_65 2 (.if_icmp .lt 7) 3:=kk
theorem d29_65_9:Dk k29_65 9 (.iload_n 1) 1:=kk
theorem d29_65_10:Dk k29_65 10 (.ireturn) 1:=kk
theorem d29_65_5:Dk k29_65 5 (.iload_n 0) 1:=kk
theorem d29_65_6:Dk k29_65 6 (.goto 4) 3:=kk
set_option maxRecDepth 65536 in
set_option maxHeartbeats 40000000 in
theorem rm_max (l : Launch) (Z : State) (a0 : Array Value) (hw : ∀ d ∈ tables_1, d.before a0 Z = true) (ws : List Jvm.Cond) (p1 p2 r : Int32) (h0 : Heap) (n0 : Nat) (O0 : Old Z n0 h0) (hr0 : r = if p1 < p2 then p2 else p1) :
    own_TN l Z ws h0 (⟨"java/lang/Math", "max", "(II)I"⟩ : MethodName) jdk_29_method_65_code 2 (some .int) ⟨0, 0, 0, 0⟩ #[(.int p1), (.int p2)] (QPure (some (.int r)) h0 n0) 0 0 := by
  refine own_bN "java/lang/Math" #[iv p1, iv p2] (Jvm.Free.JP.mathPlain rfl (by decide +kernel)) rfl O0 (fun m => own_e) ?_
  intro p e s m below meth cC s₁ hZ hh hx hby hml hown hnm hrt hlk X0 e0 N0 Z0
  refine wl X0 hx hby 0 d29_65_0 rfl ?_
  refine wl X0 hx hby 1 d29_65_1 rfl ?_
  by_cases hc2 : p1 < p2
  · skip
    refine wy X0 hx hby 2 9 d29_65_2 (tlt hc2).1 ?_
    refine wl X0 hx hby 9 d29_65_9 rfl ?_
    try dsimp only [mkF]
    refine own_fin (v := (some (.int p2))) X0 (fun h => by rw [hrt] at h; cases h) hlk (fun fs hr => retI X0 hx hrt (hb hby d29_65_10) hr) (QQ := QPure (some (.int r)) h0 n0) ?_ (by decide) (by decide)
    rw [e0]
    exact ⟨by rw [hr0, if_pos hc2], N0, rfl⟩
  · skip
    refine wn X0 hx hby 2 d29_65_2 (flt hc2).1 ?_
    refine wl X0 hx hby 5 d29_65_5 rfl ?_
    try dsimp only [mkF]
    refine wg X0 hx hby 6 10 d29_65_6 ?_
    refine own_fin (v := (some (.int p1))) X0 (fun h => by rw [hrt] at h; cases h) hlk (fun fs hr => retI X0 hx hrt (hb hby d29_65_10) hr) (QQ := QPure (some (.int r)) h0 n0) ?_ (by decide) (by decide)
    rw [e0]
    exact ⟨by rw [hr0, if_neg hc2], N0, rfl⟩

def QNewSB (Z : State) (b : Addr) (h0 : Heap) (n0 : Nat) (r : Option Value) (h : Heap) (L : List Loc) : Prop := ∃ (v : Addr) (kv : ClassId), r = none ∧ Fr n0 L ∧ Keep h0 h [b] ∧ h0.size ≤ v ∧ Fld Z h b "java/lang/AbstractStringBuilder" "value" "[B" (.ref v) ∧ Fld Z h b "java/lang/AbstractStringBuilder" "coder" "B" (.int (0 : Int32)) ∧ Fld Z h b "java/lang/AbstractStringBuilder" "count" "I" (.int (Int32.ofNat ([] : List Int32).length)) ∧ Arv Z h v kv .byte (Int32.ofNat 16) (own_sM 16 []) (.int (0 : Int32)) ∧ Exa Z h v "[B"
theorem own_ok0 : own_Ok ([] : List Int32) := ⟨fun c hc => (nomatch hc), Nat.zero_le _⟩
abbrev k68_2 := jdk_68_method_2_code
theorem d68_2_0:Dk k68_2 0 (.aload_n 0) 1:=kk
theorem d68_2_1:Dk k68_2 1 (.invokespecial 3) 3:=kk
theorem d68_2_4:Dk k68_2 4 (.getstatic 18) 3:=kk
theorem d68_2_7:Dk k68_2 7 (.ifCond .eq 18) 3:=kk
theorem d68_2_10:Dk k68_2 10 (.aload_n 0) 1:=kk
theorem d68_2_11:Dk k68_2 11 (.iload_n 1) 1:=kk
theorem d68_2_12:Dk k68_2 12 (.newarray .byte) 2:=kk
theorem d68_2_14:Dk k68_2 14 (.putfield 15) 3:=kk
theorem d68_2_17:Dk k68_2 17 (.aload_n 0) 1:=kk
theorem d68_2_18:Dk k68_2 18 (.iconst 0) 1:=kk
theorem d68_2_19:Dk k68_2 19 (.putfield 22) 3:=kk
theorem d68_2_22:Dk k68_2 22 (.goto 16) 3:=kk
theorem d68_2_38:Dk k68_2 38 (.return_) 1:=kk
theorem pn_0 : plainName "java/lang/AbstractStringBuilder" = true := by first | (simp [plainName, overriddenIn]; done) | decide +kernel
set_option maxRecDepth 65536 in
set_option maxHeartbeats 40000000 in
theorem rm_asb (l : Launch) (Z : State) (a0 : Array Value) (hw : ∀ d ∈ tables_1, d.before a0 Z = true) (ws : List Jvm.Cond) (b : Addr) (G1 : Int32) (h0 : Heap) (n0 : Nat) (O0 : Old Z n0 h0) (E_b : Exa Z h0 b "java/lang/StringBuilder") (Fv_b : Fld Z h0 b "java/lang/AbstractStringBuilder" "value" "[B" .null) (Fc_b : Fld Z h0 b "java/lang/AbstractStringBuilder" "coder" "B" (.int (0 : Int32))) (Fn_b : Fld Z h0 b "java/lang/AbstractStringBuilder" "count" "I" (.int (0 : Int32))) (g_b : n0 ≤ b) (O2 : Sta Z Z.heap "java/lang/String" "COMPACT_STRINGS" "Z" (.int G1)) (P5 : ¬ (G1 = (0 : Int32))) :
    own_TN l Z ws h0 (⟨"java/lang/AbstractStringBuilder", "<init>", "(I)V"⟩ : MethodName) jdk_68_method_2_code 2 none ⟨1, 1, 16, 12⟩ #[(.ref b), (.int (16 : Int32))] (QNewSB Z b h0 n0) 1 16 := by
  refine own_bN "java/lang/AbstractStringBuilder" #[rv b, iv (16 : Int32)] (pf pn_0 rfl) rfl O0 (fun m => own_e) ?_
  intro p e s m below meth cC s₁ hZ hh hx hby hml hown hnm hrt hlk X0 e0 N0 Z0
  refine wa X0 hx hby 0 d68_2_0 rfl rfl ?_
  obtain ⟨T3, X3, e3, st3⟩ := initO X0 hx hZ hown (tw hw 48 rfl) (tw hw 21 rfl) (tw hw 22 rfl) e0 (g := (mkF m 1 #[rv b, iv (16 : Int32)] [(.ref b)])) rfl (by rw [hml]; rfl) rfl (hb hby d68_2_1) (by decide) (W := 0) (by show 2 * 0 + _ ≤ _; exact Nat.le_of_eq rfl) (by decide)
  refine own_go st3 ?_
  obtain ⟨T4, X4, e4, st4⟩ := getS2 X3 hx hZ hown (host := "") (Or.inl (tw hw 49 rfl)) Via.refl e3 (O2.ext O0.2) (g := (mkF m 4 #[rv b, iv (16 : Int32)] [])) rfl (hb hby d68_2_4)
  refine own_go st4 ?_
  refine we X4 hx hby 7 d68_2_7 ((if0 _ _).trans (feq P5).1) ?_
  try dsimp only [mkF]
  refine wa X4 hx hby 10 d68_2_10 rfl rfl ?_
  refine wl X4 hx hby 11 d68_2_11 rfl ?_
  obtain ⟨T5, h5, k5, X5, e5, E5, A5, Q5, st5⟩ := newPE X4 hx hZ (tw hw 24 rfl) e4 (g := (mkF m 12 #[rv b, iv (16 : Int32)] [(.int (16 : Int32)), (.ref b)])) rfl (hb hby d68_2_12) rfl (by decide) (cap := 16) (by decide) (by decide) (by decide) (by decide) rfl
  obtain ⟨b5, g5⟩ : ∃ z, z = h0.size := ⟨_, rfl⟩
  rw [← g5] at A5 Q5 st5
  refine own_go st5 ?_
  have V5 : Arv Z h5 b5 k5 .byte (16 : Int32) [(.int (0 : Int32)), (.int (0 : Int32)), (.int (0 : Int32)), (.int (0 : Int32)), (.int (0 : Int32)), (.int (0 : Int32)), (.int (0 : Int32)), (.int (0 : Int32)), (.int (0 : Int32)), (.int (0 : Int32)), (.int (0 : Int32)), (.int (0 : Int32)), (.int (0 : Int32)), (.int (0 : Int32)), (.int (0 : Int32)), (.int (0 : Int32))] (.int (0 : Int32)) := (Arv.new A5 (by decide)).pad (pad_rep [] (.int (0 : Int32)) 16)
  obtain ⟨T6, h6, X6, e6, W6, st6⟩ := putF X5 hx hZ hown (host := "") (Or.inl (tw hw 50 rfl)) Via.refl e5 (Fv_b.ext E5) (E_b.ext E5) (Or.inl (tw hw 51 rfl)) (tw hw 37 rfl) (ty := (.array .byte)) (by decide) rfl rfl (g := (mkF m 14 #[rv b, iv (16 : Int32)] [(.ref b5), (.ref b)])) rfl rfl (hb hby d68_2_14)
  refine own_go st6 ?_
  have N6 := Fr.snoc X6 N0 g_b
  have Fw6 := (Fv_b.ext E5).same W6
  refine wa X6 hx hby 17 d68_2_17 rfl rfl ?_
  try dsimp only [mkF]
  refine wc X6 hx hby 18 d68_2_18 ?_
  have f7 := ((Fc_b.ext E5).other W6 (Or.inr (slot_ne (Or.inl (tw hw 53 rfl)) (Or.inl (tw hw 51 rfl)) (by decide) (t := .byte) (t' := (.array .byte)) (by decide) (by decide))))
  obtain ⟨T8, h8, X8, e8, W8, st8⟩ := putFN X6 hx hZ hown (tw hw 52 rfl) Via.refl e6 f7 ((E_b.ext E5).wr W6) (Or.inl (tw hw 53 rfl)) (tw hw 37 rfl) (ty := .byte) (v' := (.int (0 : Int32))) (by decide) rfl rfl (g := (mkF m 19 #[rv b, iv (16 : Int32)] [(.int (0 : Int32)), (.ref b)])) rfl rfl (hb hby d68_2_19)
  refine own_go st8 ?_
  have N8 := Fr.snoc X8 N6 g_b
  have Fw8 := f7.same W8
  refine wg X8 hx hby 22 38 d68_2_22 ?_
  have f9 := ((((Keep.refl h0 [b]).ext E5).wr W6 (Or.inl (List.mem_of_getElem? (i := 0) rfl))).wr W8 (Or.inl (List.mem_of_getElem? (i := 0) rfl)))
  have f10 := (Fw6.other W8 (Or.inr (slot_ne (Or.inl (tw hw 51 rfl)) (Or.inl (tw hw 53 rfl)) (by decide) (t := (.array .byte)) (t' := .byte) (by decide) (by decide))))
  have f11 := (((Fn_b.ext E5).other W6 (Or.inr (slot_ne (Or.inl (tw hw 81 rfl)) (Or.inl (tw hw 51 rfl)) (by decide) (t := .int) (t' := (.array .byte)) (by decide) (by decide)))).other W8 (Or.inr (slot_ne (Or.inl (tw hw 81 rfl)) (Or.inl (tw hw 53 rfl)) (by decide) (t := .int) (t' := .byte) (by decide) (by decide))))
  have ne12 : b ≠ b5 := Nat.ne_of_lt (Nat.lt_of_lt_of_le E_b.lt (Nat.le_of_eq g5.symm))
  have f13 := ((V5.other W6 (Ne.symm ne12)).other W8 (Ne.symm ne12))
  refine own_fin (v := none) X8 (fun _ => rfl) hlk (fun fs hr => X8.returnOut hx hrt (hb hby d68_2_38) hr) (QQ := QNewSB Z b h0 n0) ?_ (by decide) (by decide)
  rw [e8]
  exact ⟨b5, _, rfl, N8, f9, (Nat.le_of_eq g5.symm), f10, Fw8, f11, f13, ((Q5.wr W6).wr W8)⟩

abbrev k67_1 := jdk_67_method_1_code
theorem d67_1_0:Dk k67_1 0 (.aload_n 0) 1:=kk
theorem d67_1_1:Dk k67_1 1 (.bipush 16) 2:=kk
theorem d67_1_3:Dk k67_1 3 (.invokespecial 1) 3:=kk
theorem pd_0 : parseMethodDescriptor "(I)V" = some ⟨[.int], none⟩ := by decide +kernel
theorem d67_1_6:Dk k67_1 6 (.return_) 1:=kk
theorem pn_1 : plainName "java/lang/StringBuilder" = true := by first | (simp [plainName, overriddenIn]; done) | decide +kernel
set_option maxRecDepth 65536 in
set_option maxHeartbeats 40000000 in
theorem rm_sb (l : Launch) (Z : State) (a0 : Array Value) (hw : ∀ d ∈ tables_1, d.before a0 Z = true) (ws : List Jvm.Cond) (b : Addr) (G1 : Int32) (h0 : Heap) (n0 : Nat) (O0 : Old Z n0 h0) (E_b : Exa Z h0 b "java/lang/StringBuilder") (Fv_b : Fld Z h0 b "java/lang/AbstractStringBuilder" "value" "[B" .null) (Fc_b : Fld Z h0 b "java/lang/AbstractStringBuilder" "coder" "B" (.int (0 : Int32))) (Fn_b : Fld Z h0 b "java/lang/AbstractStringBuilder" "count" "I" (.int (0 : Int32))) (g_b : n0 ≤ b) (O2 : Sta Z Z.heap "java/lang/String" "COMPACT_STRINGS" "Z" (.int G1)) (P5 : ¬ (G1 = (0 : Int32))) :
    own_TN l Z ws h0 (⟨"java/lang/StringBuilder", "<init>", "()V"⟩ : MethodName) jdk_67_method_1_code 1 none ⟨2, 1, 16, 25⟩ #[(.ref b)] (QNewSB Z b h0 n0) 1 16 := by
  refine own_bN "java/lang/StringBuilder" #[rv b] (pf pn_1 rfl) rfl O0 (fun m => own_e) ?_
  intro p e s m below meth cC s₁ hZ hh hx hby hml hown hnm hrt hlk X0 e0 N0 Z0
  refine wa X0 hx hby 0 d67_1_0 rfl rfl ?_
  refine wp X0 hx hby 1 d67_1_1 ?_
  obtain ⟨v14, _, ⟨T14, L14, k14, n14⟩, -, X14, ⟨Lc14, hQ14, l14, y14, z14⟩, st14⟩ := X0.specialBack hx (y := (⟨"java/lang/AbstractStringBuilder", "<init>", "(I)V"⟩ : MethodName)) rfl hown (mvT hZ (tw hw 42 rfl)) (mvT hZ (tw hw 43 rfl)) (mvT hZ (tw hw 47 rfl)) (by decide) (backOf (W := 0) (rm_asb l Z a0 hw [] b G1 h0 n0 O0 E_b Fv_b Fc_b Fn_b g_b O2 P5) hZ (tw hw 47 rfl) (tw hw 46 rfl) (by decide) (by decide)) (g := (mkF m 3 #[rv b] [(.int (16 : Int32)), (.ref b)])) rfl (by rw [hml]; rfl) (Steps.refl _) (a := b) (argsL := [(.int (16 : Int32))]) (rest := []) (lenOf pd_0 rfl) rfl (by show 2 * 0 + _ ≤ _; exact Nat.le_of_eq rfl) (hb hby d67_1_3) (fun _ _ => ⟨rfl, e0, (by decide : 0 + 1 ≤ _), (by decide : 0 + 16 ≤ _)⟩)
  dsimp only [Pt.U, Pt.locs, Pt.cells, Pt.slots] at X14 l14 y14 z14 st14 hQ14
  subst l14 y14 z14
  refine own_gos st14 ?_
  obtain ⟨v14, kv14, rfl, Nq14, K14, vg14, Fv14, Fc14, Fn14, Vv14, Xv14⟩ := hQ14
  have N14 := Fr.app N0 Nq14
  have f15 := ((Keep.refl h0 [b]).trans K14 (allS (Or.inl (List.mem_of_getElem? (i := 0) rfl)) all0))
  refine own_fin (v := none) X14 (fun _ => rfl) hlk (fun fs hr => X14.returnOut hx hrt (hb hby d67_1_6) hr) (QQ := QNewSB Z b h0 n0) ?_ (by decide) (by decide)
  exact ⟨v14, _, rfl, N14, f15, vg14, Fv14, Fc14, Fn14, Vv14, Xv14⟩

abbrev k68_68 := jdk_68_method_68_code
theorem d68_68_0:Dk k68_68 0 (.getstatic 18) 3:=kk
theorem d68_68_3:Dk k68_68 3 (.ifCond .eq 14) 3:=kk
theorem d68_68_6:Dk k68_68 6 (.aload_n 0) 1:=kk
theorem d68_68_7:Dk k68_68 7 (.getfield 22) 3:=kk
theorem d68_68_10:Dk k68_68 10 (.ifCond .ne 7) 3:=kk
theorem d68_68_13:Dk k68_68 13 (.iconst 1) 1:=kk
theorem d68_68_14:Dk k68_68 14 (.goto 4) 3:=kk
theorem d68_68_18:Dk k68_68 18 (.ireturn) 1:=kk
set_option maxRecDepth 65536 in
set_option maxHeartbeats 40000000 in
theorem rm_bl0 (l : Launch) (Z : State) (a0 : Array Value) (hw : ∀ d ∈ tables_1, d.before a0 Z = true) (ws : List Jvm.Cond) (b : Addr) (G1 : Int32) (h0 : Heap) (n0 : Nat) (O0 : Old Z n0 h0) (E_b : Exa Z h0 b "java/lang/StringBuilder") (F_c : Fld Z h0 b "java/lang/AbstractStringBuilder" "coder" "B" (.int (0 : Int32))) (O2 : Sta Z Z.heap "java/lang/String" "COMPACT_STRINGS" "Z" (.int G1)) (P5 : ¬ (G1 = (0 : Int32))) :
    own_TN l Z ws h0 (⟨"java/lang/AbstractStringBuilder", "isLatin1", "()Z"⟩ : MethodName) jdk_68_method_68_code 1 (some .boolean) ⟨0, 0, 0, 0⟩ #[(.ref b)] (QPure (some (.int (1 : Int32))) h0 n0) 0 0 := by
  refine own_bN "java/lang/AbstractStringBuilder" #[rv b] (pf pn_0 rfl) rfl O0 (fun m => own_e) ?_
  intro p e s m below meth cC s₁ hZ hh hx hby hml hown hnm hrt hlk X0 e0 N0 Z0
  obtain ⟨T16, X16, e16, st16⟩ := getS2 X0 hx hZ hown (host := "") (Or.inl (tw hw 49 rfl)) Via.refl e0 (O2.ext O0.2) (g := (mkF m 0 #[rv b] [])) rfl (hb hby d68_68_0)
  refine own_go st16 ?_
  refine we X16 hx hby 3 d68_68_3 ((if0 _ _).trans (feq P5).1) ?_
  refine wa X16 hx hby 6 d68_68_6 rfl rfl ?_
  obtain ⟨T17, X17, e17, st17⟩ := getF X16 hx hZ hown (host := "") (Or.inl (tw hw 52 rfl)) Via.refl e16 F_c (g := (mkF m 7 #[rv b] [(.ref b)])) rfl rfl (hb hby d68_68_7)
  refine own_go st17 ?_
  try dsimp only [mkF]
  refine we X17 hx hby 10 d68_68_10 ((if0 _ _).trans (teq (by decide : (0 : Int32) = (0 : Int32))).2) ?_
  refine wc X17 hx hby 13 d68_68_13 ?_
  refine wg X17 hx hby 14 18 d68_68_14 ?_
  refine own_fin (v := (some (.int (nar .boolean (1 : Int32))))) X17 (fun h => by rw [hrt] at h; cases h) hlk (fun fs hr => retN X17 hx (t := .boolean) hrt (by simp) (hb hby d68_68_18) hr) (QQ := QPure (some (.int (1 : Int32))) h0 n0) ?_ (by decide) (by decide)
  rw [e17]
  exact ⟨rfl, N0, rfl⟩

theorem d68_68_17:Dk k68_68 17 (.iconst 0) 1:=kk
set_option maxRecDepth 65536 in
set_option maxHeartbeats 40000000 in
theorem rm_bl1 (l : Launch) (Z : State) (a0 : Array Value) (hw : ∀ d ∈ tables_1, d.before a0 Z = true) (ws : List Jvm.Cond) (b : Addr) (G1 : Int32) (h0 : Heap) (n0 : Nat) (O0 : Old Z n0 h0) (E_b : Exa Z h0 b "java/lang/StringBuilder") (F_c : Fld Z h0 b "java/lang/AbstractStringBuilder" "coder" "B" (.int (1 : Int32))) (O2 : Sta Z Z.heap "java/lang/String" "COMPACT_STRINGS" "Z" (.int G1)) (P5 : ¬ (G1 = (0 : Int32))) :
    own_TN l Z ws h0 (⟨"java/lang/AbstractStringBuilder", "isLatin1", "()Z"⟩ : MethodName) jdk_68_method_68_code 1 (some .boolean) ⟨0, 0, 0, 0⟩ #[(.ref b)] (QPure (some (.int (0 : Int32))) h0 n0) 0 0 := by
  refine own_bN "java/lang/AbstractStringBuilder" #[rv b] (pf pn_0 rfl) rfl O0 (fun m => own_e) ?_
  intro p e s m below meth cC s₁ hZ hh hx hby hml hown hnm hrt hlk X0 e0 N0 Z0
  obtain ⟨T18, X18, e18, st18⟩ := getS2 X0 hx hZ hown (host := "") (Or.inl (tw hw 49 rfl)) Via.refl e0 (O2.ext O0.2) (g := (mkF m 0 #[rv b] [])) rfl (hb hby d68_68_0)
  refine own_go st18 ?_
  refine we X18 hx hby 3 d68_68_3 ((if0 _ _).trans (feq P5).1) ?_
  refine wa X18 hx hby 6 d68_68_6 rfl rfl ?_
  obtain ⟨T19, X19, e19, st19⟩ := getF X18 hx hZ hown (host := "") (Or.inl (tw hw 52 rfl)) Via.refl e18 F_c (g := (mkF m 7 #[rv b] [(.ref b)])) rfl rfl (hb hby d68_68_7)
  refine own_go st19 ?_
  try dsimp only [mkF]
  refine wf X19 hx hby 10 17 d68_68_10 ((if0 _ _).trans (feq (by decide : ¬ ((1 : Int32) = (0 : Int32)))).2) ?_
  refine wc X19 hx hby 17 d68_68_17 ?_
  refine own_fin (v := (some (.int (nar .boolean (0 : Int32))))) X19 (fun h => by rw [hrt] at h; cases h) hlk (fun fs hr => retN X19 hx (t := .boolean) hrt (by simp) (hb hby d68_68_18) hr) (QQ := QPure (some (.int (0 : Int32))) h0 n0) ?_ (by decide) (by decide)
  rw [e19]
  exact ⟨rfl, N0, rfl⟩

abbrev k68_64 := jdk_68_method_64_code
theorem d68_64_0:Dk k68_64 0 (.aload_n 0) 1:=kk
theorem d68_64_1:Dk k68_64 1 (.getfield 15) 3:=kk
theorem d68_64_4:Dk k68_64 4 (.areturn) 1:=kk
set_option maxRecDepth 65536 in
set_option maxHeartbeats 40000000 in
theorem rm_gv (l : Launch) (Z : State) (a0 : Array Value) (hw : ∀ d ∈ tables_1, d.before a0 Z = true) (ws : List Jvm.Cond) (b v : Addr) (h0 : Heap) (n0 : Nat) (O0 : Old Z n0 h0) (E_b : Exa Z h0 b "java/lang/StringBuilder") (F_v : Fld Z h0 b "java/lang/AbstractStringBuilder" "value" "[B" (.ref v)) :
    own_TN l Z ws h0 (⟨"java/lang/AbstractStringBuilder", "getValue", "()[B"⟩ : MethodName) jdk_68_method_64_code 1 (some (.array .byte)) ⟨0, 0, 0, 0⟩ #[(.ref b)] (QPure (some (.ref v)) h0 n0) 0 0 := by
  refine own_bN "java/lang/AbstractStringBuilder" #[rv b] (pf pn_0 rfl) rfl O0 (fun m => own_e) ?_
  intro p e s m below meth cC s₁ hZ hh hx hby hml hown hnm hrt hlk X0 e0 N0 Z0
  refine wa X0 hx hby 0 d68_64_0 rfl rfl ?_
  obtain ⟨T20, X20, e20, st20⟩ := getF X0 hx hZ hown (host := "") (Or.inl (tw hw 50 rfl)) Via.refl e0 F_v (g := (mkF m 1 #[rv b] [(.ref b)])) rfl rfl (hb hby d68_64_1)
  refine own_go st20 ?_
  refine own_fin (v := (some (.ref v))) X20 (fun h => by rw [hrt] at h; cases h) hlk (fun fs hr => retR X20 hx hrt (by rfl) rfl rfl (hb hby d68_64_4) hr) (QQ := QPure (some (.ref v)) h0 n0) ?_ (by decide) (by decide)
  rw [e20]
  exact ⟨rfl, N0, rfl⟩

abbrev k68_6 := jdk_68_method_6_code
theorem d68_6_0:Dk k68_6 0 (.aload_n 0) 1:=kk
theorem d68_6_1:Dk k68_6 1 (.getfield 79) 3:=kk
theorem d68_6_4:Dk k68_6 4 (.ireturn) 1:=kk
set_option maxRecDepth 65536 in
set_option maxHeartbeats 40000000 in
theorem rm_al (l : Launch) (Z : State) (a0 : Array Value) (hw : ∀ d ∈ tables_1, d.before a0 Z = true) (ws : List Jvm.Cond) (b : Addr) (mm : Int32) (h0 : Heap) (n0 : Nat) (O0 : Old Z n0 h0) (E_b : Exa Z h0 b "java/lang/StringBuilder") (F_n : Fld Z h0 b "java/lang/AbstractStringBuilder" "count" "I" (.int mm)) :
    own_TN l Z ws h0 (⟨"java/lang/AbstractStringBuilder", "length", "()I"⟩ : MethodName) jdk_68_method_6_code 1 (some .int) ⟨0, 0, 0, 0⟩ #[(.ref b)] (QPure (some (.int mm)) h0 n0) 0 0 := by
  refine own_bN "java/lang/AbstractStringBuilder" #[rv b] (pf pn_0 rfl) rfl O0 (fun m => own_e) ?_
  intro p e s m below meth cC s₁ hZ hh hx hby hml hown hnm hrt hlk X0 e0 N0 Z0
  refine wa X0 hx hby 0 d68_6_0 rfl rfl ?_
  obtain ⟨T21, X21, e21, st21⟩ := getF X0 hx hZ hown (host := "") (Or.inl (tw hw 80 rfl)) Via.refl e0 F_n (g := (mkF m 1 #[rv b] [(.ref b)])) rfl rfl (hb hby d68_6_1)
  refine own_go st21 ?_
  refine own_fin (v := (some (.int mm))) X21 (fun h => by rw [hrt] at h; cases h) hlk (fun fs hr => retI X21 hx hrt (hb hby d68_6_4) hr) (QQ := QPure (some (.int mm)) h0 n0) ?_ (by decide) (by decide)
  rw [e21]
  exact ⟨rfl, N0, rfl⟩

abbrev k67_93 := jdk_67_method_93_code
theorem d67_93_0:Dk k67_93 0 (.aload_n 0) 1:=kk
theorem d67_93_1:Dk k67_93 1 (.invokespecial 343) 3:=kk
theorem pd_1 : parseMethodDescriptor "()I" = some ⟨[], some .int⟩ := by decide +kernel
theorem d67_93_4:Dk k67_93 4 (.ireturn) 1:=kk
set_option maxRecDepth 65536 in
set_option maxHeartbeats 40000000 in
theorem rm_sl (l : Launch) (Z : State) (a0 : Array Value) (hw : ∀ d ∈ tables_1, d.before a0 Z = true) (ws : List Jvm.Cond) (b : Addr) (mm : Int32) (h0 : Heap) (n0 : Nat) (O0 : Old Z n0 h0) (E_b : Exa Z h0 b "java/lang/StringBuilder") (F_n : Fld Z h0 b "java/lang/AbstractStringBuilder" "count" "I" (.int mm)) :
    own_TN l Z ws h0 (⟨"java/lang/StringBuilder", "length", "()I"⟩ : MethodName) jdk_67_method_93_code 1 (some .int) ⟨1, 0, 0, 12⟩ #[(.ref b)] (QPure (some (.int mm)) h0 n0) 0 0 := by
  refine own_bN "java/lang/StringBuilder" #[rv b] (pf pn_1 rfl) rfl O0 (fun m => own_e) ?_
  intro p e s m below meth cC s₁ hZ hh hx hby hml hown hnm hrt hlk X0 e0 N0 Z0
  refine wa X0 hx hby 0 d67_93_0 rfl rfl ?_
  obtain ⟨v22, _, ⟨T22, L22, k22, n22⟩, -, X22, ⟨Lc22, hQ22, l22, y22, z22⟩, st22⟩ := superBack X0 hx hZ (y := (⟨"java/lang/AbstractStringBuilder", "length", "()I"⟩ : MethodName)) hown (tw hw 77 rfl) (own_same (tw hw 73 rfl) (tw hw 69 rfl) rfl (by decide)) (tw hw 73 rfl) (tw hw 78 rfl) (by decide) (backOf (W := 0) (rm_al l Z a0 hw [] b mm h0 n0 O0 E_b F_n) hZ (tw hw 79 rfl) (tw hw 46 rfl) (by decide) (by decide)) e0 (Ins.self E_b) (g := (mkF m 1 #[rv b] [(.ref b)])) rfl (by rw [hml]; rfl) (tw hw 79 rfl) (argsL := []) (rest := []) (lenOf pd_1 rfl) rfl (by show 2 * 0 + _ ≤ _; exact Nat.le_of_eq rfl) (hb hby d67_93_1) (fun _ _ => ⟨rfl, e0, (by decide : 0 + 0 ≤ _), (by decide : 0 + 0 ≤ _)⟩)
  dsimp only [Pt.U, Pt.locs, Pt.cells, Pt.slots] at X22 l22 y22 z22 st22 hQ22
  subst l22 y22 z22
  refine own_gos st22 ?_
  obtain ⟨rfl, Nq22, e22⟩ := hQ22
  have N22 := Fr.app N0 Nq22
  refine own_fin (v := (some (.int mm))) X22 (fun h => by rw [hrt] at h; cases h) hlk (fun fs hr => retI X22 hx hrt (hb hby d67_93_4) hr) (QQ := QPure (some (.int mm)) h0 n0) ?_ (by decide) (by decide)
  rw [e22]
  exact ⟨rfl, N22, rfl⟩

abbrev k41_11 := jdk_41_method_11_code
theorem d41_11_0:Dk k41_11 0 (.iload_n 0) 1:=kk
theorem d41_11_1:Dk k41_11 1 (.ifCond .lt 8) 3:=kk
theorem d41_11_4:Dk k41_11 4 (.iload_n 0) 1:=kk
theorem d41_11_5:Dk k41_11 5 (.iload_n 1) 1:=kk
theorem d41_11_6:Dk k41_11 6 (.if_icmp .lt 10) 3:=kk
theorem d41_11_16:Dk k41_11 16 (.iload_n 0) 1:=kk
theorem d41_11_17:Dk k41_11 17 (.ireturn) 1:=kk
theorem pn_2 : plainName "jdk/internal/util/Preconditions" = true := by first | (simp [plainName, overriddenIn]; done) | decide +kernel
set_option maxRecDepth 65536 in
set_option maxHeartbeats 40000000 in
theorem rm_cki (l : Launch) (Z : State) (a0 : Array Value) (hw : ∀ d ∈ tables_1, d.before a0 Z = true) (ws : List Jvm.Cond) (p1 p2 : Int32) (f4 : Value) (h0 : Heap) (n0 : Nat) (O0 : Old Z n0 h0) (r4 : f4.isRef = true) (q1 : ¬ (p1 < (0 : Int32))) (q2 : p1 < p2) :
    own_TN l Z ws h0 (⟨"jdk/internal/util/Preconditions", "checkIndex", "(IILjava/util/function/BiFunction;)I"⟩ : MethodName) jdk_41_method_11_code 3 (some .int) ⟨0, 0, 0, 0⟩ #[(.int p1), (.int p2), f4] (QPure (some (.int p1)) h0 n0) 0 0 := by
  refine own_bN "jdk/internal/util/Preconditions" #[iv p1, iv p2, .val f4] (pf pn_2 rfl) rfl O0 (fun m => by cases f4 <;> first | (cases r4; done) | (first | rfl | (simp [entryFrame, mkF, argsToLocals, Value.category]; done))) ?_
  intro p e s m below meth cC s₁ hZ hh hx hby hml hown hnm hrt hlk X0 e0 N0 Z0
  refine wl X0 hx hby 0 d41_11_0 rfl ?_
  refine we X0 hx hby 1 d41_11_1 ((if0 _ _).trans (flt q1).1) ?_
  refine wl X0 hx hby 4 d41_11_4 rfl ?_
  refine wl X0 hx hby 5 d41_11_5 rfl ?_
  try dsimp only [mkF]
  refine wy X0 hx hby 6 16 d41_11_6 (tlt q2).1 ?_
  refine wl X0 hx hby 16 d41_11_16 rfl ?_
  refine own_fin (v := (some (.int p1))) X0 (fun h => by rw [hrt] at h; cases h) hlk (fun fs hr => retI X0 hx hrt (hb hby d41_11_17) hr) (QQ := QPure (some (.int p1)) h0 n0) ?_ (by decide) (by decide)
  rw [e0]
  exact ⟨rfl, N0, rfl⟩

abbrev k42_155 := jdk_42_method_155_code
theorem d42_155_0:Dk k42_155 0 (.iload_n 0) 1:=kk
theorem d42_155_1:Dk k42_155 1 (.iload_n 1) 1:=kk
theorem d42_155_2:Dk k42_155 2 (.getstatic 1053) 3:=kk
theorem d42_155_5:Dk k42_155 5 (.invokestatic 1059) 3:=kk
theorem pd_2 : parseMethodDescriptor "(IILjava/util/function/BiFunction;)I" = some ⟨[.int, .int, (.object "java/util/function/BiFunction")], some .int⟩ := by decide +kernel
theorem d42_155_8:Dk k42_155 8 (.pop) 1:=kk
theorem d42_155_9:Dk k42_155 9 (.return_) 1:=kk
theorem pn_3 : plainName "java/lang/String" = true := by first | (simp [plainName, overriddenIn]; done) | decide +kernel
set_option maxRecDepth 65536 in
set_option maxHeartbeats 40000000 in
theorem rm_sci (l : Launch) (Z : State) (a0 : Array Value) (hw : ∀ d ∈ tables_1, d.before a0 Z = true) (ws : List Jvm.Cond) (p1 p2 : Int32) (G3 : Value) (h0 : Heap) (n0 : Nat) (O0 : Old Z n0 h0) (O4 : Sta Z Z.heap "jdk/internal/util/Preconditions" "SIOOBE_FORMATTER" "Ljava/util/function/BiFunction;" G3) (rG3 : G3.isRef = true) (q1 : ¬ (p1 < (0 : Int32))) (q2 : p1 < p2) :
    own_TN l Z ws h0 (⟨"java/lang/String", "checkIndex", "(II)V"⟩ : MethodName) jdk_42_method_155_code 2 none ⟨1, 0, 0, 14⟩ #[(.int p1), (.int p2)] (QPure (none) h0 n0) 0 0 := by
  refine own_bN "java/lang/String" #[iv p1, iv p2] (pf pn_3 rfl) rfl O0 (fun m => own_e) ?_
  intro p e s m below meth cC s₁ hZ hh hx hby hml hown hnm hrt hlk X0 e0 N0 Z0
  refine wl X0 hx hby 0 d42_155_0 rfl ?_
  refine wl X0 hx hby 1 d42_155_1 rfl ?_
  obtain ⟨T23, X23, e23, st23⟩ := getS2 X0 hx hZ hown (host := "") (Or.inl (tw hw 224 rfl)) Via.refl e0 (O4.ext O0.2) (g := (mkF m 2 #[iv p1, iv p2] [(.int p2), (.int p1)])) rfl (hb hby d42_155_2)
  refine own_go st23 ?_
  obtain ⟨v24, _, ⟨T24, L24, k24, n24⟩, -, X24, ⟨Lc24, hQ24, l24, y24, z24⟩, st24⟩ := Jvm.LawKit.callS X23 hx (y := (⟨"jdk/internal/util/Preconditions", "checkIndex", "(IILjava/util/function/BiFunction;)I"⟩ : MethodName)) hown (mvT hZ (tw hw 226 rfl)) (mvT hZ (tw hw 227 rfl)) (mvT hZ (tw hw 225 rfl)) (mvT hZ (tw hw 228 rfl)) (by decide) (backOf (W := 0) (rm_cki l Z a0 hw [] p1 p2 G3 h0 n0 O0 rG3 q1 q2) hZ (tw hw 228 rfl) (tw hw 225 rfl) (by decide) (by decide)) (g := (mkF m 5 #[iv p1, iv p2] [G3, (.int p2), (.int p1)])) rfl (by rw [hml]; rfl) (argsL := [(.int p1), (.int p2), G3]) (rest := []) (lenOf pd_2 rfl) rfl (by show 2 * 0 + _ ≤ _; exact Nat.le_of_eq rfl) (hb hby d42_155_5) (fun _ _ => ⟨rfl, e23, (by decide : 0 + 0 ≤ _), (by decide : 0 + 0 ≤ _)⟩)
  dsimp only [Pt.U, Pt.locs, Pt.cells, Pt.slots] at X24 l24 y24 z24 st24 hQ24
  subst l24 y24 z24
  refine own_go st24 ?_
  obtain ⟨rfl, Nq24, e24⟩ := hQ24
  have N24 := Fr.app N0 Nq24
  try dsimp only [mkF]
  refine og (fun _ k => XS.pop X24.here hx rfl (hb hby d42_155_8) rfl rfl k) ?_
  refine own_fin (v := none) X24 (fun _ => rfl) hlk (fun fs hr => X24.returnOut hx hrt (hb hby d42_155_9) hr) (QQ := QPure (none) h0 n0) ?_ (by decide) (by decide)
  rw [e24]
  exact ⟨rfl, N24, rfl⟩

theorem own_wLen {Z : State} {a0 : Array Value} (hw : ∀ d ∈ tables_1, d.before a0 Z = true) : ∀ d ∈ StrChars.Road.wordsLen, d.before a0 Z = true := fun d hd => hw d ((by decide +kernel : ∀ d ∈ StrChars.Road.wordsLen, d ∈ tables_1) d hd)
theorem own_lc {c : Int32} (h0 : ¬ c < 0) (h1 : ¬ (255 : Int32) < c) : nar .char ((StrChars.lo8 c &&& (255 : Int32)).toUInt32.toUInt16.toUInt32.toInt32) = c := by
  have h2 : ¬ (65535 : Int32) < c := by
    rw [Int32.lt_iff_toInt_lt] at h1 ⊢
    have e1 : (255 : Int32).toInt = 255 := rfl
    have e2 : (65535 : Int32).toInt = 65535 := rfl
    omega
  rw [StrChars.lo8_mask h0 h1]
  show nar .char (nar .char c) = c
  rw [own_nc h0 h2, own_nc h0 h2]
abbrev k42_154 := jdk_42_method_154_code
theorem d42_154_0:Dk k42_154 0 (.getstatic 38) 3:=kk
theorem d42_154_3:Dk k42_154 3 (.ifCond .eq 14) 3:=kk
theorem d42_154_6:Dk k42_154 6 (.aload_n 0) 1:=kk
theorem d42_154_7:Dk k42_154 7 (.getfield 15) 3:=kk
theorem d42_154_10:Dk k42_154 10 (.ifCond .ne 7) 3:=kk
theorem d42_154_13:Dk k42_154 13 (.iconst 1) 1:=kk
theorem d42_154_14:Dk k42_154 14 (.goto 4) 3:=kk
theorem d42_154_18:Dk k42_154 18 (.ireturn) 1:=kk
set_option maxRecDepth 65536 in
set_option maxHeartbeats 40000000 in
theorem rm_lat (l : Launch) (Z : State) (a0 : Array Value) (hw : ∀ d ∈ tables_1, d.before a0 Z = true) (ws : List Jvm.Cond) (a1 : Addr) (G1 : Int32) (h0 : Heap) (n0 : Nat) (O0 : Old Z n0 h0) (E_a : Exa Z h0 a1 "java/lang/String") (F_c : Fld Z h0 a1 "java/lang/String" "coder" "B" (.int (0 : Int32))) (O2 : Sta Z Z.heap "java/lang/String" "COMPACT_STRINGS" "Z" (.int G1)) (P5 : ¬ (G1 = (0 : Int32))) :
    own_TN l Z ws h0 (⟨"java/lang/String", "isLatin1", "()Z"⟩ : MethodName) jdk_42_method_154_code 1 (some .boolean) ⟨0, 0, 0, 0⟩ #[(.ref a1)] (QPure (some (.int (1 : Int32))) h0 n0) 0 0 := by
  refine own_bN "java/lang/String" #[rv a1] (pf pn_3 rfl) rfl O0 (fun m => own_e) ?_
  intro p e s m below meth cC s₁ hZ hh hx hby hml hown hnm hrt hlk X0 e0 N0 Z0
  obtain ⟨T25, X25, e25, st25⟩ := getS2 X0 hx hZ hown (host := "") (Or.inl (tw hw 115 rfl)) Via.refl e0 (O2.ext O0.2) (g := (mkF m 0 #[rv a1] [])) rfl (hb hby d42_154_0)
  refine own_go st25 ?_
  refine we X25 hx hby 3 d42_154_3 ((if0 _ _).trans (feq P5).1) ?_
  refine wa X25 hx hby 6 d42_154_6 rfl rfl ?_
  obtain ⟨T26, X26, e26, st26⟩ := getF X25 hx hZ hown (host := "") (Or.inl (tw hw 30 rfl)) Via.refl e25 F_c (g := (mkF m 7 #[rv a1] [(.ref a1)])) rfl rfl (hb hby d42_154_7)
  refine own_go st26 ?_
  try dsimp only [mkF]
  refine we X26 hx hby 10 d42_154_10 ((if0 _ _).trans (teq (by decide : (0 : Int32) = (0 : Int32))).2) ?_
  refine wc X26 hx hby 13 d42_154_13 ?_
  refine wg X26 hx hby 14 18 d42_154_14 ?_
  refine own_fin (v := (some (.int (nar .boolean (1 : Int32))))) X26 (fun h => by rw [hrt] at h; cases h) hlk (fun fs hr => retN X26 hx (t := .boolean) hrt (by simp) (hb hby d42_154_18) hr) (QQ := QPure (some (.int (1 : Int32))) h0 n0) ?_ (by decide) (by decide)
  rw [e26]
  exact ⟨rfl, N0, rfl⟩

abbrev k43_2 := jdk_43_method_2_code
theorem d43_2_0:Dk k43_2 0 (.iload_n 1) 1:=kk
theorem d43_2_1:Dk k43_2 1 (.aload_n 0) 1:=kk
theorem d43_2_2:Dk k43_2 2 (.arraylength) 1:=kk
theorem d43_2_3:Dk k43_2 3 (.invokestatic 9) 3:=kk
theorem pd_3 : parseMethodDescriptor "(II)V" = some ⟨[.int, .int], none⟩ := by decide +kernel
theorem d43_2_6:Dk k43_2 6 (.aload_n 0) 1:=kk
theorem d43_2_7:Dk k43_2 7 (.iload_n 1) 1:=kk
theorem d43_2_8:Dk k43_2 8 (.baload) 1:=kk
theorem d43_2_9:Dk k43_2 9 (.sipush 255) 3:=kk
theorem d43_2_12:Dk k43_2 12 (.iand) 1:=kk
theorem d43_2_13:Dk k43_2 13 (.i2c) 1:=kk
theorem d43_2_14:Dk k43_2 14 (.ireturn) 1:=kk
theorem pn_4 : plainName "java/lang/StringLatin1" = true := by first | (simp [plainName, overriddenIn]; done) | decide +kernel
set_option maxRecDepth 65536 in
set_option maxHeartbeats 40000000 in
theorem rm_lca (l : Launch) (Z : State) (a0 : Array Value) (hw : ∀ d ∈ tables_1, d.before a0 Z = true) (ws : List Jvm.Cond) (t : Addr) (k : ClassId) (cs : List Int32) (i : Nat) (G3 : Value) (h0 : Heap) (n0 : Nat) (O0 : Old Z n0 h0) (O4 : Sta Z Z.heap "jdk/internal/util/Preconditions" "SIOOBE_FORMATTER" "Ljava/util/function/BiFunction;" G3) (rG3 : G3.isRef = true) (V_t : Arv Z h0 t k .byte (Int32.ofNat cs.length) (own_lat cs) (.int (0 : Int32))) (hok : own_Ok cs) (ha : ∀ c ∈ cs, ¬ (255 : Int32) < c) (hi : i < cs.length) :
    own_TN l Z ws h0 (⟨"java/lang/StringLatin1", "charAt", "([BI)C"⟩ : MethodName) jdk_43_method_2_code 2 (some .char) ⟨2, 0, 0, 27⟩ #[(.ref t), (.int (Int32.ofNat i))] (QPure (some (.int (cs.getD i 0))) h0 n0) 0 0 := by
  refine own_bN "java/lang/StringLatin1" #[rv t, iv (Int32.ofNat i)] (pf pn_4 rfl) rfl O0 (fun m => own_e) ?_
  intro p e s m below meth cC s₁ hZ hh hx hby hml hown hnm hrt hlk X0 e0 N0 Z0
  have hlen : cs.length ≤ 4000 := hok.2
  refine wl X0 hx hby 0 d43_2_0 rfl ?_
  refine wa X0 hx hby 1 d43_2_1 rfl rfl ?_
  obtain ⟨c27, A27, q27, S27, M27, Hs27, Gs27⟩ := id V_t
  refine og (fun _ k => X0.arraylength hx (by rw [e0]; exact A27.1) (State.isArrayOf_alike hZ.alike A27.2.1) (g := (mkF m 2 #[rv t, iv (Int32.ofNat i)] [(.ref t), (.int (Int32.ofNat i))])) rfl rfl (hb hby d43_2_2) _ k) ?_
  rw [len_of S27 M27]
  obtain ⟨v28, _, ⟨T28, L28, k28, n28⟩, -, X28, ⟨Lc28, hQ28, l28, y28, z28⟩, st28⟩ := Jvm.LawKit.callS X0 hx (y := (⟨"java/lang/String", "checkIndex", "(II)V"⟩ : MethodName)) hown (mvT hZ (tw hw 221 rfl)) (mvT hZ (tw hw 222 rfl)) (mvT hZ (tw hw 11 rfl)) (mvT hZ (tw hw 223 rfl)) (by decide) (backOf (W := 0) (rm_sci l Z a0 hw [] (Int32.ofNat i) (Int32.ofNat cs.length) G3 h0 n0 O0 O4 rG3 (own_nn0 (by omega)) ((own_lti (by omega) (by omega)).mpr hi)) hZ (tw hw 223 rfl) (tw hw 11 rfl) (by decide) (by decide)) (g := (mkF m 3 #[rv t, iv (Int32.ofNat i)] [(.int (Int32.ofNat cs.length)), (.int (Int32.ofNat i))])) rfl (by rw [hml]; rfl) (argsL := [(.int (Int32.ofNat i)), (.int (Int32.ofNat cs.length))]) (rest := []) (lenOf pd_3 rfl) rfl (by show 2 * 0 + _ ≤ _; exact Nat.le_of_eq rfl) (hb hby d43_2_3) (fun _ _ => ⟨rfl, e0, (by decide : 0 + 0 ≤ _), (by decide : 0 + 0 ≤ _)⟩)
  dsimp only [Pt.U, Pt.locs, Pt.cells, Pt.slots] at X28 l28 y28 z28 st28 hQ28
  subst l28 y28 z28
  refine own_go st28 ?_
  obtain ⟨rfl, Nq28, e28⟩ := hQ28
  have N28 := Fr.app N0 Nq28
  try dsimp only [mkF]
  refine wa X28 hx hby 6 d43_2_6 rfl rfl ?_
  refine wl X28 hx hby 7 d43_2_7 rfl ?_
  obtain ⟨c29, A29, q29, S29, M29, Hs29, Gs29⟩ := id V_t
  have hi29 := inb_of (j := (Int32.ofNat i)) S29 (own_inb hi (by omega))
  refine og (fun _ k => X28.baloadBytes hx (j := (Int32.ofNat i)) (v := (.int (StrChars.lo8 (cs.getD i 0)))) (by rw [e28]; exact A29.1) (State.isArrayOf_alike hZ.alike A29.2.1) A29.2.2 hi29 (Has.at Hs29 hi29 (by rw [own_tn (by omega)]; exact own_lgd2 hi)) (g := (mkF m 8 #[rv t, iv (Int32.ofNat i)] [(.int (Int32.ofNat i)), (.ref t)])) rfl rfl (hb hby d43_2_8) _ k) ?_
  refine og (fun _ k => XS.sipush X28.here hx rfl (hb hby d43_2_9) k) ?_
  refine og (fun _ k => XS.iand X28.here hx rfl (hb hby d43_2_12) rfl k) ?_
  try dsimp only [mkF]
  refine og (fun _ k => XS.i2c X28.here hx rfl (hb hby d43_2_13) rfl k) ?_
  refine own_fin (v := (some (.int (nar .char (((StrChars.lo8 (cs.getD i 0)) &&& (255 : Int32)).toUInt32.toUInt16.toUInt32.toInt32))))) X28 (fun h => by rw [hrt] at h; cases h) hlk (fun fs hr => retN X28 hx (t := .char) hrt (by simp) (hb hby d43_2_14) hr) (QQ := QPure (some (.int (cs.getD i 0))) h0 n0) ?_ (by decide) (by decide)
  rw [e28]
  exact ⟨congrArg (fun z => some (Value.int z)) (own_lc (hok.at hi).1 (ha _ (own_getm hi))), N28, rfl⟩

abbrev k42_56 := jdk_42_method_56_code
theorem d42_56_0:Dk k42_56 0 (.aload_n 0) 1:=kk
theorem d42_56_1:Dk k42_56 1 (.invokevirtual 492) 3:=kk
theorem pd_4 : parseMethodDescriptor "()Z" = some ⟨[], some .boolean⟩ := by decide +kernel
theorem d42_56_4:Dk k42_56 4 (.ifCond .eq 12) 3:=kk
theorem d42_56_7:Dk k42_56 7 (.aload_n 0) 1:=kk
theorem d42_56_8:Dk k42_56 8 (.getfield 9) 3:=kk
theorem d42_56_11:Dk k42_56 11 (.iload_n 1) 1:=kk
theorem d42_56_12:Dk k42_56 12 (.invokestatic 495) 3:=kk
theorem pd_5 : parseMethodDescriptor "([BI)C" = some ⟨[(.array .byte), .int], some .char⟩ := by decide +kernel
theorem d42_56_15:Dk k42_56 15 (.ireturn) 1:=kk
set_option maxRecDepth 65536 in
set_option maxHeartbeats 40000000 in
theorem rm_ca (l : Launch) (Z : State) (a0 : Array Value) (hw : ∀ d ∈ tables_1, d.before a0 Z = true) (ws : List Jvm.Cond) (x t : Addr) (kt : ClassId) (ts : List Int32) (i : Nat) (G1 : Int32) (G3 : Value) (h0 : Heap) (n0 : Nat) (O0 : Old Z n0 h0) (O2 : Sta Z Z.heap "java/lang/String" "COMPACT_STRINGS" "Z" (.int G1)) (P5 : ¬ (G1 = (0 : Int32))) (O4 : Sta Z Z.heap "jdk/internal/util/Preconditions" "SIOOBE_FORMATTER" "Ljava/util/function/BiFunction;" G3) (rG3 : G3.isRef = true) (OA : Sta Z Z.heap "java/lang/StringUTF16" "$assertionsDisabled" "Z" (.int (1 : Int32))) (OH : Sta Z Z.heap "java/lang/StringUTF16" "HI_BYTE_SHIFT" "I" (.int (0 : Int32))) (OL : Sta Z Z.heap "java/lang/StringUTF16" "LO_BYTE_SHIFT" "I" (.int (8 : Int32))) (E_x : Exa Z h0 x "java/lang/String") (Fv_x : Fld Z h0 x "java/lang/String" "value" "[B" (.ref t)) (Fc_x : Fld Z h0 x "java/lang/String" "coder" "B" (.int (0 : Int32))) (V_t : Arv Z h0 t kt .byte (Int32.ofNat ts.length) (own_lat ts) (.int (0 : Int32))) (hts : ∀ c ∈ ts, ¬ (255 : Int32) < c) (hot : own_Ok ts) (hi : i < ts.length) :
    own_TN l Z ws h0 (⟨"java/lang/String", "charAt", "(I)C"⟩ : MethodName) jdk_42_method_56_code 2 (some .char) ⟨3, 0, 0, 40⟩ #[(.ref x), (.int (Int32.ofNat i))] (QPure (some (.int (ts.getD i 0))) h0 n0) 0 0 := by
  refine own_bN "java/lang/String" #[rv x, iv (Int32.ofNat i)] (pf pn_3 rfl) rfl O0 (fun m => own_e) ?_
  intro p e s m below meth cC s₁ hZ hh hx hby hml hown hnm hrt hlk X0 e0 N0 Z0
  have hlen : ts.length ≤ 4000 := hot.2
  refine wa X0 hx hby 0 d42_56_0 rfl rfl ?_
  obtain ⟨cq30, kq30, q30a, q30b, q30c⟩ := isOf hZ e0 E_x
  obtain ⟨v30, _, ⟨T30, L30, k30, n30⟩, -, X30, ⟨Lc30, hQ30, l30, y30, z30⟩, st30⟩ := X0.virtualBack hx (y := (⟨"java/lang/String", "isLatin1", "()Z"⟩ : MethodName)) (z := (⟨"java/lang/String", "isLatin1", "()Z"⟩ : MethodName)) hown (mvT hZ (tw hw 196 rfl)) (mvT hZ (tw hw 197 rfl)) (notFace_of_selects (args := #[]) (mvT hZ (tw hw 199 rfl))) (mvT hZ (tw hw 199 rfl)) (mvT hZ (tw hw 198 rfl)) (by decide) (backOf (W := 0) (rm_lat l Z a0 hw [] x G1 h0 n0 O0 E_x Fc_x O2 P5) hZ (tw hw 200 rfl) (tw hw 11 rfl) (by decide) (by decide)) q30a q30c (g := (mkF m 1 #[rv x, iv (Int32.ofNat i)] [(.ref x)])) rfl (by rw [hml]; rfl) (Steps.refl _) (argsL := []) (rest := []) (lenOf pd_4 rfl) rfl (by show 2 * 0 + _ ≤ _; exact Nat.le_of_eq rfl) (hb hby d42_56_1) (fun _ _ => ⟨rfl, e0, (by decide : 0 + 0 ≤ _), (by decide : 0 + 0 ≤ _)⟩)
  dsimp only [Pt.U, Pt.locs, Pt.cells, Pt.slots] at X30 l30 y30 z30 st30 hQ30
  subst l30 y30 z30
  refine own_gos st30 ?_
  obtain ⟨rfl, Nq30, e30⟩ := hQ30
  have N30 := Fr.app N0 Nq30
  refine we X30 hx hby 4 d42_56_4 ((if0 _ _).trans (feq (by decide : ¬ ((1 : Int32) = (0 : Int32)))).1) ?_
  refine wa X30 hx hby 7 d42_56_7 rfl rfl ?_
  try dsimp only [mkF]
  obtain ⟨T31, X31, e31, st31⟩ := getF X30 hx hZ hown (host := "") (Or.inl (tw hw 29 rfl)) Via.refl e30 Fv_x (g := (mkF m 8 #[rv x, iv (Int32.ofNat i)] [(.ref x)])) rfl rfl (hb hby d42_56_8)
  refine own_go st31 ?_
  refine wl X31 hx hby 11 d42_56_11 rfl ?_
  obtain ⟨v32, _, ⟨T32, L32, k32, n32⟩, -, X32, ⟨Lc32, hQ32, l32, y32, z32⟩, st32⟩ := Jvm.LawKit.callS X31 hx (y := (⟨"java/lang/StringLatin1", "charAt", "([BI)C"⟩ : MethodName)) hown (mvT hZ (tw hw 218 rfl)) (mvT hZ (tw hw 219 rfl)) (mvT hZ (tw hw 121 rfl)) (mvT hZ (tw hw 220 rfl)) (by decide) (backOf (W := 0) (rm_lca l Z a0 hw [] t kt ts i G3 h0 n0 O0 O4 rG3 V_t hot hts hi) hZ (tw hw 220 rfl) (tw hw 121 rfl) (by decide) (by decide)) (g := (mkF m 12 #[rv x, iv (Int32.ofNat i)] [(.int (Int32.ofNat i)), (.ref t)])) rfl (by rw [hml]; rfl) (argsL := [(.ref t), (.int (Int32.ofNat i))]) (rest := []) (lenOf pd_5 rfl) rfl (by show 2 * 0 + _ ≤ _; exact Nat.le_of_eq rfl) (hb hby d42_56_12) (fun _ _ => ⟨rfl, e31, (by decide : 0 + 0 ≤ _), (by decide : 0 + 0 ≤ _)⟩)
  dsimp only [Pt.U, Pt.locs, Pt.cells, Pt.slots] at X32 l32 y32 z32 st32 hQ32
  subst l32 y32 z32
  refine own_go st32 ?_
  obtain ⟨rfl, Nq32, e32⟩ := hQ32
  have N32 := Fr.app N30 Nq32
  refine own_fin (v := (some (.int (nar .char (ts.getD i 0))))) X32 (fun h => by rw [hrt] at h; cases h) hlk (fun fs hr => retN X32 hx (t := .char) hrt (by simp) (hb hby d42_56_15) hr) (QQ := QPure (some (.int (ts.getD i 0))) h0 n0) ?_ (by decide) (by decide)
  rw [e32]
  exact ⟨congrArg (fun z => some (Value.int z)) (own_nc (hot.at hi).1 (hot.at hi).2), N32, rfl⟩

def own_hx (v : Int32) : Int32 := nar .char ((if v < (10 : Int32) then ((48 : Int32) + v) else (((65 : Int32) + v) - (10 : Int32))).toUInt32.toUInt16.toUInt32.toInt32)
def own_u4 (c : Int32) : Int32 := if c = (45 : Int32) then 1 else if c = (46 : Int32) then 1 else if c = (95 : Int32) then 1 else if c = (126 : Int32) then 1 else 0
def own_u3 (c : Int32) : Int32 := if c < (48 : Int32) then own_u4 c else if (57 : Int32) < c then own_u4 c else 1
def own_u2 (c : Int32) : Int32 := if c < (65 : Int32) then own_u3 c else if (90 : Int32) < c then own_u3 c else 1
def own_un (c : Int32) : Int32 := if c < (97 : Int32) then own_u2 c else if (122 : Int32) < c then own_u2 c else 1
def own_es (b : Int32) : List Int32 := [37, own_hx (b >>> ((4 : Int32) &&& 31)), own_hx (b &&& (15 : Int32))]
def own_b2 (c : Int32) : Int32 := (192 : Int32) ||| (c >>> ((6 : Int32) &&& 31))
def own_b3 (c : Int32) : Int32 := (224 : Int32) ||| (c >>> ((12 : Int32) &&& 31))
def own_bm (c : Int32) : Int32 := (128 : Int32) ||| ((c >>> ((6 : Int32) &&& 31)) &&& (63 : Int32))
def own_bl (c : Int32) : Int32 := (128 : Int32) ||| (c &&& (63 : Int32))
def own_enc (c : Int32) : List Int32 := if c < (128 : Int32) then (if own_un c = (0 : Int32) then own_es c else [c]) else if c < (2048 : Int32) then own_es (own_b2 c) ++ own_es (own_bl c) else (own_es (own_b3 c) ++ own_es (own_bm c)) ++ own_es (own_bl c)
def own_sg (n c d : Int32) : List Int32 := if n = (0 : Int32) then [] else if n = (1 : Int32) then [c] else [c, d]
def own_encs : List Int32 → List Int32
  | [] => []
  | c :: cs => own_enc c ++ own_encs cs
def own_pre (OC : List Int32) (pos : Nat) (as : List Int32) : Prop := pos + as.length ≤ OC.length ∧ ∀ j, j < as.length → OC.getD (pos + j) 0 = as.getD j 0
theorem own_preA {OC as bs : List Int32} {pos : Nat} (h : own_pre OC pos (as ++ bs)) : own_pre OC pos as ∧ own_pre OC (pos + as.length) bs :=
  ⟨⟨by have := h.1; rw [List.length_append] at this; omega, fun j hj => by
     rw [h.2 j (by rw [List.length_append]; omega), List.getD_eq_getElem?_getD, List.getElem?_append_left hj, ← List.getD_eq_getElem?_getD]⟩,
   ⟨by have := h.1; rw [List.length_append] at this; omega, fun j hj => by
     rw [Nat.add_assoc, h.2 (as.length + j) (by rw [List.length_append]; omega), List.getD_eq_getElem?_getD, List.getElem?_append_right (Nat.le_add_right _ _), Nat.add_sub_cancel_left, ← List.getD_eq_getElem?_getD]⟩⟩
theorem own_pre0 (OC : List Int32) : own_pre OC 0 OC := ⟨by omega, fun j hj => by rw [Nat.zero_add]⟩
theorem own_esl (b : Int32) : (own_es b).length = 3 := rfl
theorem own_inc3 (i : Nat) : Int32.ofNat i + (3 : Int32) = Int32.ofNat (i + 3) := (Int32.ofNat_add i 3).symm
theorem own_inc2 (i : Nat) : Int32.ofNat i + (2 : Int32) = Int32.ofNat (i + 2) := (Int32.ofNat_add i 2).symm
theorem own_encn : own_encs [] = [] := rfl
theorem own_enc1 (c : Int32) : own_encs [c] = own_enc c := List.append_nil _
theorem own_enc2 (c d : Int32) : own_encs [c, d] = own_enc c ++ own_enc d := by show own_enc c ++ (own_enc d ++ []) = _; rw [List.append_nil]
theorem own_encl (c : Int32) : (own_enc c).length ≤ 9 := by
  unfold own_enc
  split
  · split <;> simp [own_es]
  · split <;> simp [own_es]
def QCh (h0 : Heap) (n0 : Nat) (v : Option Value) (h : Heap) (L : List Loc) : Prop := ∃ c : Int32, v = some (.int c) ∧ Fr n0 L ∧ h = h0 ∧ (¬ c < 0 ∧ ¬ (65535 : Int32) < c) ∧ (c < (55296 : Int32) ∨ (57343 : Int32) < c)
theorem own_chs (v : Int32) : ∃ n : Nat, n < 65536 ∧ v &&& (65535 : Int32) = Int32.ofNat n := by
  have h : (v &&& 65535).toBitVec.toNat < 65536 := by
    simp only [Int32.toBitVec_and, BitVec.toNat_and]
    exact Nat.lt_succ_of_le Nat.and_le_right
  refine ⟨_, h, ?_⟩
  apply Int32.toBitVec_inj.mp
  show _ = BitVec.ofNat 32 _
  rw [BitVec.ofNat_toNat]; simp
theorem own_i2n {n : Nat} (h : n < 65536) : nar .char ((Int32.ofNat n).toUInt32.toUInt16.toUInt32.toInt32) = Int32.ofNat n := by
  have h1 : ¬ Int32.ofNat n < 0 := own_nn0 (by omega)
  have h2 : ¬ (65535 : Int32) < Int32.ofNat n := by
    rw [Int32.lt_iff_toInt_lt, own_ti (by omega)]
    have e : (65535 : Int32).toInt = 65535 := rfl
    omega
  show nar .char (nar .char (Int32.ofNat n)) = _
  rw [own_nc h1 h2, own_nc h1 h2]
theorem own_chB {n : Nat} (h : n < 65536) : ¬ Int32.ofNat n < 0 ∧ ¬ (65535 : Int32) < Int32.ofNat n := ⟨own_nn0 (by omega), by
  rw [Int32.lt_iff_toInt_lt, own_ti (by omega)]
  have e : (65535 : Int32).toInt = 65535 := rfl
  omega⟩
theorem own_chS {n : Nat} (h : n < 65536) (h1 : ¬ Int32.ofNat n < (55296 : Int32)) (h2 : ¬ (57343 : Int32) < Int32.ofNat n) : Int32.ofNat n - (55296 : Int32) = Int32.ofNat (n - 55296) ∧ n - 55296 < 2048 := by
  rw [Int32.lt_iff_toInt_lt, own_ti (by omega)] at h1 h2
  have e1 : (55296 : Int32).toInt = 55296 := rfl
  have e2 : (57343 : Int32).toInt = 57343 := rfl
  exact ⟨own_ofsub (i := 55296) (by omega), by omega⟩
abbrev km3 := method_3_code
theorem dm3_0:Dk km3 0 (.iload_n 0) 1:=kk
theorem dm3_1:Dk km3 1 (.ldc 33) 2:=kk
theorem dm3_3:Dk km3 3 (.iand) 1:=kk
theorem dm3_4:Dk km3 4 (.istore_n 1) 1:=kk
theorem dm3_5:Dk km3 5 (.iload_n 1) 1:=kk
theorem dm3_6:Dk km3 6 (.ldc 34) 2:=kk
theorem dm3_8:Dk km3 8 (.if_icmp .lt 14) 3:=kk
theorem dm3_22:Dk km3 22 (.iload_n 1) 1:=kk
theorem dm3_23:Dk km3 23 (.i2c) 1:=kk
theorem dm3_24:Dk km3 24 (.ireturn) 1:=kk
theorem dm3_11:Dk km3 11 (.iload_n 1) 1:=kk
theorem dm3_12:Dk km3 12 (.ldc 35) 2:=kk
theorem dm3_14:Dk km3 14 (.if_icmp .gt 8) 3:=kk
theorem dm3_17:Dk km3 17 (.iload_n 1) 1:=kk
theorem dm3_18:Dk km3 18 (.ldc 34) 2:=kk
theorem dm3_20:Dk km3 20 (.isub) 1:=kk
theorem dm3_21:Dk km3 21 (.istore_n 1) 1:=kk
theorem pn_5 : plainName "com/example/cohortwise/cohortwise/http/RequestsPathPinLaw" = true := by first | (simp [plainName, overriddenIn]; done) | decide +kernel
set_option maxRecDepth 65536 in
set_option maxHeartbeats 40000000 in
theorem rm_ch (l : Launch) (Z : State) (a0 : Array Value) (hw : ∀ d ∈ tables_1, d.before a0 Z = true) (ws : List Jvm.Cond) (v : Int32) (h0 : Heap) (n0 : Nat) (O0 : Old Z n0 h0) :
    own_TN l Z ws h0 (⟨"com/example/cohortwise/cohortwise/http/RequestsPathPinLaw", "ch", "(I)C"⟩ : MethodName) method_3_code 2 (some .char) ⟨0, 0, 0, 0⟩ #[(.int v)] (QCh h0 n0) 0 0 := by
  refine own_bN "com/example/cohortwise/cohortwise/http/RequestsPathPinLaw" #[iv v, .unset] (pf pn_5 rfl) rfl O0 (fun m => own_e) ?_
  intro p e s m below meth cC s₁ hZ hh hx hby hml hown hnm hrt hlk X0 e0 N0 Z0
  refine wl X0 hx hby 0 dm3_0 rfl ?_
  refine og (fun _ k => X0.ldcInt hx hown (mvT hZ (tw hw 4 rfl)) (g := (mkF m 1 #[iv v, .unset] [(.int v)])) rfl (hb hby dm3_1) _ k) ?_
  refine og (fun _ k => XS.iand X0.here hx rfl (hb hby dm3_3) rfl k) ?_
  refine wt X0 hx hby 4 #[iv v, iv (v &&& (65535 : Int32))] dm3_4 rfl ?_
  try dsimp only [mkF]
  obtain ⟨nv, hnv, env⟩ := own_chs v
  show own_Go p e below (s₁.setTop (mkF m 5 #[iv v, iv (v &&& (65535 : Int32))] [])) _
  rw [env]
  refine wl X0 hx hby 5 dm3_5 rfl ?_
  refine og (fun _ k => X0.ldcInt hx hown (mvT hZ (tw hw 5 rfl)) (g := (mkF m 6 #[iv v, iv (Int32.ofNat nv)] [(.int (Int32.ofNat nv))])) rfl (hb hby dm3_6) _ k) ?_
  by_cases hc33 : (Int32.ofNat nv) < (55296 : Int32)
  · skip
    refine wy X0 hx hby 8 22 dm3_8 (tlt hc33).1 ?_
    refine wl X0 hx hby 22 dm3_22 rfl ?_
    try dsimp only [mkF]
    refine og (fun _ k => XS.i2c X0.here hx rfl (hb hby dm3_23) rfl k) ?_
    refine own_fin (v := (some (.int (nar .char ((Int32.ofNat nv).toUInt32.toUInt16.toUInt32.toInt32))))) X0 (fun h => by rw [hrt] at h; cases h) hlk (fun fs hr => retN X0 hx (t := .char) hrt (by simp) (hb hby dm3_24) hr) (QQ := QCh h0 n0) ?_ (by decide) (by decide)
    rw [e0]
    exact ⟨_, congrArg (fun z => some (Value.int z)) (own_i2n hnv), N0, rfl, own_chB hnv, Or.inl hc33⟩
  · skip
    refine wn X0 hx hby 8 dm3_8 (flt hc33).1 ?_
    refine wl X0 hx hby 11 dm3_11 rfl ?_
    try dsimp only [mkF]
    refine og (fun _ k => X0.ldcInt hx hown (mvT hZ (tw hw 286 rfl)) (g := (mkF m 12 #[iv v, iv (Int32.ofNat nv)] [(.int (Int32.ofNat nv))])) rfl (hb hby dm3_12) _ k) ?_
    by_cases hc34 : (57343 : Int32) < (Int32.ofNat nv)
    · skip
      refine wy X0 hx hby 14 22 dm3_14 (tlt hc34).2.2.1 ?_
      refine wl X0 hx hby 22 dm3_22 rfl ?_
      refine og (fun _ k => XS.i2c X0.here hx rfl (hb hby dm3_23) rfl k) ?_
      refine own_fin (v := (some (.int (nar .char ((Int32.ofNat nv).toUInt32.toUInt16.toUInt32.toInt32))))) X0 (fun h => by rw [hrt] at h; cases h) hlk (fun fs hr => retN X0 hx (t := .char) hrt (by simp) (hb hby dm3_24) hr) (QQ := QCh h0 n0) ?_ (by decide) (by decide)
      rw [e0]
      exact ⟨_, congrArg (fun z => some (Value.int z)) (own_i2n hnv), N0, rfl, own_chB hnv, Or.inr hc34⟩
    · skip
      refine wn X0 hx hby 14 dm3_14 (flt hc34).2.2.1 ?_
      refine wl X0 hx hby 17 dm3_17 rfl ?_
      refine og (fun _ k => X0.ldcInt hx hown (mvT hZ (tw hw 5 rfl)) (g := (mkF m 18 #[iv v, iv (Int32.ofNat nv)] [(.int (Int32.ofNat nv))])) rfl (hb hby dm3_18) _ k) ?_
      refine og (fun _ k => XS.isub X0.here hx rfl (hb hby dm3_20) rfl k) ?_
      try dsimp only [mkF]
      refine wt X0 hx hby 21 #[iv v, iv ((Int32.ofNat nv) - (55296 : Int32))] dm3_21 rfl ?_
      refine wl X0 hx hby 22 dm3_22 rfl ?_
      refine og (fun _ k => XS.i2c X0.here hx rfl (hb hby dm3_23) rfl k) ?_
      have hs := own_chS hnv hc33 hc34
      refine own_fin (v := (some (.int (nar .char (((Int32.ofNat nv) - (55296 : Int32)).toUInt32.toUInt16.toUInt32.toInt32))))) X0 (fun h => by rw [hrt] at h; cases h) hlk (fun fs hr => retN X0 hx (t := .char) hrt (by simp) (hb hby dm3_24) hr) (QQ := QCh h0 n0) ?_ (by decide) (by decide)
      rw [e0]
      exact ⟨_, congrArg (fun z => some (Value.int z)) ((congrArg (fun z : Int32 => nar .char z.toUInt32.toUInt16.toUInt32.toInt32) hs.1).trans (own_i2n (by have := hs.2; omega))), N0, rfl, own_chB (by have := hs.2; omega), Or.inl (by rw [Int32.lt_iff_toInt_lt, own_ti (by have := hs.2; omega)]; have e : (55296 : Int32).toInt = 55296 := rfl; have := hs.2; omega)⟩

abbrev km5 := method_5_code
theorem dm5_0:Dk km5 0 (.iload_n 0) 1:=kk
theorem dm5_1:Dk km5 1 (.bipush 10) 2:=kk
theorem dm5_3:Dk km5 3 (.if_icmp .ge 10) 3:=kk
theorem dm5_6:Dk km5 6 (.bipush 48) 2:=kk
theorem dm5_8:Dk km5 8 (.iload_n 0) 1:=kk
theorem dm5_9:Dk km5 9 (.iadd) 1:=kk
theorem dm5_10:Dk km5 10 (.goto 10) 3:=kk
theorem dm5_20:Dk km5 20 (.i2c) 1:=kk
theorem dm5_21:Dk km5 21 (.ireturn) 1:=kk
theorem dm5_13:Dk km5 13 (.bipush 65) 2:=kk
theorem dm5_15:Dk km5 15 (.iload_n 0) 1:=kk
theorem dm5_16:Dk km5 16 (.iadd) 1:=kk
theorem dm5_17:Dk km5 17 (.bipush 10) 2:=kk
theorem dm5_19:Dk km5 19 (.isub) 1:=kk
set_option maxRecDepth 65536 in
set_option maxHeartbeats 40000000 in
theorem rm_hex (l : Launch) (Z : State) (a0 : Array Value) (hw : ∀ d ∈ tables_1, d.before a0 Z = true) (ws : List Jvm.Cond) (v : Int32) (h0 : Heap) (n0 : Nat) (O0 : Old Z n0 h0) :
    own_TN l Z ws h0 (⟨"com/example/cohortwise/cohortwise/http/RequestsPathPinLaw", "hex", "(I)C"⟩ : MethodName) method_5_code 1 (some .char) ⟨0, 0, 0, 0⟩ #[(.int v)] (QPure (some (.int (own_hx v))) h0 n0) 0 0 := by
  refine own_bN "com/example/cohortwise/cohortwise/http/RequestsPathPinLaw" #[iv v] (pf pn_5 rfl) rfl O0 (fun m => own_e) ?_
  intro p e s m below meth cC s₁ hZ hh hx hby hml hown hnm hrt hlk X0 e0 N0 Z0
  refine wl X0 hx hby 0 dm5_0 rfl ?_
  refine wp X0 hx hby 1 dm5_1 ?_
  by_cases hc35 : v < (10 : Int32)
  · skip
    refine wn X0 hx hby 3 dm5_3 (tlt hc35).2.1 ?_
    refine wp X0 hx hby 6 dm5_6 ?_
    try dsimp only [mkF]
    refine wl X0 hx hby 8 dm5_8 rfl ?_
    refine og (fun _ k => XS.iadd X0.here hx rfl (hb hby dm5_9) rfl k) ?_
    refine wg X0 hx hby 10 20 dm5_10 ?_
    refine og (fun _ k => XS.i2c X0.here hx rfl (hb hby dm5_20) rfl k) ?_
    refine own_fin (v := (some (.int (nar .char (((48 : Int32) + v).toUInt32.toUInt16.toUInt32.toInt32))))) X0 (fun h => by rw [hrt] at h; cases h) hlk (fun fs hr => retN X0 hx (t := .char) hrt (by simp) (hb hby dm5_21) hr) (QQ := QPure (some (.int (own_hx v))) h0 n0) ?_ (by decide) (by decide)
    rw [e0]
    exact ⟨by unfold own_hx; rw [if_pos hc35], N0, rfl⟩
  · skip
    refine wy X0 hx hby 3 13 dm5_3 (flt hc35).2.1 ?_
    refine wp X0 hx hby 13 dm5_13 ?_
    try dsimp only [mkF]
    refine wl X0 hx hby 15 dm5_15 rfl ?_
    refine og (fun _ k => XS.iadd X0.here hx rfl (hb hby dm5_16) rfl k) ?_
    refine wp X0 hx hby 17 dm5_17 ?_
    refine og (fun _ k => XS.isub X0.here hx rfl (hb hby dm5_19) rfl k) ?_
    refine og (fun _ k => XS.i2c X0.here hx rfl (hb hby dm5_20) rfl k) ?_
    try dsimp only [mkF]
    refine own_fin (v := (some (.int (nar .char ((((65 : Int32) + v) - (10 : Int32)).toUInt32.toUInt16.toUInt32.toInt32))))) X0 (fun h => by rw [hrt] at h; cases h) hlk (fun fs hr => retN X0 hx (t := .char) hrt (by simp) (hb hby dm5_21) hr) (QQ := QPure (some (.int (own_hx v))) h0 n0) ?_ (by decide) (by decide)
    rw [e0]
    exact ⟨by unfold own_hx; rw [if_neg hc35], N0, rfl⟩

abbrev km6 := method_6_code
theorem dm6_36:Dk km6 36 (.iload_n 0) 1:=kk
theorem dm6_37:Dk km6 37 (.bipush 45) 2:=kk
theorem dm6_39:Dk km6 39 (.if_icmp .eq 21) 3:=kk
theorem dm6_60:Dk km6 60 (.iconst 1) 1:=kk
theorem dm6_61:Dk km6 61 (.goto 4) 3:=kk
theorem dm6_65:Dk km6 65 (.ireturn) 1:=kk
theorem dm6_42:Dk km6 42 (.iload_n 0) 1:=kk
theorem dm6_43:Dk km6 43 (.bipush 46) 2:=kk
theorem dm6_45:Dk km6 45 (.if_icmp .eq 15) 3:=kk
theorem dm6_48:Dk km6 48 (.iload_n 0) 1:=kk
theorem dm6_49:Dk km6 49 (.bipush 95) 2:=kk
theorem dm6_51:Dk km6 51 (.if_icmp .eq 9) 3:=kk
theorem dm6_54:Dk km6 54 (.iload_n 0) 1:=kk
theorem dm6_55:Dk km6 55 (.bipush 126) 2:=kk
theorem dm6_57:Dk km6 57 (.if_icmp .ne 7) 3:=kk
theorem dm6_64:Dk km6 64 (.iconst 0) 1:=kk
theorem dm6_24:Dk km6 24 (.iload_n 0) 1:=kk
theorem dm6_25:Dk km6 25 (.bipush 48) 2:=kk
theorem dm6_27:Dk km6 27 (.if_icmp .lt 9) 3:=kk
theorem dm6_30:Dk km6 30 (.iload_n 0) 1:=kk
theorem dm6_31:Dk km6 31 (.bipush 57) 2:=kk
theorem dm6_33:Dk km6 33 (.if_icmp .le 27) 3:=kk
theorem dm6_12:Dk km6 12 (.iload_n 0) 1:=kk
theorem dm6_13:Dk km6 13 (.bipush 65) 2:=kk
theorem dm6_15:Dk km6 15 (.if_icmp .lt 9) 3:=kk
theorem dm6_18:Dk km6 18 (.iload_n 0) 1:=kk
theorem dm6_19:Dk km6 19 (.bipush 90) 2:=kk
theorem dm6_21:Dk km6 21 (.if_icmp .le 39) 3:=kk
theorem dm6_0:Dk km6 0 (.iload_n 0) 1:=kk
theorem dm6_1:Dk km6 1 (.bipush 97) 2:=kk
theorem dm6_3:Dk km6 3 (.if_icmp .lt 9) 3:=kk
theorem dm6_6:Dk km6 6 (.iload_n 0) 1:=kk
theorem dm6_7:Dk km6 7 (.bipush 122) 2:=kk
theorem dm6_9:Dk km6 9 (.if_icmp .le 51) 3:=kk
set_option maxRecDepth 65536 in
set_option maxHeartbeats 40000000 in
theorem rm_un (l : Launch) (Z : State) (a0 : Array Value) (hw : ∀ d ∈ tables_1, d.before a0 Z = true) (ws : List Jvm.Cond) (c : Int32) (h0 : Heap) (n0 : Nat) (O0 : Old Z n0 h0) :
    own_TN l Z ws h0 (⟨"com/example/cohortwise/cohortwise/http/RequestsPathPinLaw", "unreserved", "(I)Z"⟩ : MethodName) method_6_code 1 (some .boolean) ⟨0, 0, 0, 0⟩ #[(.int c)] (QPure (some (.int (own_un c))) h0 n0) 0 0 := by
  refine own_bN "com/example/cohortwise/cohortwise/http/RequestsPathPinLaw" #[iv c] (pf pn_5 rfl) rfl O0 (fun m => own_e) ?_
  intro p e s m below meth cC s₁ hZ hh hx hby hml hown hnm hrt hlk X0 e0 N0 Z0
  have j36 : own_un c = own_u4 c → own_Go p e below (s₁.setTop (mkF m 36 #[iv c] [])) (fun oO U' => ∃ rV rL, oO = .returned rV ∧ QPure (some (.int (own_un c))) h0 n0 rV U'.heap rL ∧ FrameEnd s oO U' rL 0 0) := by
    intro hu
    refine wl X0 hx hby 36 dm6_36 rfl ?_
    refine wp X0 hx hby 37 dm6_37 ?_
    by_cases hc36 : c = (45 : Int32)
    · skip
      refine wy X0 hx hby 39 60 dm6_39 (teq hc36).1 ?_
      try dsimp only [mkF]
      refine wc X0 hx hby 60 dm6_60 ?_
      refine wg X0 hx hby 61 65 dm6_61 ?_
      refine own_fin (v := (some (.int (nar .boolean (1 : Int32))))) X0 (fun h => by rw [hrt] at h; cases h) hlk (fun fs hr => retN X0 hx (t := .boolean) hrt (by simp) (hb hby dm6_65) hr) (QQ := QPure (some (.int (own_un c))) h0 n0) ?_ (by decide) (by decide)
      rw [e0]
      exact ⟨by rw [hu]; unfold own_u4; rw [if_pos hc36] <;> rfl, N0, rfl⟩
    · skip
      refine wn X0 hx hby 39 dm6_39 (feq hc36).1 ?_
      try dsimp only [mkF]
      refine wl X0 hx hby 42 dm6_42 rfl ?_
      refine wp X0 hx hby 43 dm6_43 ?_
      by_cases hc37 : c = (46 : Int32)
      · skip
        refine wy X0 hx hby 45 60 dm6_45 (teq hc37).1 ?_
        refine wc X0 hx hby 60 dm6_60 ?_
        refine wg X0 hx hby 61 65 dm6_61 ?_
        try dsimp only [mkF]
        refine own_fin (v := (some (.int (nar .boolean (1 : Int32))))) X0 (fun h => by rw [hrt] at h; cases h) hlk (fun fs hr => retN X0 hx (t := .boolean) hrt (by simp) (hb hby dm6_65) hr) (QQ := QPure (some (.int (own_un c))) h0 n0) ?_ (by decide) (by decide)
        rw [e0]
        exact ⟨by rw [hu]; unfold own_u4; rw [if_neg hc36, if_pos hc37] <;> rfl, N0, rfl⟩
      · skip
        refine wn X0 hx hby 45 dm6_45 (feq hc37).1 ?_
        refine wl X0 hx hby 48 dm6_48 rfl ?_
        refine wp X0 hx hby 49 dm6_49 ?_
        try dsimp only [mkF]
        by_cases hc38 : c = (95 : Int32)
        · skip
          refine wy X0 hx hby 51 60 dm6_51 (teq hc38).1 ?_
          refine wc X0 hx hby 60 dm6_60 ?_
          refine wg X0 hx hby 61 65 dm6_61 ?_
          refine own_fin (v := (some (.int (nar .boolean (1 : Int32))))) X0 (fun h => by rw [hrt] at h; cases h) hlk (fun fs hr => retN X0 hx (t := .boolean) hrt (by simp) (hb hby dm6_65) hr) (QQ := QPure (some (.int (own_un c))) h0 n0) ?_ (by decide) (by decide)
          rw [e0]
          exact ⟨by rw [hu]; unfold own_u4; rw [if_neg hc36, if_neg hc37, if_pos hc38] <;> rfl, N0, rfl⟩
        · skip
          refine wn X0 hx hby 51 dm6_51 (feq hc38).1 ?_
          refine wl X0 hx hby 54 dm6_54 rfl ?_
          refine wp X0 hx hby 55 dm6_55 ?_
          by_cases hc39 : c = (126 : Int32)
          · skip
            refine wn X0 hx hby 57 dm6_57 (teq hc39).2 ?_
            refine wc X0 hx hby 60 dm6_60 ?_
            try dsimp only [mkF]
            refine wg X0 hx hby 61 65 dm6_61 ?_
            refine own_fin (v := (some (.int (nar .boolean (1 : Int32))))) X0 (fun h => by rw [hrt] at h; cases h) hlk (fun fs hr => retN X0 hx (t := .boolean) hrt (by simp) (hb hby dm6_65) hr) (QQ := QPure (some (.int (own_un c))) h0 n0) ?_ (by decide) (by decide)
            rw [e0]
            exact ⟨by rw [hu]; unfold own_u4; rw [if_neg hc36, if_neg hc37, if_neg hc38, if_pos hc39] <;> rfl, N0, rfl⟩
          · skip
            refine wy X0 hx hby 57 64 dm6_57 (feq hc39).2 ?_
            refine wc X0 hx hby 64 dm6_64 ?_
            try dsimp only [mkF]
            refine own_fin (v := (some (.int (nar .boolean (0 : Int32))))) X0 (fun h => by rw [hrt] at h; cases h) hlk (fun fs hr => retN X0 hx (t := .boolean) hrt (by simp) (hb hby dm6_65) hr) (QQ := QPure (some (.int (own_un c))) h0 n0) ?_ (by decide) (by decide)
            rw [e0]
            exact ⟨by rw [hu]; unfold own_u4; rw [if_neg hc36, if_neg hc37, if_neg hc38, if_neg hc39] <;> rfl, N0, rfl⟩
  have j24 : own_un c = own_u3 c → own_Go p e below (s₁.setTop (mkF m 24 #[iv c] [])) (fun oO U' => ∃ rV rL, oO = .returned rV ∧ QPure (some (.int (own_un c))) h0 n0 rV U'.heap rL ∧ FrameEnd s oO U' rL 0 0) := by
    intro hu
    refine wl X0 hx hby 24 dm6_24 rfl ?_
    refine wp X0 hx hby 25 dm6_25 ?_
    by_cases hc40 : c < (48 : Int32)
    · skip
      refine wy X0 hx hby 27 36 dm6_27 (tlt hc40).1 ?_
      try dsimp only [mkF]
      show own_Go p e below (s₁.setTop (mkF m 36 #[iv c] [])) _
      exact j36 (by rw [hu]; unfold own_u3; rw [if_pos hc40])
    · skip
      refine wn X0 hx hby 27 dm6_27 (flt hc40).1 ?_
      try dsimp only [mkF]
      refine wl X0 hx hby 30 dm6_30 rfl ?_
      refine wp X0 hx hby 31 dm6_31 ?_
      by_cases hc41 : (57 : Int32) < c
      · skip
        refine wn X0 hx hby 33 dm6_33 (tlt hc41).2.2.2 ?_
        show own_Go p e below (s₁.setTop (mkF m 36 #[iv c] [])) _
        exact j36 (by rw [hu]; unfold own_u3; rw [if_neg hc40, if_pos hc41])
      · skip
        refine wy X0 hx hby 33 60 dm6_33 (flt hc41).2.2.2 ?_
        refine wc X0 hx hby 60 dm6_60 ?_
        refine wg X0 hx hby 61 65 dm6_61 ?_
        try dsimp only [mkF]
        refine own_fin (v := (some (.int (nar .boolean (1 : Int32))))) X0 (fun h => by rw [hrt] at h; cases h) hlk (fun fs hr => retN X0 hx (t := .boolean) hrt (by simp) (hb hby dm6_65) hr) (QQ := QPure (some (.int (own_un c))) h0 n0) ?_ (by decide) (by decide)
        rw [e0]
        exact ⟨by rw [hu]; unfold own_u3; rw [if_neg hc40, if_neg hc41] <;> rfl, N0, rfl⟩
  have j12 : own_un c = own_u2 c → own_Go p e below (s₁.setTop (mkF m 12 #[iv c] [])) (fun oO U' => ∃ rV rL, oO = .returned rV ∧ QPure (some (.int (own_un c))) h0 n0 rV U'.heap rL ∧ FrameEnd s oO U' rL 0 0) := by
    intro hu
    refine wl X0 hx hby 12 dm6_12 rfl ?_
    refine wp X0 hx hby 13 dm6_13 ?_
    by_cases hc42 : c < (65 : Int32)
    · skip
      refine wy X0 hx hby 15 24 dm6_15 (tlt hc42).1 ?_
      try dsimp only [mkF]
      show own_Go p e below (s₁.setTop (mkF m 24 #[iv c] [])) _
      exact j24 (by rw [hu]; unfold own_u2; rw [if_pos hc42])
    · skip
      refine wn X0 hx hby 15 dm6_15 (flt hc42).1 ?_
      try dsimp only [mkF]
      refine wl X0 hx hby 18 dm6_18 rfl ?_
      refine wp X0 hx hby 19 dm6_19 ?_
      by_cases hc43 : (90 : Int32) < c
      · skip
        refine wn X0 hx hby 21 dm6_21 (tlt hc43).2.2.2 ?_
        show own_Go p e below (s₁.setTop (mkF m 24 #[iv c] [])) _
        exact j24 (by rw [hu]; unfold own_u2; rw [if_neg hc42, if_pos hc43])
      · skip
        refine wy X0 hx hby 21 60 dm6_21 (flt hc43).2.2.2 ?_
        refine wc X0 hx hby 60 dm6_60 ?_
        refine wg X0 hx hby 61 65 dm6_61 ?_
        try dsimp only [mkF]
        refine own_fin (v := (some (.int (nar .boolean (1 : Int32))))) X0 (fun h => by rw [hrt] at h; cases h) hlk (fun fs hr => retN X0 hx (t := .boolean) hrt (by simp) (hb hby dm6_65) hr) (QQ := QPure (some (.int (own_un c))) h0 n0) ?_ (by decide) (by decide)
        rw [e0]
        exact ⟨by rw [hu]; unfold own_u2; rw [if_neg hc42, if_neg hc43] <;> rfl, N0, rfl⟩
  refine wl X0 hx hby 0 dm6_0 rfl ?_
  refine wp X0 hx hby 1 dm6_1 ?_
  by_cases hc44 : c < (97 : Int32)
  · skip
    refine wy X0 hx hby 3 12 dm6_3 (tlt hc44).1 ?_
    show own_Go p e below (s₁.setTop (mkF m 12 #[iv c] [])) _
    exact j12 (by unfold own_un; rw [if_pos hc44])
  · skip
    refine wn X0 hx hby 3 dm6_3 (flt hc44).1 ?_
    refine wl X0 hx hby 6 dm6_6 rfl ?_
    try dsimp only [mkF]
    refine wp X0 hx hby 7 dm6_7 ?_
    by_cases hc45 : (122 : Int32) < c
    · skip
      refine wn X0 hx hby 9 dm6_9 (tlt hc45).2.2.2 ?_
      show own_Go p e below (s₁.setTop (mkF m 12 #[iv c] [])) _
      exact j12 (by unfold own_un; rw [if_neg hc44, if_pos hc45])
    · skip
      refine wy X0 hx hby 9 60 dm6_9 (flt hc45).2.2.2 ?_
      refine wc X0 hx hby 60 dm6_60 ?_
      refine wg X0 hx hby 61 65 dm6_61 ?_
      refine own_fin (v := (some (.int (nar .boolean (1 : Int32))))) X0 (fun h => by rw [hrt] at h; cases h) hlk (fun fs hr => retN X0 hx (t := .boolean) hrt (by simp) (hb hby dm6_65) hr) (QQ := QPure (some (.int (own_un c))) h0 n0) ?_ (by decide) (by decide)
      rw [e0]
      exact ⟨by unfold own_un; rw [if_neg hc44, if_neg hc45] <;> rfl, N0, rfl⟩

abbrev km7 := method_7_code
theorem dm7_0:Dk km7 0 (.iload_n 1) 1:=kk
theorem dm7_1:Dk km7 1 (.ifCond .lt 13) 3:=kk
theorem dm7_4:Dk km7 4 (.iload_n 1) 1:=kk
theorem dm7_5:Dk km7 5 (.iconst 3) 1:=kk
theorem dm7_6:Dk km7 6 (.iadd) 1:=kk
theorem dm7_7:Dk km7 7 (.aload_n 0) 1:=kk
theorem dm7_8:Dk km7 8 (.invokevirtual 29) 3:=kk
theorem dm7_11:Dk km7 11 (.if_icmp .le 5) 3:=kk
theorem dm7_16:Dk km7 16 (.aload_n 0) 1:=kk
theorem dm7_17:Dk km7 17 (.iload_n 1) 1:=kk
theorem dm7_18:Dk km7 18 (.invokevirtual 43) 3:=kk
theorem pd_6 : parseMethodDescriptor "(I)C" = some ⟨[.int], some .char⟩ := by decide +kernel
theorem dm7_21:Dk km7 21 (.bipush 37) 2:=kk
theorem dm7_23:Dk km7 23 (.if_icmp .ne 36) 3:=kk
theorem dm7_26:Dk km7 26 (.aload_n 0) 1:=kk
theorem dm7_27:Dk km7 27 (.iload_n 1) 1:=kk
theorem dm7_28:Dk km7 28 (.iconst 1) 1:=kk
theorem dm7_29:Dk km7 29 (.iadd) 1:=kk
theorem dm7_30:Dk km7 30 (.invokevirtual 43) 3:=kk
theorem dm7_33:Dk km7 33 (.iload_n 2) 1:=kk
theorem dm7_34:Dk km7 34 (.iconst 4) 1:=kk
theorem dm7_35:Dk km7 35 (.ishr) 1:=kk
theorem dm7_36:Dk km7 36 (.invokestatic 46) 3:=kk
theorem dm7_39:Dk km7 39 (.if_icmp .ne 20) 3:=kk
theorem dm7_42:Dk km7 42 (.aload_n 0) 1:=kk
theorem dm7_43:Dk km7 43 (.iload_n 1) 1:=kk
theorem dm7_44:Dk km7 44 (.iconst 2) 1:=kk
theorem dm7_45:Dk km7 45 (.iadd) 1:=kk
theorem dm7_46:Dk km7 46 (.invokevirtual 43) 3:=kk
theorem dm7_49:Dk km7 49 (.iload_n 2) 1:=kk
theorem dm7_50:Dk km7 50 (.bipush 15) 2:=kk
theorem dm7_52:Dk km7 52 (.iand) 1:=kk
theorem dm7_53:Dk km7 53 (.invokestatic 46) 3:=kk
theorem dm7_56:Dk km7 56 (.if_icmp .eq 5) 3:=kk
theorem dm7_61:Dk km7 61 (.iload_n 1) 1:=kk
theorem dm7_62:Dk km7 62 (.iconst 3) 1:=kk
theorem dm7_63:Dk km7 63 (.iadd) 1:=kk
theorem dm7_64:Dk km7 64 (.ireturn) 1:=kk
set_option maxRecDepth 65536 in
set_option maxHeartbeats 40000000 in
theorem rm_esc (l : Launch) (Z : State) (a0 : Array Value) (hw : ∀ d ∈ tables_1, d.before a0 Z = true) (ws : List Jvm.Cond) (x t : Addr) (kt : ClassId) (ts : List Int32) (ps : Nat) (b G1 : Int32) (G3 : Value) (h0 : Heap) (n0 : Nat) (O0 : Old Z n0 h0) (O2 : Sta Z Z.heap "java/lang/String" "COMPACT_STRINGS" "Z" (.int G1)) (P5 : ¬ (G1 = (0 : Int32))) (O4 : Sta Z Z.heap "jdk/internal/util/Preconditions" "SIOOBE_FORMATTER" "Ljava/util/function/BiFunction;" G3) (rG3 : G3.isRef = true) (OA : Sta Z Z.heap "java/lang/StringUTF16" "$assertionsDisabled" "Z" (.int (1 : Int32))) (OH : Sta Z Z.heap "java/lang/StringUTF16" "HI_BYTE_SHIFT" "I" (.int (0 : Int32))) (OL : Sta Z Z.heap "java/lang/StringUTF16" "LO_BYTE_SHIFT" "I" (.int (8 : Int32))) (E_x : Exa Z h0 x "java/lang/String") (Fv_x : Fld Z h0 x "java/lang/String" "value" "[B" (.ref t)) (Fc_x : Fld Z h0 x "java/lang/String" "coder" "B" (.int (0 : Int32))) (V_t : Arv Z h0 t kt .byte (Int32.ofNat ts.length) (own_lat ts) (.int (0 : Int32))) (hts : ∀ c ∈ ts, ¬ (255 : Int32) < c) (hot : own_Ok ts) (hp : own_pre ts ps (own_es b)) :
    own_TN l Z ws h0 (⟨"com/example/cohortwise/cohortwise/http/RequestsPathPinLaw", "esc", "(Ljava/lang/String;II)I"⟩ : MethodName) method_7_code 3 (some .int) ⟨4, 0, 0, 53⟩ #[(.ref x), (.int (Int32.ofNat ps)), (.int b)] (QPure (some (.int (Int32.ofNat (ps + 3)))) h0 n0) 0 0 := by
  refine own_bN "com/example/cohortwise/cohortwise/http/RequestsPathPinLaw" #[rv x, iv (Int32.ofNat ps), iv b] (pf pn_5 rfl) rfl O0 (fun m => own_e) ?_
  intro p e s m below meth cC s₁ hZ hh hx hby hml hown hnm hrt hlk X0 e0 N0 Z0
  have hlen : ts.length ≤ 4000 := hot.2
  have hle : ps + 3 ≤ ts.length := hp.1
  refine wl X0 hx hby 0 dm7_0 rfl ?_
  refine we X0 hx hby 1 dm7_1 ((if0 _ _).trans (flt (own_nn0 (by omega))).1) ?_
  refine wl X0 hx hby 4 dm7_4 rfl ?_
  refine wc X0 hx hby 5 dm7_5 ?_
  try dsimp only [mkF]
  refine og (fun _ k => XS.iadd X0.here hx rfl (hb hby dm7_6) rfl k) ?_
  show own_Go p e below (s₁.setTop (mkF m 7 #[rv x, iv (Int32.ofNat ps), iv b] [(.int ((Int32.ofNat ps) + (3 : Int32)))])) _
  rw [own_inc3]
  refine wa X0 hx hby 7 dm7_7 rfl rfl ?_
  obtain ⟨cq46, kq46, q46a, q46b, q46c⟩ := isOf hZ e0 E_x
  obtain ⟨v46, _, ⟨T46, L46, k46, n46⟩, -, X46, ⟨Lc46, hQ46, l46, y46, z46⟩, st46⟩ := X0.virtualBack hx (y := (⟨"java/lang/String", "length", "()I"⟩ : MethodName)) (z := (⟨"java/lang/String", "length", "()I"⟩ : MethodName)) hown (mvT hZ (tw hw 105 rfl)) (mvT hZ (tw hw 106 rfl)) (notFace_of_selects (args := #[]) (mvT hZ (tw hw 108 rfl))) (mvT hZ (tw hw 108 rfl)) (mvT hZ (tw hw 107 rfl)) (by decide) (StrChars.Road.lenW (W := 1) hZ (own_wLen hw) (kI := 4) (tw hw 10 rfl) E_x Fv_x Fc_x V_t (Or.inl ⟨rfl, rfl, rfl, hts⟩) (hot.1) (O2.ext O0.2) P5 hot.2 (by decide) (by decide)) q46a q46c (g := (mkF m 8 #[rv x, iv (Int32.ofNat ps), iv b] [(.ref x), (.int (Int32.ofNat (ps + 3)))])) rfl (by rw [hml]; rfl) (Steps.refl _) (argsL := []) (rest := [(.int (Int32.ofNat (ps + 3)))]) (lenOf pd_1 rfl) rfl (by show 2 * 0 + _ ≤ _; exact Nat.le_of_eq rfl) (hb hby dm7_8) (fun _ _ => ⟨rfl, e0, (by decide : 0 + 0 ≤ _), (by decide : 0 + 0 ≤ _)⟩)
  dsimp only [Pt.U, Pt.locs, Pt.cells, Pt.slots] at X46 l46 y46 z46 st46 hQ46
  subst l46 y46 z46
  refine own_gos st46 ?_
  obtain ⟨rfl, rfl, e46⟩ := hQ46
  have Nq46 : Fr n0 ([] : List Loc) := Fr.nil n0
  have N46 := Fr.app N0 Nq46
  refine wy X46 hx hby 11 16 dm7_11 (flt (fun q => by rw [own_lti (by omega) (by omega)] at q; omega)).2.2.2 ?_
  try dsimp only [mkF]
  refine wa X46 hx hby 16 dm7_16 rfl rfl ?_
  refine wl X46 hx hby 17 dm7_17 rfl ?_
  obtain ⟨cq47, kq47, q47a, q47b, q47c⟩ := isOf hZ e46 E_x
  obtain ⟨v47, _, ⟨T47, L47, k47, n47⟩, -, X47, ⟨Lc47, hQ47, l47, y47, z47⟩, st47⟩ := X46.virtualBack hx (y := (⟨"java/lang/String", "charAt", "(I)C"⟩ : MethodName)) (z := (⟨"java/lang/String", "charAt", "(I)C"⟩ : MethodName)) hown (mvT hZ (tw hw 213 rfl)) (mvT hZ (tw hw 214 rfl)) (notFace_of_selects (args := #[]) (mvT hZ (tw hw 216 rfl))) (mvT hZ (tw hw 216 rfl)) (mvT hZ (tw hw 215 rfl)) (by decide) (backOf (W := 0) (rm_ca l Z a0 hw [] x t kt ts ps G1 G3 h0 n0 O0 O2 P5 O4 rG3 OA OH OL E_x Fv_x Fc_x V_t hts hot (by omega)) hZ (tw hw 217 rfl) (tw hw 11 rfl) (by decide) (by decide)) q47a q47c (g := (mkF m 18 #[rv x, iv (Int32.ofNat ps), iv b] [(.int (Int32.ofNat ps)), (.ref x)])) rfl (by rw [hml]; rfl) (Steps.refl _) (argsL := [(.int (Int32.ofNat ps))]) (rest := []) (lenOf pd_6 rfl) rfl (by show 2 * 0 + _ ≤ _; exact Nat.le_of_eq rfl) (hb hby dm7_18) (fun _ _ => ⟨rfl, e46, (by decide : 0 + 0 ≤ _), (by decide : 0 + 0 ≤ _)⟩)
  dsimp only [Pt.U, Pt.locs, Pt.cells, Pt.slots] at X47 l47 y47 z47 st47 hQ47
  subst l47 y47 z47
  refine own_gos st47 ?_
  obtain ⟨rfl, Nq47, e47⟩ := hQ47
  have N47 := Fr.app N46 Nq47
  refine wp X47 hx hby 21 dm7_21 ?_
  refine wn X47 hx hby 23 dm7_23 (teq (hp.2 0 (Nat.le_of_ble_eq_true rfl))).2 ?_
  try dsimp only [mkF]
  refine wa X47 hx hby 26 dm7_26 rfl rfl ?_
  refine wl X47 hx hby 27 dm7_27 rfl ?_
  refine wc X47 hx hby 28 dm7_28 ?_
  refine og (fun _ k => XS.iadd X47.here hx rfl (hb hby dm7_29) rfl k) ?_
  show own_Go p e below (T47.setTop (mkF m 30 #[rv x, iv (Int32.ofNat ps), iv b] [(.int ((Int32.ofNat ps) + (1 : Int32))), (.ref x)])) _
  rw [own_inc]
  try dsimp only [mkF]
  obtain ⟨cq48, kq48, q48a, q48b, q48c⟩ := isOf hZ e47 E_x
  obtain ⟨v48, _, ⟨T48, L48, k48, n48⟩, -, X48, ⟨Lc48, hQ48, l48, y48, z48⟩, st48⟩ := X47.virtualBack hx (y := (⟨"java/lang/String", "charAt", "(I)C"⟩ : MethodName)) (z := (⟨"java/lang/String", "charAt", "(I)C"⟩ : MethodName)) hown (mvT hZ (tw hw 213 rfl)) (mvT hZ (tw hw 214 rfl)) (notFace_of_selects (args := #[]) (mvT hZ (tw hw 216 rfl))) (mvT hZ (tw hw 216 rfl)) (mvT hZ (tw hw 215 rfl)) (by decide) (backOf (W := 0) (rm_ca l Z a0 hw [] x t kt ts (ps + 1) G1 G3 h0 n0 O0 O2 P5 O4 rG3 OA OH OL E_x Fv_x Fc_x V_t hts hot (by omega)) hZ (tw hw 217 rfl) (tw hw 11 rfl) (by decide) (by decide)) q48a q48c (g := (mkF m 30 #[rv x, iv (Int32.ofNat ps), iv b] [(.int (Int32.ofNat (ps + 1))), (.ref x)])) rfl (by rw [hml]; rfl) (Steps.refl _) (argsL := [(.int (Int32.ofNat (ps + 1)))]) (rest := []) (lenOf pd_6 rfl) rfl (by show 2 * 0 + _ ≤ _; exact Nat.le_of_eq rfl) (hb hby dm7_30) (fun _ _ => ⟨rfl, e47, (by decide : 0 + 0 ≤ _), (by decide : 0 + 0 ≤ _)⟩)
  dsimp only [Pt.U, Pt.locs, Pt.cells, Pt.slots] at X48 l48 y48 z48 st48 hQ48
  subst l48 y48 z48
  refine own_gos st48 ?_
  obtain ⟨rfl, Nq48, e48⟩ := hQ48
  have N48 := Fr.app N47 Nq48
  refine wl X48 hx hby 33 dm7_33 rfl ?_
  refine wc X48 hx hby 34 dm7_34 ?_
  refine og (fun _ k => XS.ishr X48.here hx rfl (hb hby dm7_35) rfl k) ?_
  obtain ⟨v49, _, ⟨T49, L49, k49, n49⟩, -, X49, ⟨Lc49, hQ49, l49, y49, z49⟩, st49⟩ := Jvm.LawKit.callS X48 hx (y := (⟨"com/example/cohortwise/cohortwise/http/RequestsPathPinLaw", "hex", "(I)C"⟩ : MethodName)) hown (mvT hZ (tw hw 235 rfl)) (mvT hZ (tw hw 236 rfl)) (mvT hZ (tw hw 2 rfl)) (mvT hZ (tw hw 237 rfl)) (by decide) (backOf (W := 1) (rm_hex l Z a0 hw [] (b >>> ((4 : Int32) &&& 31)) h0 n0 O0 ) hZ (tw hw 237 rfl) (tw hw 2 rfl) (by decide) (by decide)) (g := (mkF m 36 #[rv x, iv (Int32.ofNat ps), iv b] [(.int (b >>> ((4 : Int32) &&& 31))), (.int (ts.getD (ps + 1) 0))])) rfl (by rw [hml]; rfl) (argsL := [(.int (b >>> ((4 : Int32) &&& 31)))]) (rest := [(.int (ts.getD (ps + 1) 0))]) (lenOf pd_6 rfl) rfl (by show 2 * 0 + _ ≤ _; exact Nat.le_of_eq rfl) (hb hby dm7_36) (fun _ _ => ⟨rfl, e48, (by decide : 0 + 0 ≤ _), (by decide : 0 + 0 ≤ _)⟩)
  dsimp only [Pt.U, Pt.locs, Pt.cells, Pt.slots] at X49 l49 y49 z49 st49 hQ49
  subst l49 y49 z49
  refine own_go st49 ?_
  obtain ⟨rfl, Nq49, e49⟩ := hQ49
  have N49 := Fr.app N48 Nq49
  try dsimp only [mkF]
  refine wn X49 hx hby 39 dm7_39 (teq (hp.2 1 (Nat.le_of_ble_eq_true rfl))).2 ?_
  refine wa X49 hx hby 42 dm7_42 rfl rfl ?_
  refine wl X49 hx hby 43 dm7_43 rfl ?_
  refine wc X49 hx hby 44 dm7_44 ?_
  refine og (fun _ k => XS.iadd X49.here hx rfl (hb hby dm7_45) rfl k) ?_
  try dsimp only [mkF]
  show own_Go p e below (T49.setTop (mkF m 46 #[rv x, iv (Int32.ofNat ps), iv b] [(.int ((Int32.ofNat ps) + (2 : Int32))), (.ref x)])) _
  rw [own_inc2]
  obtain ⟨cq50, kq50, q50a, q50b, q50c⟩ := isOf hZ e49 E_x
  obtain ⟨v50, _, ⟨T50, L50, k50, n50⟩, -, X50, ⟨Lc50, hQ50, l50, y50, z50⟩, st50⟩ := X49.virtualBack hx (y := (⟨"java/lang/String", "charAt", "(I)C"⟩ : MethodName)) (z := (⟨"java/lang/String", "charAt", "(I)C"⟩ : MethodName)) hown (mvT hZ (tw hw 213 rfl)) (mvT hZ (tw hw 214 rfl)) (notFace_of_selects (args := #[]) (mvT hZ (tw hw 216 rfl))) (mvT hZ (tw hw 216 rfl)) (mvT hZ (tw hw 215 rfl)) (by decide) (backOf (W := 0) (rm_ca l Z a0 hw [] x t kt ts (ps + 2) G1 G3 h0 n0 O0 O2 P5 O4 rG3 OA OH OL E_x Fv_x Fc_x V_t hts hot (by omega)) hZ (tw hw 217 rfl) (tw hw 11 rfl) (by decide) (by decide)) q50a q50c (g := (mkF m 46 #[rv x, iv (Int32.ofNat ps), iv b] [(.int (Int32.ofNat (ps + 2))), (.ref x)])) rfl (by rw [hml]; rfl) (Steps.refl _) (argsL := [(.int (Int32.ofNat (ps + 2)))]) (rest := []) (lenOf pd_6 rfl) rfl (by show 2 * 0 + _ ≤ _; exact Nat.le_of_eq rfl) (hb hby dm7_46) (fun _ _ => ⟨rfl, e49, (by decide : 0 + 0 ≤ _), (by decide : 0 + 0 ≤ _)⟩)
  dsimp only [Pt.U, Pt.locs, Pt.cells, Pt.slots] at X50 l50 y50 z50 st50 hQ50
  subst l50 y50 z50
  refine own_gos st50 ?_
  obtain ⟨rfl, Nq50, e50⟩ := hQ50
  have N50 := Fr.app N49 Nq50
  refine wl X50 hx hby 49 dm7_49 rfl ?_
  refine wp X50 hx hby 50 dm7_50 ?_
  refine og (fun _ k => XS.iand X50.here hx rfl (hb hby dm7_52) rfl k) ?_
  try dsimp only [mkF]
  obtain ⟨v51, _, ⟨T51, L51, k51, n51⟩, -, X51, ⟨Lc51, hQ51, l51, y51, z51⟩, st51⟩ := Jvm.LawKit.callS X50 hx (y := (⟨"com/example/cohortwise/cohortwise/http/RequestsPathPinLaw", "hex", "(I)C"⟩ : MethodName)) hown (mvT hZ (tw hw 235 rfl)) (mvT hZ (tw hw 236 rfl)) (mvT hZ (tw hw 2 rfl)) (mvT hZ (tw hw 237 rfl)) (by decide) (backOf (W := 1) (rm_hex l Z a0 hw [] (b &&& (15 : Int32)) h0 n0 O0 ) hZ (tw hw 237 rfl) (tw hw 2 rfl) (by decide) (by decide)) (g := (mkF m 53 #[rv x, iv (Int32.ofNat ps), iv b] [(.int (b &&& (15 : Int32))), (.int (ts.getD (ps + 2) 0))])) rfl (by rw [hml]; rfl) (argsL := [(.int (b &&& (15 : Int32)))]) (rest := [(.int (ts.getD (ps + 2) 0))]) (lenOf pd_6 rfl) rfl (by show 2 * 0 + _ ≤ _; exact Nat.le_of_eq rfl) (hb hby dm7_53) (fun _ _ => ⟨rfl, e50, (by decide : 0 + 0 ≤ _), (by decide : 0 + 0 ≤ _)⟩)
  dsimp only [Pt.U, Pt.locs, Pt.cells, Pt.slots] at X51 l51 y51 z51 st51 hQ51
  subst l51 y51 z51
  refine own_go st51 ?_
  obtain ⟨rfl, Nq51, e51⟩ := hQ51
  have N51 := Fr.app N50 Nq51
  refine wy X51 hx hby 56 61 dm7_56 (teq (hp.2 2 (Nat.le_of_ble_eq_true rfl))).1 ?_
  refine wl X51 hx hby 61 dm7_61 rfl ?_
  refine wc X51 hx hby 62 dm7_62 ?_
  refine og (fun _ k => XS.iadd X51.here hx rfl (hb hby dm7_63) rfl k) ?_
  try dsimp only [mkF]
  show own_Go p e below (T51.setTop (mkF m 64 #[rv x, iv (Int32.ofNat ps), iv b] [(.int ((Int32.ofNat ps) + (3 : Int32)))])) _
  rw [own_inc3]
  refine own_fin (v := (some (.int (Int32.ofNat (ps + 3))))) X51 (fun h => by rw [hrt] at h; cases h) hlk (fun fs hr => retI X51 hx hrt (hb hby dm7_64) hr) (QQ := QPure (some (.int (Int32.ofNat (ps + 3)))) h0 n0) ?_ (by decide) (by decide)
  rw [e51]
  exact ⟨rfl, N51, rfl⟩

abbrev km8 := method_8_code
theorem dm8_0:Dk km8 0 (.iload_n 2) 1:=kk
theorem dm8_1:Dk km8 1 (.sipush 128) 3:=kk
theorem dm8_4:Dk km8 4 (.if_icmp .ge 50) 3:=kk
theorem dm8_7:Dk km8 7 (.iload_n 2) 1:=kk
theorem dm8_8:Dk km8 8 (.invokestatic 49) 3:=kk
theorem pd_7 : parseMethodDescriptor "(I)Z" = some ⟨[.int], some .boolean⟩ := by decide +kernel
theorem dm8_11:Dk km8 11 (.ifCond .eq 36) 3:=kk
theorem dm8_47:Dk km8 47 (.aload_n 0) 1:=kk
theorem dm8_48:Dk km8 48 (.iload_n 1) 1:=kk
theorem dm8_49:Dk km8 49 (.iload_n 2) 1:=kk
theorem dm8_50:Dk km8 50 (.invokestatic 53) 3:=kk
theorem pd_8 : parseMethodDescriptor "(Ljava/lang/String;II)I" = some ⟨[(.object "java/lang/String"), .int, .int], some .int⟩ := by decide +kernel
theorem dm8_53:Dk km8 53 (.ireturn) 1:=kk
theorem dm8_14:Dk km8 14 (.iload_n 1) 1:=kk
theorem dm8_15:Dk km8 15 (.ifCond .lt 13) 3:=kk
theorem dm8_18:Dk km8 18 (.iload_n 1) 1:=kk
theorem dm8_19:Dk km8 19 (.iconst 1) 1:=kk
theorem dm8_20:Dk km8 20 (.iadd) 1:=kk
theorem dm8_21:Dk km8 21 (.aload_n 0) 1:=kk
theorem dm8_22:Dk km8 22 (.invokevirtual 29) 3:=kk
theorem dm8_25:Dk km8 25 (.if_icmp .le 5) 3:=kk
theorem dm8_30:Dk km8 30 (.aload_n 0) 1:=kk
theorem dm8_31:Dk km8 31 (.iload_n 1) 1:=kk
theorem dm8_32:Dk km8 32 (.invokevirtual 43) 3:=kk
theorem dm8_35:Dk km8 35 (.iload_n 2) 1:=kk
theorem dm8_36:Dk km8 36 (.if_icmp .ne 9) 3:=kk
theorem dm8_39:Dk km8 39 (.iload_n 1) 1:=kk
theorem dm8_40:Dk km8 40 (.iconst 1) 1:=kk
theorem dm8_41:Dk km8 41 (.iadd) 1:=kk
theorem dm8_42:Dk km8 42 (.goto 4) 3:=kk
theorem dm8_46:Dk km8 46 (.ireturn) 1:=kk
theorem dm8_54:Dk km8 54 (.iload_n 2) 1:=kk
theorem dm8_55:Dk km8 55 (.sipush 2048) 3:=kk
theorem dm8_58:Dk km8 58 (.if_icmp .ge 29) 3:=kk
theorem dm8_61:Dk km8 61 (.aload_n 0) 1:=kk
theorem dm8_62:Dk km8 62 (.aload_n 0) 1:=kk
theorem dm8_63:Dk km8 63 (.iload_n 1) 1:=kk
theorem dm8_64:Dk km8 64 (.sipush 192) 3:=kk
theorem dm8_67:Dk km8 67 (.iload_n 2) 1:=kk
theorem dm8_68:Dk km8 68 (.bipush 6) 2:=kk
theorem dm8_70:Dk km8 70 (.ishr) 1:=kk
theorem dm8_71:Dk km8 71 (.ior) 1:=kk
theorem dm8_72:Dk km8 72 (.invokestatic 53) 3:=kk
theorem dm8_75:Dk km8 75 (.sipush 128) 3:=kk
theorem dm8_78:Dk km8 78 (.iload_n 2) 1:=kk
theorem dm8_79:Dk km8 79 (.bipush 63) 2:=kk
theorem dm8_81:Dk km8 81 (.iand) 1:=kk
theorem dm8_82:Dk km8 82 (.ior) 1:=kk
theorem dm8_83:Dk km8 83 (.invokestatic 53) 3:=kk
theorem dm8_86:Dk km8 86 (.ireturn) 1:=kk
theorem dm8_87:Dk km8 87 (.aload_n 0) 1:=kk
theorem dm8_88:Dk km8 88 (.aload_n 0) 1:=kk
theorem dm8_89:Dk km8 89 (.aload_n 0) 1:=kk
theorem dm8_90:Dk km8 90 (.iload_n 1) 1:=kk
theorem dm8_91:Dk km8 91 (.sipush 224) 3:=kk
theorem dm8_94:Dk km8 94 (.iload_n 2) 1:=kk
theorem dm8_95:Dk km8 95 (.bipush 12) 2:=kk
theorem dm8_97:Dk km8 97 (.ishr) 1:=kk
theorem dm8_98:Dk km8 98 (.ior) 1:=kk
theorem dm8_99:Dk km8 99 (.invokestatic 53) 3:=kk
theorem dm8_102:Dk km8 102 (.sipush 128) 3:=kk
theorem dm8_105:Dk km8 105 (.iload_n 2) 1:=kk
theorem dm8_106:Dk km8 106 (.bipush 6) 2:=kk
theorem dm8_108:Dk km8 108 (.ishr) 1:=kk
theorem dm8_109:Dk km8 109 (.bipush 63) 2:=kk
theorem dm8_111:Dk km8 111 (.iand) 1:=kk
theorem dm8_112:Dk km8 112 (.ior) 1:=kk
theorem dm8_113:Dk km8 113 (.invokestatic 53) 3:=kk
theorem dm8_116:Dk km8 116 (.sipush 128) 3:=kk
theorem dm8_119:Dk km8 119 (.iload_n 2) 1:=kk
theorem dm8_120:Dk km8 120 (.bipush 63) 2:=kk
theorem dm8_122:Dk km8 122 (.iand) 1:=kk
theorem dm8_123:Dk km8 123 (.ior) 1:=kk
theorem dm8_124:Dk km8 124 (.invokestatic 53) 3:=kk
theorem dm8_127:Dk km8 127 (.ireturn) 1:=kk
set_option maxRecDepth 65536 in
set_option maxHeartbeats 40000000 in
theorem rm_one (l : Launch) (Z : State) (a0 : Array Value) (hw : ∀ d ∈ tables_1, d.before a0 Z = true) (ws : List Jvm.Cond) (x t : Addr) (kt : ClassId) (ts : List Int32) (ps : Nat) (c G1 : Int32) (G3 : Value) (h0 : Heap) (n0 : Nat) (O0 : Old Z n0 h0) (O2 : Sta Z Z.heap "java/lang/String" "COMPACT_STRINGS" "Z" (.int G1)) (P5 : ¬ (G1 = (0 : Int32))) (O4 : Sta Z Z.heap "jdk/internal/util/Preconditions" "SIOOBE_FORMATTER" "Ljava/util/function/BiFunction;" G3) (rG3 : G3.isRef = true) (OA : Sta Z Z.heap "java/lang/StringUTF16" "$assertionsDisabled" "Z" (.int (1 : Int32))) (OH : Sta Z Z.heap "java/lang/StringUTF16" "HI_BYTE_SHIFT" "I" (.int (0 : Int32))) (OL : Sta Z Z.heap "java/lang/StringUTF16" "LO_BYTE_SHIFT" "I" (.int (8 : Int32))) (E_x : Exa Z h0 x "java/lang/String") (Fv_x : Fld Z h0 x "java/lang/String" "value" "[B" (.ref t)) (Fc_x : Fld Z h0 x "java/lang/String" "coder" "B" (.int (0 : Int32))) (V_t : Arv Z h0 t kt .byte (Int32.ofNat ts.length) (own_lat ts) (.int (0 : Int32))) (hts : ∀ c ∈ ts, ¬ (255 : Int32) < c) (hot : own_Ok ts) (hp : own_pre ts ps (own_enc c)) :
    own_TN l Z ws h0 (⟨"com/example/cohortwise/cohortwise/http/RequestsPathPinLaw", "one", "(Ljava/lang/String;II)I"⟩ : MethodName) method_8_code 3 (some .int) ⟨5, 0, 0, 69⟩ #[(.ref x), (.int (Int32.ofNat ps)), (.int c)] (QPure (some (.int (Int32.ofNat (ps + (own_enc c).length)))) h0 n0) 0 0 := by
  refine own_bN "com/example/cohortwise/cohortwise/http/RequestsPathPinLaw" #[rv x, iv (Int32.ofNat ps), iv c] (pf pn_5 rfl) rfl O0 (fun m => own_e) ?_
  intro p e s m below meth cC s₁ hZ hh hx hby hml hown hnm hrt hlk X0 e0 N0 Z0
  have hlen : ts.length ≤ 4000 := hot.2
  refine wl X0 hx hby 0 dm8_0 rfl ?_
  refine og (fun _ k => XS.sipush X0.here hx rfl (hb hby dm8_1) k) ?_
  by_cases hc52 : c < (128 : Int32)
  · skip
    refine wn X0 hx hby 4 dm8_4 (tlt hc52).2.1 ?_
    refine wl X0 hx hby 7 dm8_7 rfl ?_
    try dsimp only [mkF]
    obtain ⟨v53, _, ⟨T53, L53, k53, n53⟩, -, X53, ⟨Lc53, hQ53, l53, y53, z53⟩, st53⟩ := Jvm.LawKit.callS X0 hx (y := (⟨"com/example/cohortwise/cohortwise/http/RequestsPathPinLaw", "unreserved", "(I)Z"⟩ : MethodName)) hown (mvT hZ (tw hw 292 rfl)) (mvT hZ (tw hw 293 rfl)) (mvT hZ (tw hw 2 rfl)) (mvT hZ (tw hw 294 rfl)) (by decide) (backOf (W := 0) (rm_un l Z a0 hw [] c h0 n0 O0 ) hZ (tw hw 294 rfl) (tw hw 2 rfl) (by decide) (by decide)) (g := (mkF m 8 #[rv x, iv (Int32.ofNat ps), iv c] [(.int c)])) rfl (by rw [hml]; rfl) (argsL := [(.int c)]) (rest := []) (lenOf pd_7 rfl) rfl (by show 2 * 0 + _ ≤ _; exact Nat.le_of_eq rfl) (hb hby dm8_8) (fun _ _ => ⟨rfl, e0, (by decide : 0 + 0 ≤ _), (by decide : 0 + 0 ≤ _)⟩)
    dsimp only [Pt.U, Pt.locs, Pt.cells, Pt.slots] at X53 l53 y53 z53 st53 hQ53
    subst l53 y53 z53
    refine own_go st53 ?_
    obtain ⟨rfl, Nq53, e53⟩ := hQ53
    have N53 := Fr.app N0 Nq53
    by_cases hc54 : (own_un c) = (0 : Int32)
    · skip
      refine wf X53 hx hby 11 47 dm8_11 ((if0 _ _).trans (teq hc54).1) ?_
      have eE : own_enc c = own_es c := by unfold own_enc; rw [if_pos hc52, if_pos hc54]
      rw [eE] at hp ⊢
      refine wa X53 hx hby 47 dm8_47 rfl rfl ?_
      refine wl X53 hx hby 48 dm8_48 rfl ?_
      refine wl X53 hx hby 49 dm8_49 rfl ?_
      try dsimp only [mkF]
      obtain ⟨v55, _, ⟨T55, L55, k55, n55⟩, -, X55, ⟨Lc55, hQ55, l55, y55, z55⟩, st55⟩ := Jvm.LawKit.callS X53 hx (y := (⟨"com/example/cohortwise/cohortwise/http/RequestsPathPinLaw", "esc", "(Ljava/lang/String;II)I"⟩ : MethodName)) hown (mvT hZ (tw hw 232 rfl)) (mvT hZ (tw hw 233 rfl)) (mvT hZ (tw hw 2 rfl)) (mvT hZ (tw hw 234 rfl)) (by decide) (backOf (W := 0) (rm_esc l Z a0 hw [] x t kt ts ps c G1 G3 h0 n0 O0 O2 P5 O4 rG3 OA OH OL E_x Fv_x Fc_x V_t hts hot hp) hZ (tw hw 234 rfl) (tw hw 2 rfl) (by decide) (by decide)) (g := (mkF m 50 #[rv x, iv (Int32.ofNat ps), iv c] [(.int c), (.int (Int32.ofNat ps)), (.ref x)])) rfl (by rw [hml]; rfl) (argsL := [(.ref x), (.int (Int32.ofNat ps)), (.int c)]) (rest := []) (lenOf pd_8 rfl) rfl (by show 2 * 0 + _ ≤ _; exact Nat.le_of_eq rfl) (hb hby dm8_50) (fun _ _ => ⟨rfl, e53, (by decide : 0 + 0 ≤ _), (by decide : 0 + 0 ≤ _)⟩)
      dsimp only [Pt.U, Pt.locs, Pt.cells, Pt.slots] at X55 l55 y55 z55 st55 hQ55
      subst l55 y55 z55
      refine own_go st55 ?_
      obtain ⟨rfl, Nq55, e55⟩ := hQ55
      have N55 := Fr.app N53 Nq55
      refine own_fin (v := (some (.int (Int32.ofNat (ps + 3))))) X55 (fun h => by rw [hrt] at h; cases h) hlk (fun fs hr => retI X55 hx hrt (hb hby dm8_53) hr) (QQ := QPure (some (.int (Int32.ofNat (ps + (own_es c).length)))) h0 n0) ?_ (by decide) (by decide)
      rw [e55]
      exact ⟨rfl, N55, rfl⟩
    · skip
      refine we X53 hx hby 11 dm8_11 ((if0 _ _).trans (feq hc54).1) ?_
      have eE : own_enc c = [c] := by unfold own_enc; rw [if_pos hc52, if_neg hc54]
      rw [eE] at hp ⊢
      have hle : ps + 1 ≤ ts.length := hp.1
      refine wl X53 hx hby 14 dm8_14 rfl ?_
      refine we X53 hx hby 15 dm8_15 ((if0 _ _).trans (flt (own_nn0 (by omega))).1) ?_
      refine wl X53 hx hby 18 dm8_18 rfl ?_
      try dsimp only [mkF]
      refine wc X53 hx hby 19 dm8_19 ?_
      refine og (fun _ k => XS.iadd X53.here hx rfl (hb hby dm8_20) rfl k) ?_
      show own_Go p e below (T53.setTop (mkF m 21 #[rv x, iv (Int32.ofNat ps), iv c] [(.int ((Int32.ofNat ps) + (1 : Int32)))])) _
      rw [own_inc]
      refine wa X53 hx hby 21 dm8_21 rfl rfl ?_
      obtain ⟨cq56, kq56, q56a, q56b, q56c⟩ := isOf hZ e53 E_x
      obtain ⟨v56, _, ⟨T56, L56, k56, n56⟩, -, X56, ⟨Lc56, hQ56, l56, y56, z56⟩, st56⟩ := X53.virtualBack hx (y := (⟨"java/lang/String", "length", "()I"⟩ : MethodName)) (z := (⟨"java/lang/String", "length", "()I"⟩ : MethodName)) hown (mvT hZ (tw hw 105 rfl)) (mvT hZ (tw hw 106 rfl)) (notFace_of_selects (args := #[]) (mvT hZ (tw hw 108 rfl))) (mvT hZ (tw hw 108 rfl)) (mvT hZ (tw hw 107 rfl)) (by decide) (StrChars.Road.lenW (W := 1) hZ (own_wLen hw) (kI := 4) (tw hw 10 rfl) E_x Fv_x Fc_x V_t (Or.inl ⟨rfl, rfl, rfl, hts⟩) (hot.1) (O2.ext O0.2) P5 hot.2 (by decide) (by decide)) q56a q56c (g := (mkF m 22 #[rv x, iv (Int32.ofNat ps), iv c] [(.ref x), (.int (Int32.ofNat (ps + 1)))])) rfl (by rw [hml]; rfl) (Steps.refl _) (argsL := []) (rest := [(.int (Int32.ofNat (ps + 1)))]) (lenOf pd_1 rfl) rfl (by show 2 * 0 + _ ≤ _; exact Nat.le_of_eq rfl) (hb hby dm8_22) (fun _ _ => ⟨rfl, e53, (by decide : 0 + 0 ≤ _), (by decide : 0 + 0 ≤ _)⟩)
      dsimp only [Pt.U, Pt.locs, Pt.cells, Pt.slots] at X56 l56 y56 z56 st56 hQ56
      subst l56 y56 z56
      refine own_gos st56 ?_
      obtain ⟨rfl, rfl, e56⟩ := hQ56
      have Nq56 : Fr n0 ([] : List Loc) := Fr.nil n0
      have N56 := Fr.app N53 Nq56
      try dsimp only [mkF]
      refine wy X56 hx hby 25 30 dm8_25 (flt (fun q => by rw [own_lti (by omega) (by omega)] at q; omega)).2.2.2 ?_
      refine wa X56 hx hby 30 dm8_30 rfl rfl ?_
      refine wl X56 hx hby 31 dm8_31 rfl ?_
      obtain ⟨cq57, kq57, q57a, q57b, q57c⟩ := isOf hZ e56 E_x
      obtain ⟨v57, _, ⟨T57, L57, k57, n57⟩, -, X57, ⟨Lc57, hQ57, l57, y57, z57⟩, st57⟩ := X56.virtualBack hx (y := (⟨"java/lang/String", "charAt", "(I)C"⟩ : MethodName)) (z := (⟨"java/lang/String", "charAt", "(I)C"⟩ : MethodName)) hown (mvT hZ (tw hw 213 rfl)) (mvT hZ (tw hw 214 rfl)) (notFace_of_selects (args := #[]) (mvT hZ (tw hw 216 rfl))) (mvT hZ (tw hw 216 rfl)) (mvT hZ (tw hw 215 rfl)) (by decide) (backOf (W := 0) (rm_ca l Z a0 hw [] x t kt ts ps G1 G3 h0 n0 O0 O2 P5 O4 rG3 OA OH OL E_x Fv_x Fc_x V_t hts hot (by omega)) hZ (tw hw 217 rfl) (tw hw 11 rfl) (by decide) (by decide)) q57a q57c (g := (mkF m 32 #[rv x, iv (Int32.ofNat ps), iv c] [(.int (Int32.ofNat ps)), (.ref x)])) rfl (by rw [hml]; rfl) (Steps.refl _) (argsL := [(.int (Int32.ofNat ps))]) (rest := []) (lenOf pd_6 rfl) rfl (by show 2 * 0 + _ ≤ _; exact Nat.le_of_eq rfl) (hb hby dm8_32) (fun _ _ => ⟨rfl, e56, (by decide : 0 + 0 ≤ _), (by decide : 0 + 0 ≤ _)⟩)
      dsimp only [Pt.U, Pt.locs, Pt.cells, Pt.slots] at X57 l57 y57 z57 st57 hQ57
      subst l57 y57 z57
      refine own_gos st57 ?_
      obtain ⟨rfl, Nq57, e57⟩ := hQ57
      have N57 := Fr.app N56 Nq57
      refine wl X57 hx hby 35 dm8_35 rfl ?_
      try dsimp only [mkF]
      refine wn X57 hx hby 36 dm8_36 (teq (hp.2 0 (Nat.le_of_ble_eq_true rfl))).2 ?_
      refine wl X57 hx hby 39 dm8_39 rfl ?_
      refine wc X57 hx hby 40 dm8_40 ?_
      refine og (fun _ k => XS.iadd X57.here hx rfl (hb hby dm8_41) rfl k) ?_
      show own_Go p e below (T57.setTop (mkF m 42 #[rv x, iv (Int32.ofNat ps), iv c] [(.int ((Int32.ofNat ps) + (1 : Int32)))])) _
      rw [own_inc]
      try dsimp only [mkF]
      refine wg X57 hx hby 42 46 dm8_42 ?_
      refine own_fin (v := (some (.int (Int32.ofNat (ps + 1))))) X57 (fun h => by rw [hrt] at h; cases h) hlk (fun fs hr => retI X57 hx hrt (hb hby dm8_46) hr) (QQ := QPure (some (.int (Int32.ofNat (ps + ([c]).length)))) h0 n0) ?_ (by decide) (by decide)
      rw [e57]
      exact ⟨rfl, N57, rfl⟩
  · skip
    refine wy X0 hx hby 4 54 dm8_4 (flt hc52).2.1 ?_
    refine wl X0 hx hby 54 dm8_54 rfl ?_
    try dsimp only [mkF]
    refine og (fun _ k => XS.sipush X0.here hx rfl (hb hby dm8_55) k) ?_
    by_cases hc58 : c < (2048 : Int32)
    · skip
      refine wn X0 hx hby 58 dm8_58 (tlt hc58).2.1 ?_
      have eE : own_enc c = own_es (own_b2 c) ++ own_es (own_bl c) := by unfold own_enc; rw [if_neg hc52, if_pos hc58]
      rw [eE] at hp ⊢
      have hq := own_preA hp
      refine wa X0 hx hby 61 dm8_61 rfl rfl ?_
      refine wa X0 hx hby 62 dm8_62 rfl rfl ?_
      refine wl X0 hx hby 63 dm8_63 rfl ?_
      try dsimp only [mkF]
      refine og (fun _ k => XS.sipush X0.here hx rfl (hb hby dm8_64) k) ?_
      refine wl X0 hx hby 67 dm8_67 rfl ?_
      refine wp X0 hx hby 68 dm8_68 ?_
      refine og (fun _ k => XS.ishr X0.here hx rfl (hb hby dm8_70) rfl k) ?_
      refine og (fun _ k => XS.ior X0.here hx rfl (hb hby dm8_71) rfl k) ?_
      try dsimp only [mkF]
      obtain ⟨v59, _, ⟨T59, L59, k59, n59⟩, -, X59, ⟨Lc59, hQ59, l59, y59, z59⟩, st59⟩ := Jvm.LawKit.callS X0 hx (y := (⟨"com/example/cohortwise/cohortwise/http/RequestsPathPinLaw", "esc", "(Ljava/lang/String;II)I"⟩ : MethodName)) hown (mvT hZ (tw hw 232 rfl)) (mvT hZ (tw hw 233 rfl)) (mvT hZ (tw hw 2 rfl)) (mvT hZ (tw hw 234 rfl)) (by decide) (backOf (W := 1) (rm_esc l Z a0 hw [] x t kt ts ps ((192 : Int32) ||| (c >>> ((6 : Int32) &&& 31))) G1 G3 h0 n0 O0 O2 P5 O4 rG3 OA OH OL E_x Fv_x Fc_x V_t hts hot hq.1) hZ (tw hw 234 rfl) (tw hw 2 rfl) (by decide) (by decide)) (g := (mkF m 72 #[rv x, iv (Int32.ofNat ps), iv c] [(.int ((192 : Int32) ||| (c >>> ((6 : Int32) &&& 31)))), (.int (Int32.ofNat ps)), (.ref x), (.ref x)])) rfl (by rw [hml]; rfl) (argsL := [(.ref x), (.int (Int32.ofNat ps)), (.int ((192 : Int32) ||| (c >>> ((6 : Int32) &&& 31))))]) (rest := [(.ref x)]) (lenOf pd_8 rfl) rfl (by show 2 * 0 + _ ≤ _; exact Nat.le_of_eq rfl) (hb hby dm8_72) (fun _ _ => ⟨rfl, e0, (by decide : 0 + 0 ≤ _), (by decide : 0 + 0 ≤ _)⟩)
      dsimp only [Pt.U, Pt.locs, Pt.cells, Pt.slots] at X59 l59 y59 z59 st59 hQ59
      subst l59 y59 z59
      refine own_go st59 ?_
      obtain ⟨rfl, Nq59, e59⟩ := hQ59
      have N59 := Fr.app N0 Nq59
      refine og (fun _ k => XS.sipush X59.here hx rfl (hb hby dm8_75) k) ?_
      refine wl X59 hx hby 78 dm8_78 rfl ?_
      refine wp X59 hx hby 79 dm8_79 ?_
      refine og (fun _ k => XS.iand X59.here hx rfl (hb hby dm8_81) rfl k) ?_
      try dsimp only [mkF]
      refine og (fun _ k => XS.ior X59.here hx rfl (hb hby dm8_82) rfl k) ?_
      obtain ⟨v60, _, ⟨T60, L60, k60, n60⟩, -, X60, ⟨Lc60, hQ60, l60, y60, z60⟩, st60⟩ := Jvm.LawKit.callS X59 hx (y := (⟨"com/example/cohortwise/cohortwise/http/RequestsPathPinLaw", "esc", "(Ljava/lang/String;II)I"⟩ : MethodName)) hown (mvT hZ (tw hw 232 rfl)) (mvT hZ (tw hw 233 rfl)) (mvT hZ (tw hw 2 rfl)) (mvT hZ (tw hw 234 rfl)) (by decide) (backOf (W := 0) (rm_esc l Z a0 hw [] x t kt ts (ps + 3) ((128 : Int32) ||| (c &&& (63 : Int32))) G1 G3 h0 n0 O0 O2 P5 O4 rG3 OA OH OL E_x Fv_x Fc_x V_t hts hot hq.2) hZ (tw hw 234 rfl) (tw hw 2 rfl) (by decide) (by decide)) (g := (mkF m 83 #[rv x, iv (Int32.ofNat ps), iv c] [(.int ((128 : Int32) ||| (c &&& (63 : Int32)))), (.int (Int32.ofNat (ps + 3))), (.ref x)])) rfl (by rw [hml]; rfl) (argsL := [(.ref x), (.int (Int32.ofNat (ps + 3))), (.int ((128 : Int32) ||| (c &&& (63 : Int32))))]) (rest := []) (lenOf pd_8 rfl) rfl (by show 2 * 0 + _ ≤ _; exact Nat.le_of_eq rfl) (hb hby dm8_83) (fun _ _ => ⟨rfl, e59, (by decide : 0 + 0 ≤ _), (by decide : 0 + 0 ≤ _)⟩)
      dsimp only [Pt.U, Pt.locs, Pt.cells, Pt.slots] at X60 l60 y60 z60 st60 hQ60
      subst l60 y60 z60
      refine own_go st60 ?_
      obtain ⟨rfl, Nq60, e60⟩ := hQ60
      have N60 := Fr.app N59 Nq60
      refine own_fin (v := (some (.int (Int32.ofNat ((ps + 3) + 3))))) X60 (fun h => by rw [hrt] at h; cases h) hlk (fun fs hr => retI X60 hx hrt (hb hby dm8_86) hr) (QQ := QPure (some (.int (Int32.ofNat (ps + (own_es (own_b2 c) ++ own_es (own_bl c)).length)))) h0 n0) ?_ (by decide) (by decide)
      rw [e60]
      exact ⟨rfl, N60, rfl⟩
    · skip
      refine wy X0 hx hby 58 87 dm8_58 (flt hc58).2.1 ?_
      have eE : own_enc c = (own_es (own_b3 c) ++ own_es (own_bm c)) ++ own_es (own_bl c) := by unfold own_enc; rw [if_neg hc52, if_neg hc58]
      rw [eE] at hp ⊢
      have hq := own_preA hp
      have hq1 := own_preA hq.1
      refine wa X0 hx hby 87 dm8_87 rfl rfl ?_
      refine wa X0 hx hby 88 dm8_88 rfl rfl ?_
      refine wa X0 hx hby 89 dm8_89 rfl rfl ?_
      try dsimp only [mkF]
      refine wl X0 hx hby 90 dm8_90 rfl ?_
      refine og (fun _ k => XS.sipush X0.here hx rfl (hb hby dm8_91) k) ?_
      refine wl X0 hx hby 94 dm8_94 rfl ?_
      refine wp X0 hx hby 95 dm8_95 ?_
      refine og (fun _ k => XS.ishr X0.here hx rfl (hb hby dm8_97) rfl k) ?_
      try dsimp only [mkF]
      refine og (fun _ k => XS.ior X0.here hx rfl (hb hby dm8_98) rfl k) ?_
      obtain ⟨v61, _, ⟨T61, L61, k61, n61⟩, -, X61, ⟨Lc61, hQ61, l61, y61, z61⟩, st61⟩ := Jvm.LawKit.callS X0 hx (y := (⟨"com/example/cohortwise/cohortwise/http/RequestsPathPinLaw", "esc", "(Ljava/lang/String;II)I"⟩ : MethodName)) hown (mvT hZ (tw hw 232 rfl)) (mvT hZ (tw hw 233 rfl)) (mvT hZ (tw hw 2 rfl)) (mvT hZ (tw hw 234 rfl)) (by decide) (backOf (W := 2) (rm_esc l Z a0 hw [] x t kt ts ps ((224 : Int32) ||| (c >>> ((12 : Int32) &&& 31))) G1 G3 h0 n0 O0 O2 P5 O4 rG3 OA OH OL E_x Fv_x Fc_x V_t hts hot hq1.1) hZ (tw hw 234 rfl) (tw hw 2 rfl) (by decide) (by decide)) (g := (mkF m 99 #[rv x, iv (Int32.ofNat ps), iv c] [(.int ((224 : Int32) ||| (c >>> ((12 : Int32) &&& 31)))), (.int (Int32.ofNat ps)), (.ref x), (.ref x), (.ref x)])) rfl (by rw [hml]; rfl) (argsL := [(.ref x), (.int (Int32.ofNat ps)), (.int ((224 : Int32) ||| (c >>> ((12 : Int32) &&& 31))))]) (rest := [(.ref x), (.ref x)]) (lenOf pd_8 rfl) rfl (by show 2 * 0 + _ ≤ _; exact Nat.le_of_eq rfl) (hb hby dm8_99) (fun _ _ => ⟨rfl, e0, (by decide : 0 + 0 ≤ _), (by decide : 0 + 0 ≤ _)⟩)
      dsimp only [Pt.U, Pt.locs, Pt.cells, Pt.slots] at X61 l61 y61 z61 st61 hQ61
      subst l61 y61 z61
      refine own_go st61 ?_
      obtain ⟨rfl, Nq61, e61⟩ := hQ61
      have N61 := Fr.app N0 Nq61
      refine og (fun _ k => XS.sipush X61.here hx rfl (hb hby dm8_102) k) ?_
      refine wl X61 hx hby 105 dm8_105 rfl ?_
      refine wp X61 hx hby 106 dm8_106 ?_
      try dsimp only [mkF]
      refine og (fun _ k => XS.ishr X61.here hx rfl (hb hby dm8_108) rfl k) ?_
      refine wp X61 hx hby 109 dm8_109 ?_
      refine og (fun _ k => XS.iand X61.here hx rfl (hb hby dm8_111) rfl k) ?_
      refine og (fun _ k => XS.ior X61.here hx rfl (hb hby dm8_112) rfl k) ?_
      obtain ⟨v62, _, ⟨T62, L62, k62, n62⟩, -, X62, ⟨Lc62, hQ62, l62, y62, z62⟩, st62⟩ := Jvm.LawKit.callS X61 hx (y := (⟨"com/example/cohortwise/cohortwise/http/RequestsPathPinLaw", "esc", "(Ljava/lang/String;II)I"⟩ : MethodName)) hown (mvT hZ (tw hw 232 rfl)) (mvT hZ (tw hw 233 rfl)) (mvT hZ (tw hw 2 rfl)) (mvT hZ (tw hw 234 rfl)) (by decide) (backOf (W := 1) (rm_esc l Z a0 hw [] x t kt ts (ps + 3) ((128 : Int32) ||| ((c >>> ((6 : Int32) &&& 31)) &&& (63 : Int32))) G1 G3 h0 n0 O0 O2 P5 O4 rG3 OA OH OL E_x Fv_x Fc_x V_t hts hot hq1.2) hZ (tw hw 234 rfl) (tw hw 2 rfl) (by decide) (by decide)) (g := (mkF m 113 #[rv x, iv (Int32.ofNat ps), iv c] [(.int ((128 : Int32) ||| ((c >>> ((6 : Int32) &&& 31)) &&& (63 : Int32)))), (.int (Int32.ofNat (ps + 3))), (.ref x), (.ref x)])) rfl (by rw [hml]; rfl) (argsL := [(.ref x), (.int (Int32.ofNat (ps + 3))), (.int ((128 : Int32) ||| ((c >>> ((6 : Int32) &&& 31)) &&& (63 : Int32))))]) (rest := [(.ref x)]) (lenOf pd_8 rfl) rfl (by show 2 * 0 + _ ≤ _; exact Nat.le_of_eq rfl) (hb hby dm8_113) (fun _ _ => ⟨rfl, e61, (by decide : 0 + 0 ≤ _), (by decide : 0 + 0 ≤ _)⟩)
      dsimp only [Pt.U, Pt.locs, Pt.cells, Pt.slots] at X62 l62 y62 z62 st62 hQ62
      subst l62 y62 z62
      refine own_go st62 ?_
      obtain ⟨rfl, Nq62, e62⟩ := hQ62
      have N62 := Fr.app N61 Nq62
      try dsimp only [mkF]
      refine og (fun _ k => XS.sipush X62.here hx rfl (hb hby dm8_116) k) ?_
      refine wl X62 hx hby 119 dm8_119 rfl ?_
      refine wp X62 hx hby 120 dm8_120 ?_
      refine og (fun _ k => XS.iand X62.here hx rfl (hb hby dm8_122) rfl k) ?_
      refine og (fun _ k => XS.ior X62.here hx rfl (hb hby dm8_123) rfl k) ?_
      try dsimp only [mkF]
      obtain ⟨v63, _, ⟨T63, L63, k63, n63⟩, -, X63, ⟨Lc63, hQ63, l63, y63, z63⟩, st63⟩ := Jvm.LawKit.callS X62 hx (y := (⟨"com/example/cohortwise/cohortwise/http/RequestsPathPinLaw", "esc", "(Ljava/lang/String;II)I"⟩ : MethodName)) hown (mvT hZ (tw hw 232 rfl)) (mvT hZ (tw hw 233 rfl)) (mvT hZ (tw hw 2 rfl)) (mvT hZ (tw hw 234 rfl)) (by decide) (backOf (W := 0) (rm_esc l Z a0 hw [] x t kt ts (ps + 3 + 3) ((128 : Int32) ||| (c &&& (63 : Int32))) G1 G3 h0 n0 O0 O2 P5 O4 rG3 OA OH OL E_x Fv_x Fc_x V_t hts hot hq.2) hZ (tw hw 234 rfl) (tw hw 2 rfl) (by decide) (by decide)) (g := (mkF m 124 #[rv x, iv (Int32.ofNat ps), iv c] [(.int ((128 : Int32) ||| (c &&& (63 : Int32)))), (.int (Int32.ofNat ((ps + 3) + 3))), (.ref x)])) rfl (by rw [hml]; rfl) (argsL := [(.ref x), (.int (Int32.ofNat ((ps + 3) + 3))), (.int ((128 : Int32) ||| (c &&& (63 : Int32))))]) (rest := []) (lenOf pd_8 rfl) rfl (by show 2 * 0 + _ ≤ _; exact Nat.le_of_eq rfl) (hb hby dm8_124) (fun _ _ => ⟨rfl, e62, (by decide : 0 + 0 ≤ _), (by decide : 0 + 0 ≤ _)⟩)
      dsimp only [Pt.U, Pt.locs, Pt.cells, Pt.slots] at X63 l63 y63 z63 st63 hQ63
      subst l63 y63 z63
      refine own_go st63 ?_
      obtain ⟨rfl, Nq63, e63⟩ := hQ63
      have N63 := Fr.app N62 Nq63
      refine own_fin (v := (some (.int (Int32.ofNat ((ps + 3 + 3) + 3))))) X63 (fun h => by rw [hrt] at h; cases h) hlk (fun fs hr => retI X63 hx hrt (hb hby dm8_127) hr) (QQ := QPure (some (.int (Int32.ofNat (ps + ((own_es (own_b3 c) ++ own_es (own_bm c)) ++ own_es (own_bl c)).length)))) h0 n0) ?_ (by decide) (by decide)
      rw [e63]
      exact ⟨rfl, N63, rfl⟩

abbrev km9 := method_9_code
theorem dm9_0:Dk km9 0 (.iload_n 1) 1:=kk
theorem dm9_1:Dk km9 1 (.ifCond .lt 21) 3:=kk
theorem dm9_4:Dk km9 4 (.iload_n 1) 1:=kk
theorem dm9_5:Dk km9 5 (.aload_n 0) 1:=kk
theorem dm9_6:Dk km9 6 (.invokevirtual 29) 3:=kk
theorem dm9_9:Dk km9 9 (.if_icmp .ge 13) 3:=kk
theorem dm9_12:Dk km9 12 (.aload_n 0) 1:=kk
theorem dm9_13:Dk km9 13 (.iload_n 1) 1:=kk
theorem dm9_14:Dk km9 14 (.invokevirtual 43) 3:=kk
theorem dm9_17:Dk km9 17 (.bipush 47) 2:=kk
theorem dm9_19:Dk km9 19 (.if_icmp .eq 5) 3:=kk
theorem dm9_24:Dk km9 24 (.iload_n 1) 1:=kk
theorem dm9_25:Dk km9 25 (.iconst 1) 1:=kk
theorem dm9_26:Dk km9 26 (.iadd) 1:=kk
theorem dm9_27:Dk km9 27 (.istore 5) 2:=kk
theorem dm9_29:Dk km9 29 (.iload_n 2) 1:=kk
theorem dm9_30:Dk km9 30 (.iconst 1) 1:=kk
theorem dm9_31:Dk km9 31 (.if_icmp .lt 12) 3:=kk
theorem dm9_43:Dk km9 43 (.iload_n 2) 1:=kk
theorem dm9_44:Dk km9 44 (.iconst 2) 1:=kk
theorem dm9_45:Dk km9 45 (.if_icmp .lt 13) 3:=kk
theorem dm9_58:Dk km9 58 (.iload 5) 2:=kk
theorem dm9_60:Dk km9 60 (.ireturn) 1:=kk
theorem dm9_34:Dk km9 34 (.aload_n 0) 1:=kk
theorem dm9_35:Dk km9 35 (.iload 5) 2:=kk
theorem dm9_37:Dk km9 37 (.iload_n 3) 1:=kk
theorem dm9_38:Dk km9 38 (.invokestatic 57) 3:=kk
theorem dm9_41:Dk km9 41 (.istore 5) 2:=kk
theorem dm9_48:Dk km9 48 (.aload_n 0) 1:=kk
theorem dm9_49:Dk km9 49 (.iload 5) 2:=kk
theorem dm9_51:Dk km9 51 (.iload 4) 2:=kk
theorem dm9_53:Dk km9 53 (.invokestatic 57) 3:=kk
theorem dm9_56:Dk km9 56 (.istore 5) 2:=kk
set_option maxRecDepth 65536 in
set_option maxHeartbeats 40000000 in
theorem rm_sgc (l : Launch) (Z : State) (a0 : Array Value) (hw : ∀ d ∈ tables_1, d.before a0 Z = true) (ws : List Jvm.Cond) (x t : Addr) (kt : ClassId) (ts : List Int32) (ps : Nat) (n c d G1 : Int32) (G3 : Value) (h0 : Heap) (n0 : Nat) (O0 : Old Z n0 h0) (O2 : Sta Z Z.heap "java/lang/String" "COMPACT_STRINGS" "Z" (.int G1)) (P5 : ¬ (G1 = (0 : Int32))) (O4 : Sta Z Z.heap "jdk/internal/util/Preconditions" "SIOOBE_FORMATTER" "Ljava/util/function/BiFunction;" G3) (rG3 : G3.isRef = true) (OA : Sta Z Z.heap "java/lang/StringUTF16" "$assertionsDisabled" "Z" (.int (1 : Int32))) (OH : Sta Z Z.heap "java/lang/StringUTF16" "HI_BYTE_SHIFT" "I" (.int (0 : Int32))) (OL : Sta Z Z.heap "java/lang/StringUTF16" "LO_BYTE_SHIFT" "I" (.int (8 : Int32))) (E_x : Exa Z h0 x "java/lang/String") (Fv_x : Fld Z h0 x "java/lang/String" "value" "[B" (.ref t)) (Fc_x : Fld Z h0 x "java/lang/String" "coder" "B" (.int (0 : Int32))) (V_t : Arv Z h0 t kt .byte (Int32.ofNat ts.length) (own_lat ts) (.int (0 : Int32))) (hts : ∀ c ∈ ts, ¬ (255 : Int32) < c) (hot : own_Ok ts) (hp : own_pre ts ps ([47] ++ own_encs (own_sg n c d))) (hn : n = 0 ∨ n = 1 ∨ n = 2) :
    own_TN l Z ws h0 (⟨"com/example/cohortwise/cohortwise/http/RequestsPathPinLaw", "segChk", "(Ljava/lang/String;IICC)I"⟩ : MethodName) method_9_code 6 (some .int) ⟨6, 0, 0, 83⟩ #[(.ref x), (.int (Int32.ofNat ps)), (.int n), (.int c), (.int d)] (QPure (some (.int (Int32.ofNat (ps + 1 + (own_encs (own_sg n c d)).length)))) h0 n0) 0 0 := by
  refine own_bN "com/example/cohortwise/cohortwise/http/RequestsPathPinLaw" #[rv x, iv (Int32.ofNat ps), iv n, iv c, iv d, .unset] (pf pn_5 rfl) rfl O0 (fun m => own_e) ?_
  intro p e s m below meth cC s₁ hZ hh hx hby hml hown hnm hrt hlk X0 e0 N0 Z0
  have hlen : ts.length ≤ 4000 := hot.2
  have hp1 := own_preA (as := [47]) hp
  have hle : ps + 1 ≤ ts.length := hp1.1.1
  refine wl X0 hx hby 0 dm9_0 rfl ?_
  refine we X0 hx hby 1 dm9_1 ((if0 _ _).trans (flt (own_nn0 (by omega))).1) ?_
  refine wl X0 hx hby 4 dm9_4 rfl ?_
  refine wa X0 hx hby 5 dm9_5 rfl rfl ?_
  try dsimp only [mkF]
  obtain ⟨cq64, kq64, q64a, q64b, q64c⟩ := isOf hZ e0 E_x
  obtain ⟨v64, _, ⟨T64, L64, k64, n64⟩, -, X64, ⟨Lc64, hQ64, l64, y64, z64⟩, st64⟩ := X0.virtualBack hx (y := (⟨"java/lang/String", "length", "()I"⟩ : MethodName)) (z := (⟨"java/lang/String", "length", "()I"⟩ : MethodName)) hown (mvT hZ (tw hw 105 rfl)) (mvT hZ (tw hw 106 rfl)) (notFace_of_selects (args := #[]) (mvT hZ (tw hw 108 rfl))) (mvT hZ (tw hw 108 rfl)) (mvT hZ (tw hw 107 rfl)) (by decide) (StrChars.Road.lenW (W := 1) hZ (own_wLen hw) (kI := 4) (tw hw 10 rfl) E_x Fv_x Fc_x V_t (Or.inl ⟨rfl, rfl, rfl, hts⟩) (hot.1) (O2.ext O0.2) P5 hot.2 (by decide) (by decide)) q64a q64c (g := (mkF m 6 #[rv x, iv (Int32.ofNat ps), iv n, iv c, iv d, .unset] [(.ref x), (.int (Int32.ofNat ps))])) rfl (by rw [hml]; rfl) (Steps.refl _) (argsL := []) (rest := [(.int (Int32.ofNat ps))]) (lenOf pd_1 rfl) rfl (by show 2 * 0 + _ ≤ _; exact Nat.le_of_eq rfl) (hb hby dm9_6) (fun _ _ => ⟨rfl, e0, (by decide : 0 + 0 ≤ _), (by decide : 0 + 0 ≤ _)⟩)
  dsimp only [Pt.U, Pt.locs, Pt.cells, Pt.slots] at X64 l64 y64 z64 st64 hQ64
  subst l64 y64 z64
  refine own_gos st64 ?_
  obtain ⟨rfl, rfl, e64⟩ := hQ64
  have Nq64 : Fr n0 ([] : List Loc) := Fr.nil n0
  have N64 := Fr.app N0 Nq64
  refine wn X64 hx hby 9 dm9_9 (tlt ((own_lti (by omega) (by omega)).mpr (by omega))).2.1 ?_
  refine wa X64 hx hby 12 dm9_12 rfl rfl ?_
  refine wl X64 hx hby 13 dm9_13 rfl ?_
  obtain ⟨cq65, kq65, q65a, q65b, q65c⟩ := isOf hZ e64 E_x
  obtain ⟨v65, _, ⟨T65, L65, k65, n65⟩, -, X65, ⟨Lc65, hQ65, l65, y65, z65⟩, st65⟩ := X64.virtualBack hx (y := (⟨"java/lang/String", "charAt", "(I)C"⟩ : MethodName)) (z := (⟨"java/lang/String", "charAt", "(I)C"⟩ : MethodName)) hown (mvT hZ (tw hw 213 rfl)) (mvT hZ (tw hw 214 rfl)) (notFace_of_selects (args := #[]) (mvT hZ (tw hw 216 rfl))) (mvT hZ (tw hw 216 rfl)) (mvT hZ (tw hw 215 rfl)) (by decide) (backOf (W := 0) (rm_ca l Z a0 hw [] x t kt ts ps G1 G3 h0 n0 O0 O2 P5 O4 rG3 OA OH OL E_x Fv_x Fc_x V_t hts hot (by omega)) hZ (tw hw 217 rfl) (tw hw 11 rfl) (by decide) (by decide)) q65a q65c (g := (mkF m 14 #[rv x, iv (Int32.ofNat ps), iv n, iv c, iv d, .unset] [(.int (Int32.ofNat ps)), (.ref x)])) rfl (by rw [hml]; rfl) (Steps.refl _) (argsL := [(.int (Int32.ofNat ps))]) (rest := []) (lenOf pd_6 rfl) rfl (by show 2 * 0 + _ ≤ _; exact Nat.le_of_eq rfl) (hb hby dm9_14) (fun _ _ => ⟨rfl, e64, (by decide : 0 + 0 ≤ _), (by decide : 0 + 0 ≤ _)⟩)
  dsimp only [Pt.U, Pt.locs, Pt.cells, Pt.slots] at X65 l65 y65 z65 st65 hQ65
  subst l65 y65 z65
  refine own_gos st65 ?_
  obtain ⟨rfl, Nq65, e65⟩ := hQ65
  have N65 := Fr.app N64 Nq65
  try dsimp only [mkF]
  refine wp X65 hx hby 17 dm9_17 ?_
  refine wy X65 hx hby 19 24 dm9_19 (teq (hp1.1.2 0 (Nat.le_of_ble_eq_true rfl))).1 ?_
  refine wl X65 hx hby 24 dm9_24 rfl ?_
  refine wc X65 hx hby 25 dm9_25 ?_
  refine og (fun _ k => XS.iadd X65.here hx rfl (hb hby dm9_26) rfl k) ?_
  try dsimp only [mkF]
  show own_Go p e below (T65.setTop (mkF m 27 #[rv x, iv (Int32.ofNat ps), iv n, iv c, iv d, .unset] [(.int ((Int32.ofNat ps) + (1 : Int32)))])) _
  rw [own_inc]
  refine wz X65 hx hby 27 #[rv x, iv (Int32.ofNat ps), iv n, iv c, iv d, iv (Int32.ofNat (ps + 1))] dm9_27 rfl ?_
  rcases hn with hn0 | hn0 | hn0
  · skip
    have eS : own_sg n c d = [] := by unfold own_sg; rw [if_pos hn0]
    rw [eS] at hp1 ⊢
    refine wl X65 hx hby 29 dm9_29 rfl ?_
    refine wc X65 hx hby 30 dm9_30 ?_
    try dsimp only [mkF]
    refine wy X65 hx hby 31 43 dm9_31 (tlt (by rw [hn0]; decide)).1 ?_
    refine wl X65 hx hby 43 dm9_43 rfl ?_
    refine wc X65 hx hby 44 dm9_44 ?_
    refine wy X65 hx hby 45 58 dm9_45 (tlt (by rw [hn0]; decide)).1 ?_
    refine wm X65 hx hby 58 dm9_58 rfl ?_
    try dsimp only [mkF]
    refine own_fin (v := (some (.int (Int32.ofNat (ps + 1))))) X65 (fun h => by rw [hrt] at h; cases h) hlk (fun fs hr => retI X65 hx hrt (hb hby dm9_60) hr) (QQ := QPure (some (.int (Int32.ofNat (ps + 1 + (own_encs ([] : List Int32)).length)))) h0 n0) ?_ (by decide) (by decide)
    rw [e65]
    exact ⟨rfl, N65, rfl⟩
  · skip
    have eS : own_sg n c d = [c] := by unfold own_sg; rw [if_neg (by rw [hn0]; decide), if_pos hn0]
    rw [eS] at hp1 ⊢
    have hq1 : own_pre ts (ps + 1) (own_enc c) := own_enc1 c ▸ hp1.2
    refine wl X65 hx hby 29 dm9_29 rfl ?_
    refine wc X65 hx hby 30 dm9_30 ?_
    try dsimp only [mkF]
    refine wn X65 hx hby 31 dm9_31 (flt (by rw [hn0]; decide)).1 ?_
    refine wa X65 hx hby 34 dm9_34 rfl rfl ?_
    refine wm X65 hx hby 35 dm9_35 rfl ?_
    refine wl X65 hx hby 37 dm9_37 rfl ?_
    obtain ⟨v66, _, ⟨T66, L66, k66, n66⟩, -, X66, ⟨Lc66, hQ66, l66, y66, z66⟩, st66⟩ := Jvm.LawKit.callS X65 hx (y := (⟨"com/example/cohortwise/cohortwise/http/RequestsPathPinLaw", "one", "(Ljava/lang/String;II)I"⟩ : MethodName)) hown (mvT hZ (tw hw 229 rfl)) (mvT hZ (tw hw 230 rfl)) (mvT hZ (tw hw 2 rfl)) (mvT hZ (tw hw 231 rfl)) (by decide) (backOf (W := 0) (rm_one l Z a0 hw [] x t kt ts (ps + 1) c G1 G3 h0 n0 O0 O2 P5 O4 rG3 OA OH OL E_x Fv_x Fc_x V_t hts hot hq1) hZ (tw hw 231 rfl) (tw hw 2 rfl) (by decide) (by decide)) (g := (mkF m 38 #[rv x, iv (Int32.ofNat ps), iv n, iv c, iv d, iv (Int32.ofNat (ps + 1))] [(.int c), (.int (Int32.ofNat (ps + 1))), (.ref x)])) rfl (by rw [hml]; rfl) (argsL := [(.ref x), (.int (Int32.ofNat (ps + 1))), (.int c)]) (rest := []) (lenOf pd_8 rfl) rfl (by show 2 * 0 + _ ≤ _; exact Nat.le_of_eq rfl) (hb hby dm9_38) (fun _ _ => ⟨rfl, e65, (by decide : 0 + 0 ≤ _), (by decide : 0 + 0 ≤ _)⟩)
    dsimp only [Pt.U, Pt.locs, Pt.cells, Pt.slots] at X66 l66 y66 z66 st66 hQ66
    subst l66 y66 z66
    refine own_go st66 ?_
    obtain ⟨rfl, Nq66, e66⟩ := hQ66
    have N66 := Fr.app N65 Nq66
    try dsimp only [mkF]
    refine wz X66 hx hby 41 #[rv x, iv (Int32.ofNat ps), iv n, iv c, iv d, iv (Int32.ofNat ((ps + 1) + (own_enc c).length))] dm9_41 rfl ?_
    refine wl X66 hx hby 43 dm9_43 rfl ?_
    refine wc X66 hx hby 44 dm9_44 ?_
    refine wy X66 hx hby 45 58 dm9_45 (tlt (by rw [hn0]; decide)).1 ?_
    refine wm X66 hx hby 58 dm9_58 rfl ?_
    try dsimp only [mkF]
    refine own_fin (v := (some (.int (Int32.ofNat ((ps + 1) + (own_enc c).length))))) X66 (fun h => by rw [hrt] at h; cases h) hlk (fun fs hr => retI X66 hx hrt (hb hby dm9_60) hr) (QQ := QPure (some (.int (Int32.ofNat (ps + 1 + (own_encs [c]).length)))) h0 n0) ?_ (by decide) (by decide)
    rw [e66]
    exact ⟨congrArg (fun z => some (Value.int (Int32.ofNat z))) (by rw [own_enc1]), N66, rfl⟩
  · skip
    have eS : own_sg n c d = [c, d] := by unfold own_sg; rw [if_neg (by rw [hn0]; decide), if_neg (by rw [hn0]; decide)]
    rw [eS] at hp1 ⊢
    have hqq := own_preA (own_enc2 c d ▸ hp1.2)
    have hq1 : own_pre ts (ps + 1) (own_enc c) := hqq.1
    have hq2 : own_pre ts (ps + 1 + (own_enc c).length) (own_enc d) := hqq.2
    refine wl X65 hx hby 29 dm9_29 rfl ?_
    refine wc X65 hx hby 30 dm9_30 ?_
    try dsimp only [mkF]
    refine wn X65 hx hby 31 dm9_31 (flt (by rw [hn0]; decide)).1 ?_
    refine wa X65 hx hby 34 dm9_34 rfl rfl ?_
    refine wm X65 hx hby 35 dm9_35 rfl ?_
    refine wl X65 hx hby 37 dm9_37 rfl ?_
    obtain ⟨v67, _, ⟨T67, L67, k67, n67⟩, -, X67, ⟨Lc67, hQ67, l67, y67, z67⟩, st67⟩ := Jvm.LawKit.callS X65 hx (y := (⟨"com/example/cohortwise/cohortwise/http/RequestsPathPinLaw", "one", "(Ljava/lang/String;II)I"⟩ : MethodName)) hown (mvT hZ (tw hw 229 rfl)) (mvT hZ (tw hw 230 rfl)) (mvT hZ (tw hw 2 rfl)) (mvT hZ (tw hw 231 rfl)) (by decide) (backOf (W := 0) (rm_one l Z a0 hw [] x t kt ts (ps + 1) c G1 G3 h0 n0 O0 O2 P5 O4 rG3 OA OH OL E_x Fv_x Fc_x V_t hts hot hq1) hZ (tw hw 231 rfl) (tw hw 2 rfl) (by decide) (by decide)) (g := (mkF m 38 #[rv x, iv (Int32.ofNat ps), iv n, iv c, iv d, iv (Int32.ofNat (ps + 1))] [(.int c), (.int (Int32.ofNat (ps + 1))), (.ref x)])) rfl (by rw [hml]; rfl) (argsL := [(.ref x), (.int (Int32.ofNat (ps + 1))), (.int c)]) (rest := []) (lenOf pd_8 rfl) rfl (by show 2 * 0 + _ ≤ _; exact Nat.le_of_eq rfl) (hb hby dm9_38) (fun _ _ => ⟨rfl, e65, (by decide : 0 + 0 ≤ _), (by decide : 0 + 0 ≤ _)⟩)
    dsimp only [Pt.U, Pt.locs, Pt.cells, Pt.slots] at X67 l67 y67 z67 st67 hQ67
    subst l67 y67 z67
    refine own_go st67 ?_
    obtain ⟨rfl, Nq67, e67⟩ := hQ67
    have N67 := Fr.app N65 Nq67
    try dsimp only [mkF]
    refine wz X67 hx hby 41 #[rv x, iv (Int32.ofNat ps), iv n, iv c, iv d, iv (Int32.ofNat ((ps + 1) + (own_enc c).length))] dm9_41 rfl ?_
    refine wl X67 hx hby 43 dm9_43 rfl ?_
    refine wc X67 hx hby 44 dm9_44 ?_
    refine wn X67 hx hby 45 dm9_45 (flt (by rw [hn0]; decide)).1 ?_
    refine wa X67 hx hby 48 dm9_48 rfl rfl ?_
    try dsimp only [mkF]
    refine wm X67 hx hby 49 dm9_49 rfl ?_
    refine wm X67 hx hby 51 dm9_51 rfl ?_
    obtain ⟨v68, _, ⟨T68, L68, k68, n68⟩, -, X68, ⟨Lc68, hQ68, l68, y68, z68⟩, st68⟩ := Jvm.LawKit.callS X67 hx (y := (⟨"com/example/cohortwise/cohortwise/http/RequestsPathPinLaw", "one", "(Ljava/lang/String;II)I"⟩ : MethodName)) hown (mvT hZ (tw hw 229 rfl)) (mvT hZ (tw hw 230 rfl)) (mvT hZ (tw hw 2 rfl)) (mvT hZ (tw hw 231 rfl)) (by decide) (backOf (W := 0) (rm_one l Z a0 hw [] x t kt ts (ps + 1 + (own_enc c).length) d G1 G3 h0 n0 O0 O2 P5 O4 rG3 OA OH OL E_x Fv_x Fc_x V_t hts hot hq2) hZ (tw hw 231 rfl) (tw hw 2 rfl) (by decide) (by decide)) (g := (mkF m 53 #[rv x, iv (Int32.ofNat ps), iv n, iv c, iv d, iv (Int32.ofNat ((ps + 1) + (own_enc c).length))] [(.int d), (.int (Int32.ofNat ((ps + 1) + (own_enc c).length))), (.ref x)])) rfl (by rw [hml]; rfl) (argsL := [(.ref x), (.int (Int32.ofNat ((ps + 1) + (own_enc c).length))), (.int d)]) (rest := []) (lenOf pd_8 rfl) rfl (by show 2 * 0 + _ ≤ _; exact Nat.le_of_eq rfl) (hb hby dm9_53) (fun _ _ => ⟨rfl, e67, (by decide : 0 + 0 ≤ _), (by decide : 0 + 0 ≤ _)⟩)
    dsimp only [Pt.U, Pt.locs, Pt.cells, Pt.slots] at X68 l68 y68 z68 st68 hQ68
    subst l68 y68 z68
    refine own_go st68 ?_
    obtain ⟨rfl, Nq68, e68⟩ := hQ68
    have N68 := Fr.app N67 Nq68
    refine wz X68 hx hby 56 #[rv x, iv (Int32.ofNat ps), iv n, iv c, iv d, iv (Int32.ofNat ((ps + 1 + (own_enc c).length) + (own_enc d).length))] dm9_56 rfl ?_
    refine wm X68 hx hby 58 dm9_58 rfl ?_
    try dsimp only [mkF]
    refine own_fin (v := (some (.int (Int32.ofNat ((ps + 1 + (own_enc c).length) + (own_enc d).length))))) X68 (fun h => by rw [hrt] at h; cases h) hlk (fun fs hr => retI X68 hx hrt (hb hby dm9_60) hr) (QQ := QPure (some (.int (Int32.ofNat (ps + 1 + (own_encs [c, d]).length)))) h0 n0) ?_ (by decide) (by decide)
    rw [e68]
    exact ⟨congrArg (fun z => some (Value.int (Int32.ofNat z))) (by rw [own_enc2, List.length_append, Nat.add_assoc]), N68, rfl⟩

theorem own_apc {M : Nat} {cs : List Int32} {c : Int32} (h : cs.length < M) : (own_sM M cs).set cs.length (.int (StrChars.lo8 c)) = own_sM M (cs ++ [c]) := by
  unfold own_sM
  have e : M - cs.length = (M - (cs ++ [c]).length) + 1 := by rw [List.length_append]; simp; omega
  rw [List.set_append_right _ _ (by rw [own_latl]; exact Nat.le_refl _), own_latl, Nat.sub_self, e, own_zs, List.set_cons_zero, own_lata, List.append_assoc]
  rfl
theorem own_sNN {a b : Nat} (h : a ≤ b) (hb : b ≤ 70) : ¬ (0 : Int32) < Int32.ofNat a - Int32.ofNat b := by
  have t : ∀ x y : Fin 71, x.val ≤ y.val → ¬ (0 : Int32) < Int32.ofNat x.val - Int32.ofNat y.val := by decide +kernel
  exact t ⟨a, by omega⟩ ⟨b, by omega⟩ h
abbrev k43_3 := jdk_43_method_3_code
theorem d43_3_0:Dk k43_3 0 (.iload_n 0) 1:=kk
theorem d43_3_1:Dk k43_3 1 (.sipush 255) 3:=kk
theorem d43_3_4:Dk k43_3 4 (.if_icmp .gt 7) 3:=kk
theorem d43_3_11:Dk k43_3 11 (.iconst 0) 1:=kk
theorem d43_3_12:Dk k43_3 12 (.ireturn) 1:=kk
theorem d43_3_7:Dk k43_3 7 (.iconst 1) 1:=kk
theorem d43_3_8:Dk k43_3 8 (.goto 4) 3:=kk
set_option maxRecDepth 65536 in
set_option maxHeartbeats 40000000 in
theorem rm_cec (l : Launch) (Z : State) (a0 : Array Value) (hw : ∀ d ∈ tables_1, d.before a0 Z = true) (ws : List Jvm.Cond) (c : Int32) (h0 : Heap) (n0 : Nat) (O0 : Old Z n0 h0) :
    own_TN l Z ws h0 (⟨"java/lang/StringLatin1", "canEncode", "(C)Z"⟩ : MethodName) jdk_43_method_3_code 1 (some .boolean) ⟨0, 0, 0, 0⟩ #[(.int c)] (QPure (some (.int (own_ce c))) h0 n0) 0 0 := by
  refine own_bN "java/lang/StringLatin1" #[iv c] (pf pn_4 rfl) rfl O0 (fun m => own_e) ?_
  intro p e s m below meth cC s₁ hZ hh hx hby hml hown hnm hrt hlk X0 e0 N0 Z0
  refine wl X0 hx hby 0 d43_3_0 rfl ?_
  refine og (fun _ k => XS.sipush X0.here hx rfl (hb hby d43_3_1) k) ?_
  by_cases hc69 : (255 : Int32) < c
  · skip
    refine wy X0 hx hby 4 11 d43_3_4 (tlt hc69).2.2.1 ?_
    refine wc X0 hx hby 11 d43_3_11 ?_
    try dsimp only [mkF]
    refine own_fin (v := (some (.int (nar .boolean (0 : Int32))))) X0 (fun h => by rw [hrt] at h; cases h) hlk (fun fs hr => retN X0 hx (t := .boolean) hrt (by simp) (hb hby d43_3_12) hr) (QQ := QPure (some (.int (own_ce c))) h0 n0) ?_ (by decide) (by decide)
    rw [e0]
    exact ⟨by unfold own_ce; rw [if_pos hc69]; rfl, N0, rfl⟩
  · skip
    refine wn X0 hx hby 4 d43_3_4 (flt hc69).2.2.1 ?_
    refine wc X0 hx hby 7 d43_3_7 ?_
    try dsimp only [mkF]
    refine wg X0 hx hby 8 12 d43_3_8 ?_
    refine own_fin (v := (some (.int (nar .boolean (1 : Int32))))) X0 (fun h => by rw [hrt] at h; cases h) hlk (fun fs hr => retN X0 hx (t := .boolean) hrt (by simp) (hb hby d43_3_12) hr) (QQ := QPure (some (.int (own_ce c))) h0 n0) ?_ (by decide) (by decide)
    rw [e0]
    exact ⟨by unfold own_ce; rw [if_neg hc69]; rfl, N0, rfl⟩

abbrev k68_9 := jdk_68_method_9_code
theorem d68_9_0:Dk k68_9 0 (.aload_n 0) 1:=kk
theorem d68_9_1:Dk k68_9 1 (.getfield 15) 3:=kk
theorem d68_9_4:Dk k68_9 4 (.arraylength) 1:=kk
theorem d68_9_5:Dk k68_9 5 (.aload_n 0) 1:=kk
theorem d68_9_6:Dk k68_9 6 (.getfield 22) 3:=kk
theorem d68_9_9:Dk k68_9 9 (.ishr) 1:=kk
theorem d68_9_10:Dk k68_9 10 (.istore_n 2) 1:=kk
theorem d68_9_11:Dk k68_9 11 (.iload_n 1) 1:=kk
theorem d68_9_12:Dk k68_9 12 (.iload_n 2) 1:=kk
theorem d68_9_13:Dk k68_9 13 (.isub) 1:=kk
theorem d68_9_14:Dk k68_9 14 (.ifCond .le 24) 3:=kk
theorem d68_9_38:Dk k68_9 38 (.return_) 1:=kk
set_option maxRecDepth 65536 in
set_option maxHeartbeats 40000000 in
theorem rm_enM (l : Launch) (Z : State) (a0 : Array Value) (hw : ∀ d ∈ tables_1, d.before a0 Z = true) (ws : List Jvm.Cond) (b v : Addr) (kv : ClassId) (M : Nat) (cs : List Int32) (mm : Nat) (G1 : Int32) (G3 : Value) (h0 : Heap) (n0 : Nat) (O0 : Old Z n0 h0) (O2 : Sta Z Z.heap "java/lang/String" "COMPACT_STRINGS" "Z" (.int G1)) (P5 : ¬ (G1 = (0 : Int32))) (O4 : Sta Z Z.heap "jdk/internal/util/Preconditions" "SIOOBE_FORMATTER" "Ljava/util/function/BiFunction;" G3) (rG3 : G3.isRef = true) (OA : Sta Z Z.heap "java/lang/StringUTF16" "$assertionsDisabled" "Z" (.int (1 : Int32))) (OH : Sta Z Z.heap "java/lang/StringUTF16" "HI_BYTE_SHIFT" "I" (.int (0 : Int32))) (OL : Sta Z Z.heap "java/lang/StringUTF16" "LO_BYTE_SHIFT" "I" (.int (8 : Int32))) (E_b : Exa Z h0 b "java/lang/StringBuilder") (Fv_b : Fld Z h0 b "java/lang/AbstractStringBuilder" "value" "[B" (.ref v)) (Fc_b : Fld Z h0 b "java/lang/AbstractStringBuilder" "coder" "B" (.int (0 : Int32))) (Fn_b : Fld Z h0 b "java/lang/AbstractStringBuilder" "count" "I" (.int (Int32.ofNat cs.length))) (V_v : Arv Z h0 v kv .byte (Int32.ofNat M) (own_sM M cs) (.int (0 : Int32))) (X_v : Exa Z h0 v "[B") (hall : ∀ c ∈ cs, ¬ (255 : Int32) < c) (hok : own_Ok cs) (hM : cs.length ≤ M ∧ M ≤ 70) (g_b : n0 ≤ b) (g_v : n0 ≤ v) (hm : mm ≤ M) :
    own_TN l Z ws h0 (⟨"java/lang/AbstractStringBuilder", "ensureCapacityInternal", "(I)V"⟩ : MethodName) jdk_68_method_9_code 3 none ⟨0, 0, 0, 0⟩ #[(.ref b), (.int (Int32.ofNat mm))] (QPure (none) h0 n0) 0 0 := by
  refine own_bN "java/lang/AbstractStringBuilder" #[rv b, iv (Int32.ofNat mm), .unset] (pf pn_0 rfl) rfl O0 (fun m => own_e) ?_
  intro p e s m below meth cC s₁ hZ hh hx hby hml hown hnm hrt hlk X0 e0 N0 Z0
  have hlen : cs.length ≤ 4000 := hok.2
  obtain ⟨hcM, hM34⟩ := hM
  have hbv := Exa.neArv E_b V_v (tw hw 37 rfl)
  refine wa X0 hx hby 0 d68_9_0 rfl rfl ?_
  obtain ⟨T70, X70, e70, st70⟩ := getF X0 hx hZ hown (host := "") (Or.inl (tw hw 50 rfl)) Via.refl e0 Fv_b (g := (mkF m 1 #[rv b, iv (Int32.ofNat mm), .unset] [(.ref b)])) rfl rfl (hb hby d68_9_1)
  refine own_go st70 ?_
  obtain ⟨c71, A71, q71, S71, M71, Hs71, Gs71⟩ := id V_v
  refine og (fun _ k => X70.arraylength hx (by rw [e70]; exact A71.1) (State.isArrayOf_alike hZ.alike A71.2.1) (g := (mkF m 4 #[rv b, iv (Int32.ofNat mm), .unset] [(.ref v)])) rfl rfl (hb hby d68_9_4) _ k) ?_
  rw [len_of S71 M71]
  refine wa X70 hx hby 5 d68_9_5 rfl rfl ?_
  try dsimp only [mkF]
  obtain ⟨T72, X72, e72, st72⟩ := getF X70 hx hZ hown (host := "") (Or.inl (tw hw 52 rfl)) Via.refl e70 Fc_b (g := (mkF m 6 #[rv b, iv (Int32.ofNat mm), .unset] [(.ref b), (.int (Int32.ofNat M))])) rfl rfl (hb hby d68_9_6)
  refine own_go st72 ?_
  refine og (fun _ k => XS.ishr X72.here hx rfl (hb hby d68_9_9) rfl k) ?_
  show own_Go p e below (T72.setTop (mkF m 10 #[rv b, iv (Int32.ofNat mm), .unset] [(.int ((Int32.ofNat M) >>> ((0 : Int32) &&& 31)))])) _
  rw [StrChars.shr0]
  refine wt X72 hx hby 10 #[rv b, iv (Int32.ofNat mm), iv (Int32.ofNat M)] d68_9_10 rfl ?_
  refine wl X72 hx hby 11 d68_9_11 rfl ?_
  try dsimp only [mkF]
  refine wl X72 hx hby 12 d68_9_12 rfl ?_
  refine og (fun _ k => XS.isub X72.here hx rfl (hb hby d68_9_13) rfl k) ?_
  refine wf X72 hx hby 14 38 d68_9_14 ((if0 _ _).trans (flt (own_sNN hm (by omega))).2.2.2) ?_
  refine own_fin (v := none) X72 (fun _ => rfl) hlk (fun fs hr => X72.returnOut hx hrt (hb hby d68_9_38) hr) (QQ := QPure (none) h0 n0) ?_ (by decide) (by decide)
  rw [e72]
  exact ⟨rfl, N0, rfl⟩

theorem own_ceN {c : Int32} (h : ¬ (255 : Int32) < c) : ¬ own_ce c = 0 := by unfold own_ce; rw [if_neg h]; decide
def QAcN (Z : State) (b v : Addr) (kv : ClassId) (M : Nat) (cs : List Int32) (h0 : Heap) (n0 : Nat) (r : Option Value) (h : Heap) (L : List Loc) : Prop := r = some (.ref b) ∧ Fr n0 L ∧ Keep h0 h [b, v] ∧ Fld Z h b "java/lang/AbstractStringBuilder" "value" "[B" (.ref v) ∧ Fld Z h b "java/lang/AbstractStringBuilder" "coder" "B" (.int (0 : Int32)) ∧ Fld Z h b "java/lang/AbstractStringBuilder" "count" "I" (.int (Int32.ofNat cs.length)) ∧ Arv Z h v kv .byte (Int32.ofNat M) (own_sM M cs) (.int (0 : Int32))
def QAcG (Z : State) (b : Addr) (M : Nat) (cs : List Int32) (h0 : Heap) (n0 : Nat) (r : Option Value) (h : Heap) (L : List Loc) : Prop := ∃ (v : Addr) (kv : ClassId), r = some (.ref b) ∧ Fr n0 L ∧ Keep h0 h [b] ∧ h0.size ≤ v ∧ Fld Z h b "java/lang/AbstractStringBuilder" "value" "[B" (.ref v) ∧ Fld Z h b "java/lang/AbstractStringBuilder" "coder" "B" (.int (0 : Int32)) ∧ Fld Z h b "java/lang/AbstractStringBuilder" "count" "I" (.int (Int32.ofNat cs.length)) ∧ Arv Z h v kv .byte (Int32.ofNat M) (own_sM M cs) (.int (0 : Int32)) ∧ Exa Z h v "[B"
abbrev k68_31 := jdk_68_method_31_code
theorem d68_31_0:Dk k68_31 0 (.aload_n 0) 1:=kk
theorem d68_31_1:Dk k68_31 1 (.aload_n 0) 1:=kk
theorem d68_31_2:Dk k68_31 2 (.getfield 79) 3:=kk
theorem d68_31_5:Dk k68_31 5 (.iconst 1) 1:=kk
theorem d68_31_6:Dk k68_31 6 (.iadd) 1:=kk
theorem d68_31_7:Dk k68_31 7 (.invokevirtual 100) 3:=kk
theorem d68_31_10:Dk k68_31 10 (.aload_n 0) 1:=kk
theorem d68_31_11:Dk k68_31 11 (.invokevirtual 83) 3:=kk
theorem d68_31_14:Dk k68_31 14 (.ifCond .eq 31) 3:=kk
theorem d68_31_17:Dk k68_31 17 (.iload_n 1) 1:=kk
theorem d68_31_18:Dk k68_31 18 (.invokestatic 191) 3:=kk
theorem pd_9 : parseMethodDescriptor "(C)Z" = some ⟨[.char], some .boolean⟩ := by decide +kernel
theorem d68_31_21:Dk k68_31 21 (.ifCond .eq 24) 3:=kk
theorem d68_31_24:Dk k68_31 24 (.aload_n 0) 1:=kk
theorem d68_31_25:Dk k68_31 25 (.getfield 15) 3:=kk
theorem d68_31_28:Dk k68_31 28 (.aload_n 0) 1:=kk
theorem d68_31_29:Dk k68_31 29 (.dup) 1:=kk
theorem d68_31_30:Dk k68_31 30 (.getfield 79) 3:=kk
theorem d68_31_33:Dk k68_31 33 (.dup_x1) 1:=kk
theorem d68_31_34:Dk k68_31 34 (.iconst 1) 1:=kk
theorem d68_31_35:Dk k68_31 35 (.iadd) 1:=kk
theorem d68_31_36:Dk k68_31 36 (.putfield 79) 3:=kk
theorem d68_31_39:Dk k68_31 39 (.iload_n 1) 1:=kk
theorem d68_31_40:Dk k68_31 40 (.i2b) 1:=kk
theorem d68_31_41:Dk k68_31 41 (.bastore) 1:=kk
theorem d68_31_42:Dk k68_31 42 (.goto 33) 3:=kk
theorem d68_31_75:Dk k68_31 75 (.aload_n 0) 1:=kk
theorem d68_31_76:Dk k68_31 76 (.areturn) 1:=kk
set_option maxRecDepth 65536 in
set_option maxHeartbeats 40000000 in
theorem rm_acN (l : Launch) (Z : State) (a0 : Array Value) (hw : ∀ d ∈ tables_1, d.before a0 Z = true) (ws : List Jvm.Cond) (b v : Addr) (kv : ClassId) (M : Nat) (cs : List Int32) (ch G1 : Int32) (G3 : Value) (h0 : Heap) (n0 : Nat) (O0 : Old Z n0 h0) (O2 : Sta Z Z.heap "java/lang/String" "COMPACT_STRINGS" "Z" (.int G1)) (P5 : ¬ (G1 = (0 : Int32))) (O4 : Sta Z Z.heap "jdk/internal/util/Preconditions" "SIOOBE_FORMATTER" "Ljava/util/function/BiFunction;" G3) (rG3 : G3.isRef = true) (OA : Sta Z Z.heap "java/lang/StringUTF16" "$assertionsDisabled" "Z" (.int (1 : Int32))) (OH : Sta Z Z.heap "java/lang/StringUTF16" "HI_BYTE_SHIFT" "I" (.int (0 : Int32))) (OL : Sta Z Z.heap "java/lang/StringUTF16" "LO_BYTE_SHIFT" "I" (.int (8 : Int32))) (E_b : Exa Z h0 b "java/lang/StringBuilder") (Fv_b : Fld Z h0 b "java/lang/AbstractStringBuilder" "value" "[B" (.ref v)) (Fc_b : Fld Z h0 b "java/lang/AbstractStringBuilder" "coder" "B" (.int (0 : Int32))) (Fn_b : Fld Z h0 b "java/lang/AbstractStringBuilder" "count" "I" (.int (Int32.ofNat cs.length))) (V_v : Arv Z h0 v kv .byte (Int32.ofNat M) (own_sM M cs) (.int (0 : Int32))) (X_v : Exa Z h0 v "[B") (hall : ∀ c ∈ cs, ¬ (255 : Int32) < c) (hok : own_Ok cs) (hM : cs.length ≤ M ∧ M ≤ 70) (g_b : n0 ≤ b) (g_v : n0 ≤ v) (hch : ¬ ch < 0 ∧ ¬ (255 : Int32) < ch) (hlt : cs.length + 1 ≤ M) :
    own_TN l Z ws h0 (⟨"java/lang/AbstractStringBuilder", "append", "(C)Ljava/lang/AbstractStringBuilder;"⟩ : MethodName) jdk_68_method_31_code 2 (some (.object "java/lang/AbstractStringBuilder")) ⟨1, 0, 0, 14⟩ #[(.ref b), (.int ch)] (QAcN Z b v kv M (cs ++ [ch]) h0 n0) 0 0 := by
  refine own_bN "java/lang/AbstractStringBuilder" #[rv b, iv ch] (pf pn_0 rfl) rfl O0 (fun m => own_e) ?_
  intro p e s m below meth cC s₁ hZ hh hx hby hml hown hnm hrt hlk X0 e0 N0 Z0
  have hlen : cs.length ≤ 4000 := hok.2
  obtain ⟨hcM, hM34⟩ := hM
  have hbv := Exa.neArv E_b V_v (tw hw 37 rfl)
  refine wa X0 hx hby 0 d68_31_0 rfl rfl ?_
  refine wa X0 hx hby 1 d68_31_1 rfl rfl ?_
  obtain ⟨T73, X73, e73, st73⟩ := getF X0 hx hZ hown (host := "") (Or.inl (tw hw 80 rfl)) Via.refl e0 Fn_b (g := (mkF m 2 #[rv b, iv ch] [(.ref b), (.ref b)])) rfl rfl (hb hby d68_31_2)
  refine own_go st73 ?_
  refine wc X73 hx hby 5 d68_31_5 ?_
  try dsimp only [mkF]
  refine og (fun _ k => XS.iadd X73.here hx rfl (hb hby d68_31_6) rfl k) ?_
  show own_Go p e below (T73.setTop (mkF m 7 #[rv b, iv ch] [(.int ((Int32.ofNat cs.length) + (1 : Int32))), (.ref b)])) _
  rw [own_inc]
  obtain ⟨cq74, q74, q74'⟩ := E_b.cell
  obtain ⟨v74, _, ⟨T74, L74, k74, n74⟩, -, X74, ⟨Lc74, hQ74, l74, y74, z74⟩, st74⟩ := X73.privateBack hx (y := (⟨"java/lang/AbstractStringBuilder", "ensureCapacityInternal", "(I)V"⟩ : MethodName)) hown (mvT hZ (tw hw 139 rfl)) (mvT hZ (tw hw 140 rfl)) (own_selQ hZ (tw hw 142 rfl) (tw hw 141 rfl) (tw hw 140 rfl) (by decide)) (Cond.privateMethod_at (mvP hZ (tw hw 141 rfl) (args := #[]))) (mvT hZ (tw hw 143 rfl)) (by decide) (backOf (W := 0) (rm_enM l Z a0 hw [] b v kv M cs (cs.length + 1) G1 G3 h0 n0 O0 O2 P5 O4 rG3 OA OH OL E_b Fv_b Fc_b Fn_b V_v X_v hall hok ⟨hcM, hM34⟩ g_b g_v hlt) hZ (tw hw 143 rfl) (tw hw 46 rfl) (by decide) (by decide)) (g := (mkF m 7 #[rv b, iv ch] [(.int (Int32.ofNat (cs.length + 1))), (.ref b)])) rfl (by rw [hml]; rfl) (Steps.refl _) (a := b) (by rw [e73]; exact q74) q74' (argsL := [(.int (Int32.ofNat (cs.length + 1)))]) (rest := []) (lenOf pd_0 rfl) rfl (by show 2 * 0 + _ ≤ _; exact Nat.le_of_eq rfl) (hb hby d68_31_7) (fun _ _ => ⟨rfl, e73, (by decide : 0 + 0 ≤ _), (by decide : 0 + 0 ≤ _)⟩)
  dsimp only [Pt.U, Pt.locs, Pt.cells, Pt.slots] at X74 l74 y74 z74 st74 hQ74
  subst l74 y74 z74
  refine own_gos st74 ?_
  obtain ⟨rfl, Nq74, e74⟩ := hQ74
  have N74 := Fr.app N0 Nq74
  refine wa X74 hx hby 10 d68_31_10 rfl rfl ?_
  obtain ⟨cq75, kq75, q75a, q75b, q75c⟩ := isOf hZ e74 E_b
  obtain ⟨v75, _, ⟨T75, L75, k75, n75⟩, -, X75, ⟨Lc75, hQ75, l75, y75, z75⟩, st75⟩ := X74.virtualBack hx (y := (⟨"java/lang/AbstractStringBuilder", "isLatin1", "()Z"⟩ : MethodName)) (z := (⟨"java/lang/AbstractStringBuilder", "isLatin1", "()Z"⟩ : MethodName)) hown (mvT hZ (tw hw 144 rfl)) (mvT hZ (tw hw 83 rfl)) (notFace_of_selects (args := #[]) (mvT hZ (tw hw 85 rfl))) (mvT hZ (tw hw 85 rfl)) (mvT hZ (tw hw 84 rfl)) (by decide) (backOf (W := 0) (rm_bl0 l Z a0 hw [] b G1 h0 n0 O0 E_b Fc_b O2 P5) hZ (tw hw 86 rfl) (tw hw 46 rfl) (by decide) (by decide)) q75a q75c (g := (mkF m 11 #[rv b, iv ch] [(.ref b)])) rfl (by rw [hml]; rfl) (Steps.refl _) (argsL := []) (rest := []) (lenOf pd_4 rfl) rfl (by show 2 * 0 + _ ≤ _; exact Nat.le_of_eq rfl) (hb hby d68_31_11) (fun _ _ => ⟨rfl, e74, (by decide : 0 + 0 ≤ _), (by decide : 0 + 0 ≤ _)⟩)
  dsimp only [Pt.U, Pt.locs, Pt.cells, Pt.slots] at X75 l75 y75 z75 st75 hQ75
  subst l75 y75 z75
  refine own_gos st75 ?_
  obtain ⟨rfl, Nq75, e75⟩ := hQ75
  have N75 := Fr.app N74 Nq75
  try dsimp only [mkF]
  refine we X75 hx hby 14 d68_31_14 ((if0 _ _).trans (feq (by decide : ¬ ((1 : Int32) = (0 : Int32)))).1) ?_
  refine wl X75 hx hby 17 d68_31_17 rfl ?_
  obtain ⟨v76, _, ⟨T76, L76, k76, n76⟩, -, X76, ⟨Lc76, hQ76, l76, y76, z76⟩, st76⟩ := Jvm.LawKit.callS X75 hx (y := (⟨"java/lang/StringLatin1", "canEncode", "(C)Z"⟩ : MethodName)) hown (mvT hZ (tw hw 145 rfl)) (mvT hZ (tw hw 120 rfl)) (mvT hZ (tw hw 121 rfl)) (mvT hZ (tw hw 122 rfl)) (by decide) (backOf (W := 0) (rm_cec l Z a0 hw [] ch h0 n0 O0 ) hZ (tw hw 122 rfl) (tw hw 121 rfl) (by decide) (by decide)) (g := (mkF m 18 #[rv b, iv ch] [(.int ch)])) rfl (by rw [hml]; rfl) (argsL := [(.int ch)]) (rest := []) (lenOf pd_9 rfl) rfl (by show 2 * 0 + _ ≤ _; exact Nat.le_of_eq rfl) (hb hby d68_31_18) (fun _ _ => ⟨rfl, e75, (by decide : 0 + 0 ≤ _), (by decide : 0 + 0 ≤ _)⟩)
  dsimp only [Pt.U, Pt.locs, Pt.cells, Pt.slots] at X76 l76 y76 z76 st76 hQ76
  subst l76 y76 z76
  refine own_go st76 ?_
  obtain ⟨rfl, Nq76, e76⟩ := hQ76
  have N76 := Fr.app N75 Nq76
  refine we X76 hx hby 21 d68_31_21 ((if0 _ _).trans (feq (own_ceN hch.2)).1) ?_
  refine wa X76 hx hby 24 d68_31_24 rfl rfl ?_
  try dsimp only [mkF]
  obtain ⟨T77, X77, e77, st77⟩ := getF X76 hx hZ hown (host := "") (Or.inl (tw hw 50 rfl)) Via.refl e76 Fv_b (g := (mkF m 25 #[rv b, iv ch] [(.ref b)])) rfl rfl (hb hby d68_31_25)
  refine own_go st77 ?_
  refine wa X77 hx hby 28 d68_31_28 rfl rfl ?_
  refine og (fun _ k => XS.dup X77.here hx rfl (hb hby d68_31_29) rfl rfl k) ?_
  obtain ⟨T78, X78, e78, st78⟩ := getF X77 hx hZ hown (host := "") (Or.inl (tw hw 80 rfl)) Via.refl e77 Fn_b (g := (mkF m 30 #[rv b, iv ch] [(.ref b), (.ref b), (.ref v)])) rfl rfl (hb hby d68_31_30)
  refine own_go st78 ?_
  refine og (fun _ k => XS.dupX1 X78.here hx rfl (hb hby d68_31_33) rfl rfl rfl k) ?_
  try dsimp only [mkF]
  refine wc X78 hx hby 34 d68_31_34 ?_
  refine og (fun _ k => XS.iadd X78.here hx rfl (hb hby d68_31_35) rfl k) ?_
  obtain ⟨T79, h79, X79, e79, W79, st79⟩ := putF X78 hx hZ hown (host := "") (Or.inl (tw hw 80 rfl)) Via.refl e78 Fn_b E_b (Or.inl (tw hw 81 rfl)) (tw hw 37 rfl) (ty := .int) (by decide) rfl rfl (g := (mkF m 36 #[rv b, iv ch] [(.int ((Int32.ofNat cs.length) + (1 : Int32))), (.ref b), (.int (Int32.ofNat cs.length)), (.ref v)])) rfl rfl (hb hby d68_31_36)
  refine own_go st79 ?_
  have N79 := Fr.snoc X79 N76 g_b
  have Fw79 := Fn_b.same W79
  refine wl X79 hx hby 39 d68_31_39 rfl ?_
  refine og (fun _ k => XS.i2b X79.here hx rfl (hb hby d68_31_40) rfl k) ?_
  try dsimp only [mkF]
  have f80 := (V_v.other W79 (Ne.symm hbv))
  obtain ⟨c81, A81, q81, S81, M81, Hs81, Gs81⟩ := id f80
  obtain ⟨T82, h82, X82, e82, W82, st82⟩ := stB X79 hx hZ e79 A81 (j := (Int32.ofNat cs.length)) (inb_of S81 (own_inb (j := M) (by omega) (by omega))) (g := (mkF m 41 #[rv b, iv ch] [(.int (ch.toInt8.toInt32)), (.int (Int32.ofNat cs.length)), (.ref v)])) rfl rfl (hb hby d68_31_41)
  refine own_go st82 ?_
  have N82 := Fr.snoc X82 N79 g_v
  have V82 : Arv Z h82 v kv .byte (Int32.ofNat M) (own_sM M (cs ++ [ch])) (.int (0 : Int32)) := Eq.mp (congrArg (fun LL => Arv Z h82 v kv .byte (Int32.ofNat M) LL (.int (0 : Int32))) (show ((own_sM M cs) : List Value).set cs.length (.int (nar .byte (ch.toInt8.toInt32))) = (own_sM M (cs ++ [ch])) from (by rw [own_nb]; exact own_apc (by omega)))) (Arv.set A81 q81 S81 M81 Hs81 Gs81 (fits_nar_byte _) W82 cs.length (own_tn (by omega)) (by show cs.length < (own_sM M cs).length; rw [own_sMl (by omega)]; omega))
  refine wg X82 hx hby 42 75 d68_31_42 ?_
  refine wa X82 hx hby 75 d68_31_75 rfl rfl ?_
  have f83 := (((Keep.refl h0 [b, v]).wr W79 (Or.inl (List.mem_of_getElem? (i := 0) rfl))).wr W82 (Or.inl (List.mem_of_getElem? (i := 1) rfl)))
  have f84 := ((Fv_b.other W79 (Or.inr (slot_ne (Or.inl (tw hw 51 rfl)) (Or.inl (tw hw 81 rfl)) (by decide) (t := (.array .byte)) (t' := .int) (by decide) (by decide)))).other W82 (Or.inl hbv))
  have f85 := ((Fc_b.other W79 (Or.inr (slot_ne (Or.inl (tw hw 53 rfl)) (Or.inl (tw hw 81 rfl)) (by decide) (t := .byte) (t' := .int) (by decide) (by decide)))).other W82 (Or.inl hbv))
  have f86 := (Fw79.other W82 (Or.inl hbv))
  refine own_fin (v := (some (.ref b))) X82 (fun h => by rw [hrt] at h; cases h) hlk (fun fs hr => retR X82 hx hrt (by rfl) rfl rfl (hb hby d68_31_76) hr) (QQ := QAcN Z b v kv M (cs ++ [ch]) h0 n0) ?_ (by decide) (by decide)
  rw [e82]
  exact ⟨rfl, N82, f83, f84, f85, (own_len1 cs ch ▸ f86), V82⟩

abbrev k67_14 := jdk_67_method_14_code
theorem d67_14_0:Dk k67_14 0 (.aload_n 0) 1:=kk
theorem d67_14_1:Dk k67_14 1 (.iload_n 1) 1:=kk
theorem d67_14_2:Dk k67_14 2 (.invokespecial 50) 3:=kk
theorem pd_10 : parseMethodDescriptor "(C)Ljava/lang/AbstractStringBuilder;" = some ⟨[.char], some (.object "java/lang/AbstractStringBuilder")⟩ := by decide +kernel
theorem d67_14_5:Dk k67_14 5 (.pop) 1:=kk
theorem d67_14_6:Dk k67_14 6 (.aload_n 0) 1:=kk
theorem d67_14_7:Dk k67_14 7 (.areturn) 1:=kk
set_option maxRecDepth 65536 in
set_option maxHeartbeats 40000000 in
theorem rm_aCN (l : Launch) (Z : State) (a0 : Array Value) (hw : ∀ d ∈ tables_1, d.before a0 Z = true) (ws : List Jvm.Cond) (b v : Addr) (kv : ClassId) (M : Nat) (cs : List Int32) (ch G1 : Int32) (G3 : Value) (h0 : Heap) (n0 : Nat) (O0 : Old Z n0 h0) (O2 : Sta Z Z.heap "java/lang/String" "COMPACT_STRINGS" "Z" (.int G1)) (P5 : ¬ (G1 = (0 : Int32))) (O4 : Sta Z Z.heap "jdk/internal/util/Preconditions" "SIOOBE_FORMATTER" "Ljava/util/function/BiFunction;" G3) (rG3 : G3.isRef = true) (OA : Sta Z Z.heap "java/lang/StringUTF16" "$assertionsDisabled" "Z" (.int (1 : Int32))) (OH : Sta Z Z.heap "java/lang/StringUTF16" "HI_BYTE_SHIFT" "I" (.int (0 : Int32))) (OL : Sta Z Z.heap "java/lang/StringUTF16" "LO_BYTE_SHIFT" "I" (.int (8 : Int32))) (E_b : Exa Z h0 b "java/lang/StringBuilder") (Fv_b : Fld Z h0 b "java/lang/AbstractStringBuilder" "value" "[B" (.ref v)) (Fc_b : Fld Z h0 b "java/lang/AbstractStringBuilder" "coder" "B" (.int (0 : Int32))) (Fn_b : Fld Z h0 b "java/lang/AbstractStringBuilder" "count" "I" (.int (Int32.ofNat cs.length))) (V_v : Arv Z h0 v kv .byte (Int32.ofNat M) (own_sM M cs) (.int (0 : Int32))) (X_v : Exa Z h0 v "[B") (hall : ∀ c ∈ cs, ¬ (255 : Int32) < c) (hok : own_Ok cs) (hM : cs.length ≤ M ∧ M ≤ 70) (g_b : n0 ≤ b) (g_v : n0 ≤ v) (hch : ¬ ch < 0 ∧ ¬ (255 : Int32) < ch) (hlt : cs.length + 1 ≤ M) :
    own_TN l Z ws h0 (⟨"java/lang/StringBuilder", "append", "(C)Ljava/lang/StringBuilder;"⟩ : MethodName) jdk_67_method_14_code 2 (some (.object "java/lang/StringBuilder")) ⟨2, 0, 0, 27⟩ #[(.ref b), (.int ch)] (QAcN Z b v kv M (cs ++ [ch]) h0 n0) 0 0 := by
  refine own_bN "java/lang/StringBuilder" #[rv b, iv ch] (pf pn_1 rfl) rfl O0 (fun m => own_e) ?_
  intro p e s m below meth cC s₁ hZ hh hx hby hml hown hnm hrt hlk X0 e0 N0 Z0
  have hlen : cs.length ≤ 4000 := hok.2
  obtain ⟨hcM, hM34⟩ := hM
  have hbv := Exa.neArv E_b V_v (tw hw 37 rfl)
  refine wa X0 hx hby 0 d67_14_0 rfl rfl ?_
  refine wl X0 hx hby 1 d67_14_1 rfl ?_
  obtain ⟨v87, _, ⟨T87, L87, k87, n87⟩, -, X87, ⟨Lc87, hQ87, l87, y87, z87⟩, st87⟩ := superBack X0 hx hZ (y := (⟨"java/lang/AbstractStringBuilder", "append", "(C)Ljava/lang/AbstractStringBuilder;"⟩ : MethodName)) hown (tw hw 135 rfl) (own_same (tw hw 136 rfl) (tw hw 69 rfl) rfl (by decide)) (tw hw 136 rfl) (tw hw 78 rfl) (by decide) (backOf (W := 0) (rm_acN l Z a0 hw [] b v kv M cs ch G1 G3 h0 n0 O0 O2 P5 O4 rG3 OA OH OL E_b Fv_b Fc_b Fn_b V_v X_v hall hok ⟨hcM, hM34⟩ g_b g_v hch hlt) hZ (tw hw 138 rfl) (tw hw 46 rfl) (by decide) (by decide)) e0 (Ins.self E_b) (g := (mkF m 2 #[rv b, iv ch] [(.int ch), (.ref b)])) rfl (by rw [hml]; rfl) (tw hw 138 rfl) (argsL := [(.int ch)]) (rest := []) (lenOf pd_10 rfl) rfl (by show 2 * 0 + _ ≤ _; exact Nat.le_of_eq rfl) (hb hby d67_14_2) (fun _ _ => ⟨rfl, e0, (by decide : 0 + 0 ≤ _), (by decide : 0 + 0 ≤ _)⟩)
  dsimp only [Pt.U, Pt.locs, Pt.cells, Pt.slots] at X87 l87 y87 z87 st87 hQ87
  subst l87 y87 z87
  refine own_gos st87 ?_
  obtain ⟨rfl, Nq87, K87, Fv87, Fc87, Fn87, Vv87⟩ := hQ87
  have N87 := Fr.app N0 Nq87
  refine og (fun _ k => XS.pop X87.here hx rfl (hb hby d67_14_5) rfl rfl k) ?_
  try dsimp only [mkF]
  refine wa X87 hx hby 6 d67_14_6 rfl rfl ?_
  have f88 := ((Keep.refl h0 [b, v]).trans K87 (allS (Or.inl (List.mem_of_getElem? (i := 0) rfl)) (allS (Or.inl (List.mem_of_getElem? (i := 1) rfl)) all0)))
  refine own_fin (v := (some (.ref b))) X87 (fun h => by rw [hrt] at h; cases h) hlk (fun fs hr => retR X87 hx hrt (by rfl) rfl rfl (hb hby d67_14_7) hr) (QQ := QAcN Z b v kv M (cs ++ [ch]) h0 n0) ?_ (by decide) (by decide)
  exact ⟨rfl, N87, f88, Fv87, Fc87, Fn87, Vv87⟩

theorem own_minL {a b : Nat} (h : a ≤ b) (hb : b < 2147483648) : Int32.ofNat a = if Int32.ofNat b < Int32.ofNat a then Int32.ofNat b else Int32.ofNat a := by
  rw [if_neg (fun q => by have := (own_lti hb (by omega)).mp q; omega)]
theorem own_maxM {M n : Nat} (h : M < n) (h2 : n ≤ M + (M + 2)) (hM : M ≤ 70) : Int32.ofNat (M + 2) = if Int32.ofNat n - Int32.ofNat M < Int32.ofNat (M + 2) then Int32.ofNat (M + 2) else Int32.ofNat n - Int32.ofNat M := by
  rw [own_ofsub (by omega)]
  by_cases q : n - M < M + 2
  · rw [if_pos ((own_lti (by omega) (by omega)).mpr q)]
  · rw [if_neg (fun z => q ((own_lti (by omega) (by omega)).mp z)), show n - M = M + 2 by omega]
theorem own_gtM {M n : Nat} (h : M < n) (hn : n < 2147483648) : (0 : Int32) < Int32.ofNat n - Int32.ofNat M := by
  rw [own_ofsub (by omega)]; exact (own_lti (i := 0) (by omega) (by omega)).mpr (by omega)
theorem own_inc2' (i : Nat) : Int32.ofNat i + ((2 : Int32) <<< ((0 : Int32) &&& 31)) = Int32.ofNat (i + 2) := by rw [own_shl0]; exact (Int32.ofNat_add i 2).symm
theorem own_bigN {n : Nat} (h : n ≤ 1000) : ¬ (2147483639 : Int32) < Int32.ofNat n ∧ ¬ Int32.ofNat n = (2147483647 : Int32) ∧ (0 : Int32) < Int32.ofNat (n + 1) := by
  refine ⟨fun q => ?_, fun q => ?_, (own_lti (i := 0) (by omega) (by omega)).mpr (by omega)⟩
  · rw [Int32.lt_iff_toInt_lt, own_ti (by omega)] at q
    have e : (2147483639 : Int32).toInt = 2147483639 := rfl
    omega
  · have e := congrArg Int32.toInt q
    rw [own_ti (by omega)] at e
    have e2 : (2147483647 : Int32).toInt = 2147483647 := rfl
    omega
abbrev k65_121 := jdk_65_method_121_code
theorem d65_121_0:Dk k65_121 0 (.iload_n 1) 1:=kk
theorem d65_121_1:Dk k65_121 1 (.aload_n 0) 1:=kk
theorem d65_121_2:Dk k65_121 2 (.arraylength) 1:=kk
theorem d65_121_3:Dk k65_121 3 (.if_icmp .ne 11) 3:=kk
theorem d65_121_14:Dk k65_121 14 (.iload_n 1) 1:=kk
theorem d65_121_15:Dk k65_121 15 (.newarray .byte) 2:=kk
theorem d65_121_17:Dk k65_121 17 (.astore_n 2) 1:=kk
theorem d65_121_18:Dk k65_121 18 (.aload_n 0) 1:=kk
theorem d65_121_19:Dk k65_121 19 (.iconst 0) 1:=kk
theorem d65_121_20:Dk k65_121 20 (.aload_n 2) 1:=kk
theorem d65_121_21:Dk k65_121 21 (.iconst 0) 1:=kk
theorem d65_121_22:Dk k65_121 22 (.aload_n 0) 1:=kk
theorem d65_121_23:Dk k65_121 23 (.arraylength) 1:=kk
theorem d65_121_24:Dk k65_121 24 (.iload_n 1) 1:=kk
theorem d65_121_25:Dk k65_121 25 (.invokestatic 304) 3:=kk
theorem pd_11 : parseMethodDescriptor "(II)I" = some ⟨[.int, .int], some .int⟩ := by decide +kernel
theorem d65_121_28:Dk k65_121 28 (.invokestatic 150) 3:=kk
theorem d65_121_31:Dk k65_121 31 (.aload_n 2) 1:=kk
theorem d65_121_32:Dk k65_121 32 (.areturn) 1:=kk
theorem pn_6 : plainName "java/util/Arrays" = true := by first | (simp [plainName, overriddenIn]; done) | decide +kernel
set_option maxRecDepth 65536 in
set_option maxHeartbeats 40000000 in
theorem rm_cpo (l : Launch) (Z : State) (a0 : Array Value) (hw : ∀ d ∈ tables_1, d.before a0 Z = true) (ws : List Jvm.Cond) (v : Addr) (kv : ClassId) (M : Nat) (cs : List Int32) (h0 : Heap) (n0 : Nat) (O0 : Old Z n0 h0) (V_v : Arv Z h0 v kv .byte (Int32.ofNat M) (own_sM M cs) (.int (0 : Int32))) (hl : cs.length ≤ M) (hM34 : M ≤ 34) :
    own_TN l Z ws h0 (⟨"java/util/Arrays", "copyOf", "([BI)[B"⟩ : MethodName) jdk_65_method_121_code 3 (some (.array .byte)) ⟨1, 1, 70, 18⟩ #[(.ref v), (.int (Int32.ofNat (M + (M + 2))))] (QNewE Z (Int32.ofNat (M + (M + 2))) (own_sM (M + (M + 2)) cs) h0 n0) 1 70 := by
  refine own_bN "java/util/Arrays" #[rv v, iv (Int32.ofNat (M + (M + 2))), .unset] (pf pn_6 rfl) rfl O0 (fun m => own_e) ?_
  intro p e s m below meth cC s₁ hZ hh hx hby hml hown hnm hrt hlk X0 e0 N0 Z0
  refine wl X0 hx hby 0 d65_121_0 rfl ?_
  refine wa X0 hx hby 1 d65_121_1 rfl rfl ?_
  obtain ⟨c89, A89, q89, S89, M89, Hs89, Gs89⟩ := id V_v
  refine og (fun _ k => X0.arraylength hx (by rw [e0]; exact A89.1) (State.isArrayOf_alike hZ.alike A89.2.1) (g := (mkF m 2 #[rv v, iv (Int32.ofNat (M + (M + 2))), .unset] [(.ref v), (.int (Int32.ofNat (M + (M + 2))))])) rfl rfl (hb hby d65_121_2) _ k) ?_
  rw [len_of S89 M89]
  refine wy X0 hx hby 3 14 d65_121_3 (feq (fun q => by have := own_eqN q (by omega) (by omega); omega)).2 ?_
  try dsimp only [mkF]
  refine wl X0 hx hby 14 d65_121_14 rfl ?_
  obtain ⟨T90, h90, k90, X90, e90, E90, A90, Q90, st90⟩ := newPE X0 hx hZ (tw hw 24 rfl) e0 (g := (mkF m 15 #[rv v, iv (Int32.ofNat (M + (M + 2))), .unset] [(.int (Int32.ofNat (M + (M + 2))))])) rfl (hb hby d65_121_15) rfl (own_nn0 (by omega)) (cap := 70) (by rw [own_tn (by omega)]; omega) (by decide) (by decide) (by decide) rfl
  obtain ⟨b90, g90⟩ : ∃ z, z = h0.size := ⟨_, rfl⟩
  rw [← g90] at A90 Q90 st90
  refine own_go st90 ?_
  have V90 : Arv Z h90 b90 k90 .byte (Int32.ofNat (M + (M + 2))) (List.replicate ((Int32.ofNat (M + (M + 2)))).toNatClampNeg (.int (0 : Int32))) (.int (0 : Int32)) := (Arv.new A90 (own_nn0 (by omega))).pad (pad_rep [] (.int (0 : Int32)) _)
  have Vb0 : Arv Z h90 b90 k90 .byte (Int32.ofNat (M + (M + 2))) (List.replicate (M + (M + 2)) (.int (0 : Int32))) (.int (0 : Int32)) := by have q := V90; rw [own_tn (by omega)] at q; exact q
  refine wv X90 hx hby 17 #[rv v, iv (Int32.ofNat (M + (M + 2))), rv b90] d65_121_17 rfl rfl ?_
  refine wa X90 hx hby 18 d65_121_18 rfl rfl ?_
  refine wc X90 hx hby 19 d65_121_19 ?_
  try dsimp only [mkF]
  refine wa X90 hx hby 20 d65_121_20 rfl rfl ?_
  refine wc X90 hx hby 21 d65_121_21 ?_
  refine wa X90 hx hby 22 d65_121_22 rfl rfl ?_
  obtain ⟨c91, A91, q91, S91, M91, Hs91, Gs91⟩ := id (V_v.ext E90)
  refine og (fun _ k => X90.arraylength hx (by rw [e90]; exact A91.1) (State.isArrayOf_alike hZ.alike A91.2.1) (g := (mkF m 23 #[rv v, iv (Int32.ofNat (M + (M + 2))), rv b90] [(.ref v), (.int (0 : Int32)), (.ref b90), (.int (0 : Int32)), (.ref v)])) rfl rfl (hb hby d65_121_23) _ k) ?_
  rw [len_of S91 M91]
  refine wl X90 hx hby 24 d65_121_24 rfl ?_
  try dsimp only [mkF]
  obtain ⟨v92, _, ⟨T92, L92, k92, n92⟩, -, X92, ⟨Lc92, hQ92, l92, y92, z92⟩, st92⟩ := Jvm.LawKit.callS X90 hx (y := (⟨"java/lang/Math", "min", "(II)I"⟩ : MethodName)) hown (mvT hZ (tw hw 97 rfl)) (mvT hZ (tw hw 98 rfl)) (mvT hZ (tw hw 99 rfl)) (mvT hZ (tw hw 100 rfl)) (by decide) (backOf (W := 4) (rm_min l Z a0 hw [] (Int32.ofNat M) (Int32.ofNat (M + (M + 2))) (Int32.ofNat M) h90 n0 (O0.ext E90) (own_minL (by omega) (by omega))) hZ (tw hw 100 rfl) (tw hw 99 rfl) (by decide) (by decide)) (g := (mkF m 25 #[rv v, iv (Int32.ofNat (M + (M + 2))), rv b90] [(.int (Int32.ofNat (M + (M + 2)))), (.int (Int32.ofNat M)), (.int (0 : Int32)), (.ref b90), (.int (0 : Int32)), (.ref v)])) rfl (by rw [hml]; rfl) (argsL := [(.int (Int32.ofNat M)), (.int (Int32.ofNat (M + (M + 2))))]) (rest := [(.int (0 : Int32)), (.ref b90), (.int (0 : Int32)), (.ref v)]) (lenOf pd_11 rfl) rfl (by show 2 * 0 + _ ≤ _; exact Nat.le_of_eq rfl) (hb hby d65_121_25) (fun _ _ => ⟨rfl, e90, (by decide : 1 + 0 ≤ _), (by decide : 70 + 0 ≤ _)⟩)
  dsimp only [Pt.U, Pt.locs, Pt.cells, Pt.slots] at X92 l92 y92 z92 st92 hQ92
  subst l92 y92 z92
  refine own_go st92 ?_
  obtain ⟨rfl, Nq92, e92⟩ := hQ92
  have N92 := Fr.app N0 Nq92
  have ci93 := own_tn (i := 0) (by omega)
  have cj93 := own_tn (i := 0) (by omega)
  have cm93 := own_tn (i := M) (by omega)
  have ca93 := own_tn (i := M) (by omega)
  have cb93 := own_tn (i := (M + (M + 2))) (by omega)
  have cl93 : ((List.replicate (M + (M + 2)) (.int (0 : Int32))) : List Value).length = (M + (M + 2)) := List.length_replicate
  obtain ⟨T93, h93, Lc93, X93, e93, N93, K93, Vc93, st93⟩ := cpA (sp := Int32.ofNat 0) (dp := Int32.ofNat 0) (nn := Int32.ofNat M) X92 hx hZ hown (tw hw 101 rfl) (tw hw 104 rfl) (tw hw 102 rfl) (tw hw 103 rfl) e92 (z := Int32.ofNat M) (z' := Int32.ofNat (M + (M + 2))) (V_v.ext E90) Vb0 (Or.inl ⟨rfl, rfl⟩) (own_nn0 (by omega)) (own_nn0 (by omega)) (own_nn0 (by omega)) (by omega) (by omega) (us := (own_sM M cs)) (by rw [cm93, ci93]; exact (own_self (own_sMl hl))) (by omega) N92 (Nat.le_trans Z0 (Nat.le_of_eq g90.symm)) (g := (mkF m 28 #[rv v, iv (Int32.ofNat (M + (M + 2))), rv b90] [(.int (Int32.ofNat M)), (.int (0 : Int32)), (.ref b90), (.int (0 : Int32)), (.ref v)])) rfl (by rw [hml]; rfl) rfl (hb hby d65_121_28) (by decide) (W := 0) (by show 2 * 0 + _ ≤ _; exact Nat.le_of_eq rfl) (by decide)
  refine own_go st93 ?_
  have Vt93 : Arv Z h93 b90 k90 .byte (Int32.ofNat (M + (M + 2))) (own_sM (M + (M + 2)) cs) (.int (0 : Int32)) := by simp only [cj93, cm93] at Vc93; exact ((own_cpG (M' := (M + (M + 2))) hl (by omega))) ▸ Vc93
  refine wa X93 hx hby 31 d65_121_31 rfl rfl ?_
  have f94 := (((Keep.refl h0 []).ext E90).trans K93 (allS (Or.inr (Nat.le_of_eq g90.symm)) all0))
  refine own_fin (v := (some (.ref b90))) X93 (fun h => by rw [hrt] at h; cases h) hlk (fun fs hr => retR X93 hx hrt (by rfl) rfl rfl (hb hby d65_121_32) hr) (QQ := QNewE Z (Int32.ofNat (M + (M + 2))) (own_sM (M + (M + 2)) cs) h0 n0) ?_ (by decide) (by decide)
  rw [e93]
  exact ⟨b90, _, rfl, N93, f94, (Nat.le_of_eq g90.symm), Vt93, (Q90.keep K93)⟩

abbrev k48_27 := jdk_48_method_27_code
theorem d48_27_0:Dk k48_27 0 (.iload_n 0) 1:=kk
theorem d48_27_1:Dk k48_27 1 (.iload_n 1) 1:=kk
theorem d48_27_2:Dk k48_27 2 (.iload_n 2) 1:=kk
theorem d48_27_3:Dk k48_27 3 (.invokestatic 194) 3:=kk
theorem d48_27_6:Dk k48_27 6 (.iadd) 1:=kk
theorem d48_27_7:Dk k48_27 7 (.istore_n 3) 1:=kk
theorem d48_27_8:Dk k48_27 8 (.iconst 0) 1:=kk
theorem d48_27_9:Dk k48_27 9 (.iload_n 3) 1:=kk
theorem d48_27_10:Dk k48_27 10 (.if_icmp .ge 11) 3:=kk
theorem d48_27_13:Dk k48_27 13 (.iload_n 3) 1:=kk
theorem d48_27_14:Dk k48_27 14 (.ldc 200) 2:=kk
theorem d48_27_16:Dk k48_27 16 (.if_icmp .gt 5) 3:=kk
theorem d48_27_19:Dk k48_27 19 (.iload_n 3) 1:=kk
theorem d48_27_20:Dk k48_27 20 (.ireturn) 1:=kk
theorem pn_7 : plainName "jdk/internal/util/ArraysSupport" = true := by first | (simp [plainName, overriddenIn]; done) | decide +kernel
set_option maxRecDepth 65536 in
set_option maxHeartbeats 40000000 in
theorem rm_nln (l : Launch) (Z : State) (a0 : Array Value) (hw : ∀ d ∈ tables_1, d.before a0 Z = true) (ws : List Jvm.Cond) (M mm : Nat) (h0 : Heap) (n0 : Nat) (O0 : Old Z n0 h0) (h16 : M < mm) (h34 : mm ≤ (M + (M + 2))) (hM34' : M ≤ 34) :
    own_TN l Z ws h0 (⟨"jdk/internal/util/ArraysSupport", "newLength", "(III)I"⟩ : MethodName) jdk_48_method_27_code 4 (some .int) ⟨1, 0, 0, 14⟩ #[(.int (Int32.ofNat M)), (.int ((Int32.ofNat mm) - (Int32.ofNat M))), (.int (Int32.ofNat (M + 2)))] (QPure (some (.int (Int32.ofNat (M + (M + 2))))) h0 n0) 0 0 := by
  refine own_bN "jdk/internal/util/ArraysSupport" #[iv (Int32.ofNat M), iv ((Int32.ofNat mm) - (Int32.ofNat M)), iv (Int32.ofNat (M + 2)), .unset] (pf pn_7 rfl) rfl O0 (fun m => own_e) ?_
  intro p e s m below meth cC s₁ hZ hh hx hby hml hown hnm hrt hlk X0 e0 N0 Z0
  refine wl X0 hx hby 0 d48_27_0 rfl ?_
  refine wl X0 hx hby 1 d48_27_1 rfl ?_
  refine wl X0 hx hby 2 d48_27_2 rfl ?_
  obtain ⟨v95, _, ⟨T95, L95, k95, n95⟩, -, X95, ⟨Lc95, hQ95, l95, y95, z95⟩, st95⟩ := Jvm.LawKit.callS X0 hx (y := (⟨"java/lang/Math", "max", "(II)I"⟩ : MethodName)) hown (mvT hZ (tw hw 278 rfl)) (mvT hZ (tw hw 279 rfl)) (mvT hZ (tw hw 99 rfl)) (mvT hZ (tw hw 280 rfl)) (by decide) (backOf (W := 1) (rm_max l Z a0 hw [] ((Int32.ofNat mm) - (Int32.ofNat M)) (Int32.ofNat (M + 2)) (Int32.ofNat (M + 2)) h0 n0 O0 (own_maxM h16 h34 (by omega))) hZ (tw hw 280 rfl) (tw hw 99 rfl) (by decide) (by decide)) (g := (mkF m 3 #[iv (Int32.ofNat M), iv ((Int32.ofNat mm) - (Int32.ofNat M)), iv (Int32.ofNat (M + 2)), .unset] [(.int (Int32.ofNat (M + 2))), (.int ((Int32.ofNat mm) - (Int32.ofNat M))), (.int (Int32.ofNat M))])) rfl (by rw [hml]; rfl) (argsL := [(.int ((Int32.ofNat mm) - (Int32.ofNat M))), (.int (Int32.ofNat (M + 2)))]) (rest := [(.int (Int32.ofNat M))]) (lenOf pd_11 rfl) rfl (by show 2 * 0 + _ ≤ _; exact Nat.le_of_eq rfl) (hb hby d48_27_3) (fun _ _ => ⟨rfl, e0, (by decide : 0 + 0 ≤ _), (by decide : 0 + 0 ≤ _)⟩)
  dsimp only [Pt.U, Pt.locs, Pt.cells, Pt.slots] at X95 l95 y95 z95 st95 hQ95
  subst l95 y95 z95
  refine own_go st95 ?_
  obtain ⟨rfl, Nq95, e95⟩ := hQ95
  have N95 := Fr.app N0 Nq95
  try dsimp only [mkF]
  refine og (fun _ k => XS.iadd X95.here hx rfl (hb hby d48_27_6) rfl k) ?_
  show own_Go p e below (T95.setTop (mkF m 7 #[iv (Int32.ofNat M), iv ((Int32.ofNat mm) - (Int32.ofNat M)), iv (Int32.ofNat (M + 2)), .unset] [(.int ((Int32.ofNat M) + (Int32.ofNat (M + 2))))])) _
  rw [own_ofadd]
  refine wt X95 hx hby 7 #[iv (Int32.ofNat M), iv ((Int32.ofNat mm) - (Int32.ofNat M)), iv (Int32.ofNat (M + 2)), iv (Int32.ofNat (M + (M + 2)))] d48_27_7 rfl ?_
  refine wc X95 hx hby 8 d48_27_8 ?_
  refine wl X95 hx hby 9 d48_27_9 rfl ?_
  try dsimp only [mkF]
  refine wn X95 hx hby 10 d48_27_10 (tlt (own_bigN (n := M + (M + 1)) (by omega)).2.2).2.1 ?_
  refine wl X95 hx hby 13 d48_27_13 rfl ?_
  refine og (fun _ k => X95.ldcInt hx hown (mvT hZ (tw hw 281 rfl)) (g := (mkF m 14 #[iv (Int32.ofNat M), iv ((Int32.ofNat mm) - (Int32.ofNat M)), iv (Int32.ofNat (M + 2)), iv (Int32.ofNat (M + (M + 2)))] [(.int (Int32.ofNat (M + (M + 2))))])) rfl (hb hby d48_27_14) _ k) ?_
  refine wn X95 hx hby 16 d48_27_16 (flt (own_bigN (by omega)).1).2.2.1 ?_
  refine wl X95 hx hby 19 d48_27_19 rfl ?_
  try dsimp only [mkF]
  refine own_fin (v := (some (.int (Int32.ofNat (M + (M + 2)))))) X95 (fun h => by rw [hrt] at h; cases h) hlk (fun fs hr => retI X95 hx hrt (hb hby d48_27_20) hr) (QQ := QPure (some (.int (Int32.ofNat (M + (M + 2))))) h0 n0) ?_ (by decide) (by decide)
  rw [e95]
  exact ⟨rfl, N95, rfl⟩

abbrev k68_10 := jdk_68_method_10_code
theorem d68_10_0:Dk k68_10 0 (.aload_n 0) 1:=kk
theorem d68_10_1:Dk k68_10 1 (.getfield 15) 3:=kk
theorem d68_10_4:Dk k68_10 4 (.arraylength) 1:=kk
theorem d68_10_5:Dk k68_10 5 (.istore_n 2) 1:=kk
theorem d68_10_6:Dk k68_10 6 (.iload_n 1) 1:=kk
theorem d68_10_7:Dk k68_10 7 (.aload_n 0) 1:=kk
theorem d68_10_8:Dk k68_10 8 (.getfield 22) 3:=kk
theorem d68_10_11:Dk k68_10 11 (.ishl) 1:=kk
theorem d68_10_12:Dk k68_10 12 (.istore_n 3) 1:=kk
theorem d68_10_13:Dk k68_10 13 (.iload_n 3) 1:=kk
theorem d68_10_14:Dk k68_10 14 (.iload_n 2) 1:=kk
theorem d68_10_15:Dk k68_10 15 (.isub) 1:=kk
theorem d68_10_16:Dk k68_10 16 (.istore 4) 2:=kk
theorem d68_10_18:Dk k68_10 18 (.iload_n 2) 1:=kk
theorem d68_10_19:Dk k68_10 19 (.iload 4) 2:=kk
theorem d68_10_21:Dk k68_10 21 (.iload_n 2) 1:=kk
theorem d68_10_22:Dk k68_10 22 (.iconst 2) 1:=kk
theorem d68_10_23:Dk k68_10 23 (.aload_n 0) 1:=kk
theorem d68_10_24:Dk k68_10 24 (.getfield 22) 3:=kk
theorem d68_10_27:Dk k68_10 27 (.ishl) 1:=kk
theorem d68_10_28:Dk k68_10 28 (.iadd) 1:=kk
theorem d68_10_29:Dk k68_10 29 (.invokestatic 114) 3:=kk
theorem pd_12 : parseMethodDescriptor "(III)I" = some ⟨[.int, .int, .int], some .int⟩ := by decide +kernel
theorem d68_10_32:Dk k68_10 32 (.istore 5) 2:=kk
theorem d68_10_34:Dk k68_10 34 (.iload 5) 2:=kk
theorem d68_10_36:Dk k68_10 36 (.ldc 39) 2:=kk
theorem d68_10_38:Dk k68_10 38 (.if_icmp .ne 13) 3:=kk
theorem d68_10_51:Dk k68_10 51 (.iload 5) 2:=kk
theorem d68_10_53:Dk k68_10 53 (.aload_n 0) 1:=kk
theorem d68_10_54:Dk k68_10 54 (.getfield 22) 3:=kk
theorem d68_10_57:Dk k68_10 57 (.ishr) 1:=kk
theorem d68_10_58:Dk k68_10 58 (.ireturn) 1:=kk
set_option maxRecDepth 65536 in
set_option maxHeartbeats 40000000 in
theorem rm_ncp (l : Launch) (Z : State) (a0 : Array Value) (hw : ∀ d ∈ tables_1, d.before a0 Z = true) (ws : List Jvm.Cond) (b v : Addr) (kv : ClassId) (M : Nat) (cs : List Int32) (mm : Nat) (h0 : Heap) (n0 : Nat) (O0 : Old Z n0 h0) (E_b : Exa Z h0 b "java/lang/StringBuilder") (Fv_b : Fld Z h0 b "java/lang/AbstractStringBuilder" "value" "[B" (.ref v)) (Fc_b : Fld Z h0 b "java/lang/AbstractStringBuilder" "coder" "B" (.int (0 : Int32))) (V_v : Arv Z h0 v kv .byte (Int32.ofNat M) (own_sM M cs) (.int (0 : Int32))) (h16 : M < mm) (h34 : mm ≤ (M + (M + 2))) (hM34' : M ≤ 34) :
    own_TN l Z ws h0 (⟨"java/lang/AbstractStringBuilder", "newCapacity", "(I)I"⟩ : MethodName) jdk_68_method_10_code 6 (some .int) ⟨2, 0, 0, 29⟩ #[(.ref b), (.int (Int32.ofNat mm))] (QPure (some (.int (Int32.ofNat (M + (M + 2))))) h0 n0) 0 0 := by
  refine own_bN "java/lang/AbstractStringBuilder" #[rv b, iv (Int32.ofNat mm), .unset, .unset, .unset, .unset] (pf pn_0 rfl) rfl O0 (fun m => own_e) ?_
  intro p e s m below meth cC s₁ hZ hh hx hby hml hown hnm hrt hlk X0 e0 N0 Z0
  refine wa X0 hx hby 0 d68_10_0 rfl rfl ?_
  obtain ⟨T96, X96, e96, st96⟩ := getF X0 hx hZ hown (host := "") (Or.inl (tw hw 50 rfl)) Via.refl e0 Fv_b (g := (mkF m 1 #[rv b, iv (Int32.ofNat mm), .unset, .unset, .unset, .unset] [(.ref b)])) rfl rfl (hb hby d68_10_1)
  refine own_go st96 ?_
  obtain ⟨c97, A97, q97, S97, M97, Hs97, Gs97⟩ := id V_v
  refine og (fun _ k => X96.arraylength hx (by rw [e96]; exact A97.1) (State.isArrayOf_alike hZ.alike A97.2.1) (g := (mkF m 4 #[rv b, iv (Int32.ofNat mm), .unset, .unset, .unset, .unset] [(.ref v)])) rfl rfl (hb hby d68_10_4) _ k) ?_
  rw [len_of S97 M97]
  refine wt X96 hx hby 5 #[rv b, iv (Int32.ofNat mm), iv (Int32.ofNat M), .unset, .unset, .unset] d68_10_5 rfl ?_
  try dsimp only [mkF]
  refine wl X96 hx hby 6 d68_10_6 rfl ?_
  refine wa X96 hx hby 7 d68_10_7 rfl rfl ?_
  obtain ⟨T98, X98, e98, st98⟩ := getF X96 hx hZ hown (host := "") (Or.inl (tw hw 52 rfl)) Via.refl e96 Fc_b (g := (mkF m 8 #[rv b, iv (Int32.ofNat mm), iv (Int32.ofNat M), .unset, .unset, .unset] [(.ref b), (.int (Int32.ofNat mm))])) rfl rfl (hb hby d68_10_8)
  refine own_go st98 ?_
  refine og (fun _ k => XS.ishl X98.here hx rfl (hb hby d68_10_11) rfl k) ?_
  show own_Go p e below (T98.setTop (mkF m 12 #[rv b, iv (Int32.ofNat mm), iv (Int32.ofNat M), .unset, .unset, .unset] [(.int ((Int32.ofNat mm) <<< ((0 : Int32) &&& 31)))])) _
  rw [own_shl0]
  try dsimp only [mkF]
  refine wt X98 hx hby 12 #[rv b, iv (Int32.ofNat mm), iv (Int32.ofNat M), iv (Int32.ofNat mm), .unset, .unset] d68_10_12 rfl ?_
  refine wl X98 hx hby 13 d68_10_13 rfl ?_
  refine wl X98 hx hby 14 d68_10_14 rfl ?_
  refine og (fun _ k => XS.isub X98.here hx rfl (hb hby d68_10_15) rfl k) ?_
  refine wz X98 hx hby 16 #[rv b, iv (Int32.ofNat mm), iv (Int32.ofNat M), iv (Int32.ofNat mm), iv ((Int32.ofNat mm) - (Int32.ofNat M)), .unset] d68_10_16 rfl ?_
  try dsimp only [mkF]
  refine wl X98 hx hby 18 d68_10_18 rfl ?_
  refine wm X98 hx hby 19 d68_10_19 rfl ?_
  refine wl X98 hx hby 21 d68_10_21 rfl ?_
  refine wc X98 hx hby 22 d68_10_22 ?_
  refine wa X98 hx hby 23 d68_10_23 rfl rfl ?_
  try dsimp only [mkF]
  obtain ⟨T99, X99, e99, st99⟩ := getF X98 hx hZ hown (host := "") (Or.inl (tw hw 52 rfl)) Via.refl e98 Fc_b (g := (mkF m 24 #[rv b, iv (Int32.ofNat mm), iv (Int32.ofNat M), iv (Int32.ofNat mm), iv ((Int32.ofNat mm) - (Int32.ofNat M)), .unset] [(.ref b), (.int (2 : Int32)), (.int (Int32.ofNat M)), (.int ((Int32.ofNat mm) - (Int32.ofNat M))), (.int (Int32.ofNat M))])) rfl rfl (hb hby d68_10_24)
  refine own_go st99 ?_
  refine og (fun _ k => XS.ishl X99.here hx rfl (hb hby d68_10_27) rfl k) ?_
  refine og (fun _ k => XS.iadd X99.here hx rfl (hb hby d68_10_28) rfl k) ?_
  show own_Go p e below (T99.setTop (mkF m 29 #[rv b, iv (Int32.ofNat mm), iv (Int32.ofNat M), iv (Int32.ofNat mm), iv ((Int32.ofNat mm) - (Int32.ofNat M)), .unset] [(.int ((Int32.ofNat M) + ((2 : Int32) <<< ((0 : Int32) &&& 31)))), (.int ((Int32.ofNat mm) - (Int32.ofNat M))), (.int (Int32.ofNat M))])) _
  rw [own_inc2']
  obtain ⟨v100, _, ⟨T100, L100, k100, n100⟩, -, X100, ⟨Lc100, hQ100, l100, y100, z100⟩, st100⟩ := Jvm.LawKit.callS X99 hx (y := (⟨"jdk/internal/util/ArraysSupport", "newLength", "(III)I"⟩ : MethodName)) hown (mvT hZ (tw hw 274 rfl)) (mvT hZ (tw hw 275 rfl)) (mvT hZ (tw hw 276 rfl)) (mvT hZ (tw hw 277 rfl)) (by decide) (backOf (W := 0) (rm_nln l Z a0 hw [] M mm h0 n0 O0 h16 h34 hM34') hZ (tw hw 277 rfl) (tw hw 276 rfl) (by decide) (by decide)) (g := (mkF m 29 #[rv b, iv (Int32.ofNat mm), iv (Int32.ofNat M), iv (Int32.ofNat mm), iv ((Int32.ofNat mm) - (Int32.ofNat M)), .unset] [(.int (Int32.ofNat (M + 2))), (.int ((Int32.ofNat mm) - (Int32.ofNat M))), (.int (Int32.ofNat M))])) rfl (by rw [hml]; rfl) (argsL := [(.int (Int32.ofNat M)), (.int ((Int32.ofNat mm) - (Int32.ofNat M))), (.int (Int32.ofNat (M + 2)))]) (rest := []) (lenOf pd_12 rfl) rfl (by show 2 * 0 + _ ≤ _; exact Nat.le_of_eq rfl) (hb hby d68_10_29) (fun _ _ => ⟨rfl, e99, (by decide : 0 + 0 ≤ _), (by decide : 0 + 0 ≤ _)⟩)
  dsimp only [Pt.U, Pt.locs, Pt.cells, Pt.slots] at X100 l100 y100 z100 st100 hQ100
  subst l100 y100 z100
  refine own_go st100 ?_
  obtain ⟨rfl, Nq100, e100⟩ := hQ100
  have N100 := Fr.app N0 Nq100
  try dsimp only [mkF]
  refine wz X100 hx hby 32 #[rv b, iv (Int32.ofNat mm), iv (Int32.ofNat M), iv (Int32.ofNat mm), iv ((Int32.ofNat mm) - (Int32.ofNat M)), iv (Int32.ofNat (M + (M + 2)))] d68_10_32 rfl ?_
  refine wm X100 hx hby 34 d68_10_34 rfl ?_
  refine og (fun _ k => X100.ldcInt hx hown (mvT hZ (tw hw 282 rfl)) (g := (mkF m 36 #[rv b, iv (Int32.ofNat mm), iv (Int32.ofNat M), iv (Int32.ofNat mm), iv ((Int32.ofNat mm) - (Int32.ofNat M)), iv (Int32.ofNat (M + (M + 2)))] [(.int (Int32.ofNat (M + (M + 2))))])) rfl (hb hby d68_10_36) _ k) ?_
  refine wy X100 hx hby 38 51 d68_10_38 (feq (own_bigN (by omega)).2.1).2 ?_
  refine wm X100 hx hby 51 d68_10_51 rfl ?_
  try dsimp only [mkF]
  refine wa X100 hx hby 53 d68_10_53 rfl rfl ?_
  obtain ⟨T101, X101, e101, st101⟩ := getF X100 hx hZ hown (host := "") (Or.inl (tw hw 52 rfl)) Via.refl e100 Fc_b (g := (mkF m 54 #[rv b, iv (Int32.ofNat mm), iv (Int32.ofNat M), iv (Int32.ofNat mm), iv ((Int32.ofNat mm) - (Int32.ofNat M)), iv (Int32.ofNat (M + (M + 2)))] [(.ref b), (.int (Int32.ofNat (M + (M + 2))))])) rfl rfl (hb hby d68_10_54)
  refine own_go st101 ?_
  refine og (fun _ k => XS.ishr X101.here hx rfl (hb hby d68_10_57) rfl k) ?_
  refine own_fin (v := (some (.int ((Int32.ofNat (M + (M + 2))) >>> ((0 : Int32) &&& 31))))) X101 (fun h => by rw [hrt] at h; cases h) hlk (fun fs hr => retI X101 hx hrt (hb hby d68_10_58) hr) (QQ := QPure (some (.int (Int32.ofNat (M + (M + 2))))) h0 n0) ?_ (by decide) (by decide)
  rw [e101]
  exact ⟨congrArg (fun z => some (Value.int z)) (StrChars.shr0 _), N100, rfl⟩

def QGrow (Z : State) (b : Addr) (M : Nat) (cs : List Int32) (h0 : Heap) (n0 : Nat) (r : Option Value) (h : Heap) (L : List Loc) : Prop := ∃ (v : Addr) (kv : ClassId), r = none ∧ Fr n0 L ∧ Keep h0 h [b] ∧ h0.size ≤ v ∧ Fld Z h b "java/lang/AbstractStringBuilder" "value" "[B" (.ref v) ∧ Fld Z h b "java/lang/AbstractStringBuilder" "coder" "B" (.int (0 : Int32)) ∧ Fld Z h b "java/lang/AbstractStringBuilder" "count" "I" (.int (Int32.ofNat cs.length)) ∧ Arv Z h v kv .byte (Int32.ofNat M) (own_sM M cs) (.int (0 : Int32)) ∧ Exa Z h v "[B"
theorem d68_9_17:Dk k68_9 17 (.aload_n 0) 1:=kk
theorem d68_9_18:Dk k68_9 18 (.aload_n 0) 1:=kk
theorem d68_9_19:Dk k68_9 19 (.getfield 15) 3:=kk
theorem d68_9_22:Dk k68_9 22 (.aload_n 0) 1:=kk
theorem d68_9_23:Dk k68_9 23 (.iload_n 1) 1:=kk
theorem d68_9_24:Dk k68_9 24 (.invokevirtual 104) 3:=kk
theorem pd_13 : parseMethodDescriptor "(I)I" = some ⟨[.int], some .int⟩ := by decide +kernel
theorem d68_9_27:Dk k68_9 27 (.aload_n 0) 1:=kk
theorem d68_9_28:Dk k68_9 28 (.getfield 22) 3:=kk
theorem d68_9_31:Dk k68_9 31 (.ishl) 1:=kk
theorem d68_9_32:Dk k68_9 32 (.invokestatic 108) 3:=kk
theorem pd_14 : parseMethodDescriptor "([BI)[B" = some ⟨[(.array .byte), .int], some (.array .byte)⟩ := by decide +kernel
theorem d68_9_35:Dk k68_9 35 (.putfield 15) 3:=kk
set_option maxRecDepth 65536 in
set_option maxHeartbeats 40000000 in
theorem rm_eng (l : Launch) (Z : State) (a0 : Array Value) (hw : ∀ d ∈ tables_1, d.before a0 Z = true) (ws : List Jvm.Cond) (b v : Addr) (kv : ClassId) (M : Nat) (cs : List Int32) (mm : Nat) (G1 : Int32) (G3 : Value) (h0 : Heap) (n0 : Nat) (O0 : Old Z n0 h0) (O2 : Sta Z Z.heap "java/lang/String" "COMPACT_STRINGS" "Z" (.int G1)) (P5 : ¬ (G1 = (0 : Int32))) (O4 : Sta Z Z.heap "jdk/internal/util/Preconditions" "SIOOBE_FORMATTER" "Ljava/util/function/BiFunction;" G3) (rG3 : G3.isRef = true) (OA : Sta Z Z.heap "java/lang/StringUTF16" "$assertionsDisabled" "Z" (.int (1 : Int32))) (OH : Sta Z Z.heap "java/lang/StringUTF16" "HI_BYTE_SHIFT" "I" (.int (0 : Int32))) (OL : Sta Z Z.heap "java/lang/StringUTF16" "LO_BYTE_SHIFT" "I" (.int (8 : Int32))) (E_b : Exa Z h0 b "java/lang/StringBuilder") (Fv_b : Fld Z h0 b "java/lang/AbstractStringBuilder" "value" "[B" (.ref v)) (Fc_b : Fld Z h0 b "java/lang/AbstractStringBuilder" "coder" "B" (.int (0 : Int32))) (Fn_b : Fld Z h0 b "java/lang/AbstractStringBuilder" "count" "I" (.int (Int32.ofNat cs.length))) (V_v : Arv Z h0 v kv .byte (Int32.ofNat M) (own_sM M cs) (.int (0 : Int32))) (X_v : Exa Z h0 v "[B") (hall : ∀ c ∈ cs, ¬ (255 : Int32) < c) (hok : own_Ok cs) (hM : cs.length ≤ M ∧ M ≤ 70) (g_b : n0 ≤ b) (g_v : n0 ≤ v) (h16 : M < mm) (h34 : mm ≤ (M + (M + 2))) (hM34' : M ≤ 34) :
    own_TN l Z ws h0 (⟨"java/lang/AbstractStringBuilder", "ensureCapacityInternal", "(I)V"⟩ : MethodName) jdk_68_method_9_code 3 none ⟨3, 1, 70, 48⟩ #[(.ref b), (.int (Int32.ofNat mm))] (QGrow Z b (M + (M + 2)) cs h0 n0) 1 70 := by
  refine own_bN "java/lang/AbstractStringBuilder" #[rv b, iv (Int32.ofNat mm), .unset] (pf pn_0 rfl) rfl O0 (fun m => own_e) ?_
  intro p e s m below meth cC s₁ hZ hh hx hby hml hown hnm hrt hlk X0 e0 N0 Z0
  have hlen : cs.length ≤ 4000 := hok.2
  obtain ⟨hcM, hM34⟩ := hM
  have hbv := Exa.neArv E_b V_v (tw hw 37 rfl)
  refine wa X0 hx hby 0 d68_9_0 rfl rfl ?_
  obtain ⟨T102, X102, e102, st102⟩ := getF X0 hx hZ hown (host := "") (Or.inl (tw hw 50 rfl)) Via.refl e0 Fv_b (g := (mkF m 1 #[rv b, iv (Int32.ofNat mm), .unset] [(.ref b)])) rfl rfl (hb hby d68_9_1)
  refine own_go st102 ?_
  obtain ⟨c103, A103, q103, S103, M103, Hs103, Gs103⟩ := id V_v
  refine og (fun _ k => X102.arraylength hx (by rw [e102]; exact A103.1) (State.isArrayOf_alike hZ.alike A103.2.1) (g := (mkF m 4 #[rv b, iv (Int32.ofNat mm), .unset] [(.ref v)])) rfl rfl (hb hby d68_9_4) _ k) ?_
  rw [len_of S103 M103]
  refine wa X102 hx hby 5 d68_9_5 rfl rfl ?_
  try dsimp only [mkF]
  obtain ⟨T104, X104, e104, st104⟩ := getF X102 hx hZ hown (host := "") (Or.inl (tw hw 52 rfl)) Via.refl e102 Fc_b (g := (mkF m 6 #[rv b, iv (Int32.ofNat mm), .unset] [(.ref b), (.int (Int32.ofNat M))])) rfl rfl (hb hby d68_9_6)
  refine own_go st104 ?_
  refine og (fun _ k => XS.ishr X104.here hx rfl (hb hby d68_9_9) rfl k) ?_
  show own_Go p e below (T104.setTop (mkF m 10 #[rv b, iv (Int32.ofNat mm), .unset] [(.int ((Int32.ofNat M) >>> ((0 : Int32) &&& 31)))])) _
  rw [StrChars.shr0]
  refine wt X104 hx hby 10 #[rv b, iv (Int32.ofNat mm), iv (Int32.ofNat M)] d68_9_10 rfl ?_
  refine wl X104 hx hby 11 d68_9_11 rfl ?_
  try dsimp only [mkF]
  refine wl X104 hx hby 12 d68_9_12 rfl ?_
  refine og (fun _ k => XS.isub X104.here hx rfl (hb hby d68_9_13) rfl k) ?_
  refine we X104 hx hby 14 d68_9_14 ((if0 _ _).trans (tlt (own_gtM h16 (by omega))).2.2.2) ?_
  refine wa X104 hx hby 17 d68_9_17 rfl rfl ?_
  refine wa X104 hx hby 18 d68_9_18 rfl rfl ?_
  try dsimp only [mkF]
  obtain ⟨T105, X105, e105, st105⟩ := getF X104 hx hZ hown (host := "") (Or.inl (tw hw 50 rfl)) Via.refl e104 Fv_b (g := (mkF m 19 #[rv b, iv (Int32.ofNat mm), iv (Int32.ofNat M)] [(.ref b), (.ref b)])) rfl rfl (hb hby d68_9_19)
  refine own_go st105 ?_
  refine wa X105 hx hby 22 d68_9_22 rfl rfl ?_
  refine wl X105 hx hby 23 d68_9_23 rfl ?_
  obtain ⟨cq106, q106, q106'⟩ := E_b.cell
  obtain ⟨v106, _, ⟨T106, L106, k106, n106⟩, -, X106, ⟨Lc106, hQ106, l106, y106, z106⟩, st106⟩ := X105.privateBack hx (y := (⟨"java/lang/AbstractStringBuilder", "newCapacity", "(I)I"⟩ : MethodName)) hown (mvT hZ (tw hw 269 rfl)) (mvT hZ (tw hw 270 rfl)) (own_selQ hZ (tw hw 272 rfl) (tw hw 271 rfl) (tw hw 270 rfl) (by decide)) (Cond.privateMethod_at (mvP hZ (tw hw 271 rfl) (args := #[]))) (mvT hZ (tw hw 273 rfl)) (by decide) (backOf (W := 2) (rm_ncp l Z a0 hw [] b v kv M cs mm h0 n0 O0 E_b Fv_b Fc_b V_v h16 h34 hM34') hZ (tw hw 273 rfl) (tw hw 46 rfl) (by decide) (by decide)) (g := (mkF m 24 #[rv b, iv (Int32.ofNat mm), iv (Int32.ofNat M)] [(.int (Int32.ofNat mm)), (.ref b), (.ref v), (.ref b)])) rfl (by rw [hml]; rfl) (Steps.refl _) (a := b) (by rw [e105]; exact q106) q106' (argsL := [(.int (Int32.ofNat mm))]) (rest := [(.ref v), (.ref b)]) (lenOf pd_13 rfl) rfl (by show 2 * 0 + _ ≤ _; exact Nat.le_of_eq rfl) (hb hby d68_9_24) (fun _ _ => ⟨rfl, e105, (by decide : 0 + 0 ≤ _), (by decide : 0 + 0 ≤ _)⟩)
  dsimp only [Pt.U, Pt.locs, Pt.cells, Pt.slots] at X106 l106 y106 z106 st106 hQ106
  subst l106 y106 z106
  refine own_gos st106 ?_
  obtain ⟨rfl, Nq106, e106⟩ := hQ106
  have N106 := Fr.app N0 Nq106
  refine wa X106 hx hby 27 d68_9_27 rfl rfl ?_
  try dsimp only [mkF]
  obtain ⟨T107, X107, e107, st107⟩ := getF X106 hx hZ hown (host := "") (Or.inl (tw hw 52 rfl)) Via.refl e106 Fc_b (g := (mkF m 28 #[rv b, iv (Int32.ofNat mm), iv (Int32.ofNat M)] [(.ref b), (.int (Int32.ofNat (M + (M + 2)))), (.ref v), (.ref b)])) rfl rfl (hb hby d68_9_28)
  refine own_go st107 ?_
  refine og (fun _ k => XS.ishl X107.here hx rfl (hb hby d68_9_31) rfl k) ?_
  show own_Go p e below (T107.setTop (mkF m 32 #[rv b, iv (Int32.ofNat mm), iv (Int32.ofNat M)] [(.int ((Int32.ofNat (M + (M + 2))) <<< ((0 : Int32) &&& 31))), (.ref v), (.ref b)])) _
  rw [own_shl0]
  obtain ⟨v108, _, ⟨T108, L108, k108, n108⟩, -, X108, ⟨Lc108, hQ108, l108, y108, z108⟩, st108⟩ := Jvm.LawKit.callS X107 hx (y := (⟨"java/util/Arrays", "copyOf", "([BI)[B"⟩ : MethodName)) hown (mvT hZ (tw hw 283 rfl)) (mvT hZ (tw hw 284 rfl)) (mvT hZ (tw hw 89 rfl)) (mvT hZ (tw hw 285 rfl)) (by decide) (backOf (W := 1) (rm_cpo l Z a0 hw [] v kv M cs h0 n0 O0 V_v hcM hM34') hZ (tw hw 285 rfl) (tw hw 89 rfl) (by decide) (by decide)) (g := (mkF m 32 #[rv b, iv (Int32.ofNat mm), iv (Int32.ofNat M)] [(.int (Int32.ofNat (M + (M + 2)))), (.ref v), (.ref b)])) rfl (by rw [hml]; rfl) (argsL := [(.ref v), (.int (Int32.ofNat (M + (M + 2))))]) (rest := [(.ref b)]) (lenOf pd_14 rfl) rfl (by show 2 * 0 + _ ≤ _; exact Nat.le_of_eq rfl) (hb hby d68_9_32) (fun _ _ => ⟨rfl, e107, (by decide : 0 + 1 ≤ _), (by decide : 0 + 70 ≤ _)⟩)
  dsimp only [Pt.U, Pt.locs, Pt.cells, Pt.slots] at X108 l108 y108 z108 st108 hQ108
  subst l108 y108 z108
  refine own_go st108 ?_
  obtain ⟨t108, kt108, rfl, Nq108, K108, tg108, Vt108, Xt108⟩ := hQ108
  have N108 := Fr.app N106 Nq108
  obtain ⟨T109, h109, X109, e109, W109, st109⟩ := putF X108 hx hZ hown (host := "") (Or.inl (tw hw 50 rfl)) Via.refl (rfl : T108.heap = T108.heap) (Fv_b.keep K108 nin0) (E_b.keep K108) (Or.inl (tw hw 51 rfl)) (tw hw 37 rfl) (ty := (.array .byte)) (by decide) rfl rfl (g := (mkF m 35 #[rv b, iv (Int32.ofNat mm), iv (Int32.ofNat M)] [(.ref t108), (.ref b)])) rfl rfl (hb hby d68_9_35)
  refine own_go st109 ?_
  have N109 := Fr.snoc X109 N108 g_b
  have Fw109 := (Fv_b.keep K108 nin0).same W109
  try dsimp only [mkF]
  have f110 := (((Keep.refl h0 [b]).trans K108 all0).wr W109 (Or.inl (List.mem_of_getElem? (i := 0) rfl)))
  have f111 := ((Fc_b.keep K108 nin0).other W109 (Or.inr (slot_ne (Or.inl (tw hw 53 rfl)) (Or.inl (tw hw 51 rfl)) (by decide) (t := .byte) (t' := (.array .byte)) (by decide) (by decide))))
  have f112 := ((Fn_b.keep K108 nin0).other W109 (Or.inr (slot_ne (Or.inl (tw hw 81 rfl)) (Or.inl (tw hw 51 rfl)) (by decide) (t := .int) (t' := (.array .byte)) (by decide) (by decide))))
  have ne113 : b ≠ t108 := Nat.ne_of_lt (Nat.lt_of_lt_of_le E_b.lt tg108)
  have f114 := (Vt108.other W109 (Ne.symm ne113))
  refine own_fin (v := none) X109 (fun _ => rfl) hlk (fun fs hr => X109.returnOut hx hrt (hb hby d68_9_38) hr) (QQ := QGrow Z b (M + (M + 2)) cs h0 n0) ?_ (by decide) (by decide)
  rw [e109]
  exact ⟨t108, _, rfl, N109, f110, tg108, Fw109, f111, f112, f114, (Xt108.wr W109)⟩

set_option maxRecDepth 65536 in
set_option maxHeartbeats 40000000 in
theorem rm_acG (l : Launch) (Z : State) (a0 : Array Value) (hw : ∀ d ∈ tables_1, d.before a0 Z = true) (ws : List Jvm.Cond) (b v : Addr) (kv : ClassId) (M : Nat) (cs : List Int32) (ch G1 : Int32) (G3 : Value) (h0 : Heap) (n0 : Nat) (O0 : Old Z n0 h0) (O2 : Sta Z Z.heap "java/lang/String" "COMPACT_STRINGS" "Z" (.int G1)) (P5 : ¬ (G1 = (0 : Int32))) (O4 : Sta Z Z.heap "jdk/internal/util/Preconditions" "SIOOBE_FORMATTER" "Ljava/util/function/BiFunction;" G3) (rG3 : G3.isRef = true) (OA : Sta Z Z.heap "java/lang/StringUTF16" "$assertionsDisabled" "Z" (.int (1 : Int32))) (OH : Sta Z Z.heap "java/lang/StringUTF16" "HI_BYTE_SHIFT" "I" (.int (0 : Int32))) (OL : Sta Z Z.heap "java/lang/StringUTF16" "LO_BYTE_SHIFT" "I" (.int (8 : Int32))) (E_b : Exa Z h0 b "java/lang/StringBuilder") (Fv_b : Fld Z h0 b "java/lang/AbstractStringBuilder" "value" "[B" (.ref v)) (Fc_b : Fld Z h0 b "java/lang/AbstractStringBuilder" "coder" "B" (.int (0 : Int32))) (Fn_b : Fld Z h0 b "java/lang/AbstractStringBuilder" "count" "I" (.int (Int32.ofNat cs.length))) (V_v : Arv Z h0 v kv .byte (Int32.ofNat M) (own_sM M cs) (.int (0 : Int32))) (X_v : Exa Z h0 v "[B") (hall : ∀ c ∈ cs, ¬ (255 : Int32) < c) (hok : own_Ok cs) (hM : cs.length ≤ M ∧ M ≤ 70) (g_b : n0 ≤ b) (g_v : n0 ≤ v) (hch : ¬ ch < 0 ∧ ¬ (255 : Int32) < ch) (hE : cs.length = M) (hM34' : M ≤ 34) :
    own_TN l Z ws h0 (⟨"java/lang/AbstractStringBuilder", "append", "(C)Ljava/lang/AbstractStringBuilder;"⟩ : MethodName) jdk_68_method_31_code 2 (some (.object "java/lang/AbstractStringBuilder")) ⟨4, 1, 70, 62⟩ #[(.ref b), (.int ch)] (QAcG Z b (M + (M + 2)) (cs ++ [ch]) h0 n0) 1 70 := by
  refine own_bN "java/lang/AbstractStringBuilder" #[rv b, iv ch] (pf pn_0 rfl) rfl O0 (fun m => own_e) ?_
  intro p e s m below meth cC s₁ hZ hh hx hby hml hown hnm hrt hlk X0 e0 N0 Z0
  have hlen : cs.length ≤ 4000 := hok.2
  obtain ⟨hcM, hM34⟩ := hM
  have hbv := Exa.neArv E_b V_v (tw hw 37 rfl)
  refine wa X0 hx hby 0 d68_31_0 rfl rfl ?_
  refine wa X0 hx hby 1 d68_31_1 rfl rfl ?_
  obtain ⟨T115, X115, e115, st115⟩ := getF X0 hx hZ hown (host := "") (Or.inl (tw hw 80 rfl)) Via.refl e0 Fn_b (g := (mkF m 2 #[rv b, iv ch] [(.ref b), (.ref b)])) rfl rfl (hb hby d68_31_2)
  refine own_go st115 ?_
  refine wc X115 hx hby 5 d68_31_5 ?_
  try dsimp only [mkF]
  refine og (fun _ k => XS.iadd X115.here hx rfl (hb hby d68_31_6) rfl k) ?_
  show own_Go p e below (T115.setTop (mkF m 7 #[rv b, iv ch] [(.int ((Int32.ofNat cs.length) + (1 : Int32))), (.ref b)])) _
  rw [own_inc]
  obtain ⟨cq116, q116, q116'⟩ := E_b.cell
  obtain ⟨v116, _, ⟨T116, L116, k116, n116⟩, -, X116, ⟨Lc116, hQ116, l116, y116, z116⟩, st116⟩ := X115.privateBack hx (y := (⟨"java/lang/AbstractStringBuilder", "ensureCapacityInternal", "(I)V"⟩ : MethodName)) hown (mvT hZ (tw hw 139 rfl)) (mvT hZ (tw hw 140 rfl)) (own_selQ hZ (tw hw 142 rfl) (tw hw 141 rfl) (tw hw 140 rfl) (by decide)) (Cond.privateMethod_at (mvP hZ (tw hw 141 rfl) (args := #[]))) (mvT hZ (tw hw 143 rfl)) (by decide) (backOf (W := 0) (rm_eng l Z a0 hw [] b v kv M cs (cs.length + 1) G1 G3 h0 n0 O0 O2 P5 O4 rG3 OA OH OL E_b Fv_b Fc_b Fn_b V_v X_v hall hok ⟨hcM, hM34⟩ g_b g_v (by omega) (by omega) hM34') hZ (tw hw 143 rfl) (tw hw 46 rfl) (by decide) (by decide)) (g := (mkF m 7 #[rv b, iv ch] [(.int (Int32.ofNat (cs.length + 1))), (.ref b)])) rfl (by rw [hml]; rfl) (Steps.refl _) (a := b) (by rw [e115]; exact q116) q116' (argsL := [(.int (Int32.ofNat (cs.length + 1)))]) (rest := []) (lenOf pd_0 rfl) rfl (by show 2 * 0 + _ ≤ _; exact Nat.le_of_eq rfl) (hb hby d68_31_7) (fun _ _ => ⟨rfl, e115, (by decide : 0 + 1 ≤ _), (by decide : 0 + 70 ≤ _)⟩)
  dsimp only [Pt.U, Pt.locs, Pt.cells, Pt.slots] at X116 l116 y116 z116 st116 hQ116
  subst l116 y116 z116
  refine own_gos st116 ?_
  obtain ⟨v116, kv116, rfl, Nq116, K116, vg116, Fv116, Fc116, Fn116, Vv116, Xv116⟩ := hQ116
  have N116 := Fr.app N0 Nq116
  refine wa X116 hx hby 10 d68_31_10 rfl rfl ?_
  have f117 := (O0.keep K116 (allS g_b all0))
  obtain ⟨cq118, kq118, q118a, q118b, q118c⟩ := isOf hZ (rfl : T116.heap = T116.heap) (E_b.keep K116)
  obtain ⟨v118, _, ⟨T118, L118, k118, n118⟩, -, X118, ⟨Lc118, hQ118, l118, y118, z118⟩, st118⟩ := X116.virtualBack hx (y := (⟨"java/lang/AbstractStringBuilder", "isLatin1", "()Z"⟩ : MethodName)) (z := (⟨"java/lang/AbstractStringBuilder", "isLatin1", "()Z"⟩ : MethodName)) hown (mvT hZ (tw hw 144 rfl)) (mvT hZ (tw hw 83 rfl)) (notFace_of_selects (args := #[]) (mvT hZ (tw hw 85 rfl))) (mvT hZ (tw hw 85 rfl)) (mvT hZ (tw hw 84 rfl)) (by decide) (backOf (W := 0) (rm_bl0 l Z a0 hw [] b G1 T116.heap n0 f117 (E_b.keep K116) Fc116 O2 P5) hZ (tw hw 86 rfl) (tw hw 46 rfl) (by decide) (by decide)) q118a q118c (g := (mkF m 11 #[rv b, iv ch] [(.ref b)])) rfl (by rw [hml]; rfl) (Steps.refl _) (argsL := []) (rest := []) (lenOf pd_4 rfl) rfl (by show 2 * 0 + _ ≤ _; exact Nat.le_of_eq rfl) (hb hby d68_31_11) (fun _ _ => ⟨rfl, (rfl : T116.heap = T116.heap), (by decide : 1 + 0 ≤ _), (by decide : 70 + 0 ≤ _)⟩)
  dsimp only [Pt.U, Pt.locs, Pt.cells, Pt.slots] at X118 l118 y118 z118 st118 hQ118
  subst l118 y118 z118
  refine own_gos st118 ?_
  obtain ⟨rfl, Nq118, e118⟩ := hQ118
  have N118 := Fr.app N116 Nq118
  try dsimp only [mkF]
  refine we X118 hx hby 14 d68_31_14 ((if0 _ _).trans (feq (by decide : ¬ ((1 : Int32) = (0 : Int32)))).1) ?_
  refine wl X118 hx hby 17 d68_31_17 rfl ?_
  obtain ⟨v119, _, ⟨T119, L119, k119, n119⟩, -, X119, ⟨Lc119, hQ119, l119, y119, z119⟩, st119⟩ := Jvm.LawKit.callS X118 hx (y := (⟨"java/lang/StringLatin1", "canEncode", "(C)Z"⟩ : MethodName)) hown (mvT hZ (tw hw 145 rfl)) (mvT hZ (tw hw 120 rfl)) (mvT hZ (tw hw 121 rfl)) (mvT hZ (tw hw 122 rfl)) (by decide) (backOf (W := 0) (rm_cec l Z a0 hw [] ch T116.heap n0 f117 ) hZ (tw hw 122 rfl) (tw hw 121 rfl) (by decide) (by decide)) (g := (mkF m 18 #[rv b, iv ch] [(.int ch)])) rfl (by rw [hml]; rfl) (argsL := [(.int ch)]) (rest := []) (lenOf pd_9 rfl) rfl (by show 2 * 0 + _ ≤ _; exact Nat.le_of_eq rfl) (hb hby d68_31_18) (fun _ _ => ⟨rfl, e118, (by decide : 1 + 0 ≤ _), (by decide : 70 + 0 ≤ _)⟩)
  dsimp only [Pt.U, Pt.locs, Pt.cells, Pt.slots] at X119 l119 y119 z119 st119 hQ119
  subst l119 y119 z119
  refine own_go st119 ?_
  obtain ⟨rfl, Nq119, e119⟩ := hQ119
  have N119 := Fr.app N118 Nq119
  refine we X119 hx hby 21 d68_31_21 ((if0 _ _).trans (feq (own_ceN hch.2)).1) ?_
  refine wa X119 hx hby 24 d68_31_24 rfl rfl ?_
  try dsimp only [mkF]
  obtain ⟨T120, X120, e120, st120⟩ := getF X119 hx hZ hown (host := "") (Or.inl (tw hw 50 rfl)) Via.refl e119 Fv116 (g := (mkF m 25 #[rv b, iv ch] [(.ref b)])) rfl rfl (hb hby d68_31_25)
  refine own_go st120 ?_
  refine wa X120 hx hby 28 d68_31_28 rfl rfl ?_
  refine og (fun _ k => XS.dup X120.here hx rfl (hb hby d68_31_29) rfl rfl k) ?_
  obtain ⟨T121, X121, e121, st121⟩ := getF X120 hx hZ hown (host := "") (Or.inl (tw hw 80 rfl)) Via.refl e120 Fn116 (g := (mkF m 30 #[rv b, iv ch] [(.ref b), (.ref b), (.ref v116)])) rfl rfl (hb hby d68_31_30)
  refine own_go st121 ?_
  refine og (fun _ k => XS.dupX1 X121.here hx rfl (hb hby d68_31_33) rfl rfl rfl k) ?_
  try dsimp only [mkF]
  refine wc X121 hx hby 34 d68_31_34 ?_
  refine og (fun _ k => XS.iadd X121.here hx rfl (hb hby d68_31_35) rfl k) ?_
  obtain ⟨T122, h122, X122, e122, W122, st122⟩ := putF X121 hx hZ hown (host := "") (Or.inl (tw hw 80 rfl)) Via.refl e121 Fn116 (E_b.keep K116) (Or.inl (tw hw 81 rfl)) (tw hw 37 rfl) (ty := .int) (by decide) rfl rfl (g := (mkF m 36 #[rv b, iv ch] [(.int ((Int32.ofNat cs.length) + (1 : Int32))), (.ref b), (.int (Int32.ofNat cs.length)), (.ref v116)])) rfl rfl (hb hby d68_31_36)
  refine own_go st122 ?_
  have N122 := Fr.snoc X122 N119 g_b
  have Fw122 := Fn116.same W122
  refine wl X122 hx hby 39 d68_31_39 rfl ?_
  refine og (fun _ k => XS.i2b X122.here hx rfl (hb hby d68_31_40) rfl k) ?_
  try dsimp only [mkF]
  have ne123 : b ≠ v116 := Nat.ne_of_lt (Nat.lt_of_lt_of_le E_b.lt vg116)
  have f124 := (Vv116.other W122 (Ne.symm ne123))
  obtain ⟨c125, A125, q125, S125, M125, Hs125, Gs125⟩ := id f124
  obtain ⟨T126, h126, X126, e126, W126, st126⟩ := stB X122 hx hZ e122 A125 (j := (Int32.ofNat cs.length)) (inb_of S125 (own_inb (j := (M + (M + 2))) (by omega) (by omega))) (g := (mkF m 41 #[rv b, iv ch] [(.int (ch.toInt8.toInt32)), (.int (Int32.ofNat cs.length)), (.ref v116)])) rfl rfl (hb hby d68_31_41)
  refine own_go st126 ?_
  have N126 := Fr.snoc X126 N122 (Nat.le_trans Z0 vg116)
  have V126 : Arv Z h126 v116 kv116 .byte (Int32.ofNat (M + (M + 2))) (own_sM (M + (M + 2)) (cs ++ [ch])) (.int (0 : Int32)) := Eq.mp (congrArg (fun LL => Arv Z h126 v116 kv116 .byte (Int32.ofNat (M + (M + 2))) LL (.int (0 : Int32))) (show ((own_sM (M + (M + 2)) cs) : List Value).set cs.length (.int (nar .byte (ch.toInt8.toInt32))) = (own_sM (M + (M + 2)) (cs ++ [ch])) from (by rw [own_nb]; exact own_apc (by omega)))) (Arv.set A125 q125 S125 M125 Hs125 Gs125 (fits_nar_byte _) W126 cs.length (own_tn (by omega)) (by show cs.length < (own_sM (M + (M + 2)) cs).length; rw [own_sMl (by omega)]; omega))
  refine wg X126 hx hby 42 75 d68_31_42 ?_
  refine wa X126 hx hby 75 d68_31_75 rfl rfl ?_
  have f127 := ((((Keep.refl h0 [b]).trans K116 (allS (Or.inl (List.mem_of_getElem? (i := 0) rfl)) all0)).wr W122 (Or.inl (List.mem_of_getElem? (i := 0) rfl))).wr W126 (Or.inr vg116))
  have f128 := ((Fv116.other W122 (Or.inr (slot_ne (Or.inl (tw hw 51 rfl)) (Or.inl (tw hw 81 rfl)) (by decide) (t := (.array .byte)) (t' := .int) (by decide) (by decide)))).other W126 (Or.inl ne123))
  have f129 := ((Fc116.other W122 (Or.inr (slot_ne (Or.inl (tw hw 53 rfl)) (Or.inl (tw hw 81 rfl)) (by decide) (t := .byte) (t' := .int) (by decide) (by decide)))).other W126 (Or.inl ne123))
  have f130 := (Fw122.other W126 (Or.inl ne123))
  have f131 := ((Xv116.wr W122).wr W126)
  refine own_fin (v := (some (.ref b))) X126 (fun h => by rw [hrt] at h; cases h) hlk (fun fs hr => retR X126 hx hrt (by rfl) rfl rfl (hb hby d68_31_76) hr) (QQ := QAcG Z b (M + (M + 2)) (cs ++ [ch]) h0 n0) ?_ (by decide) (by decide)
  rw [e126]
  exact ⟨v116, _, rfl, N126, f127, vg116, f128, f129, (own_len1 cs ch ▸ f130), V126, f131⟩

set_option maxRecDepth 65536 in
set_option maxHeartbeats 40000000 in
theorem rm_aCG (l : Launch) (Z : State) (a0 : Array Value) (hw : ∀ d ∈ tables_1, d.before a0 Z = true) (ws : List Jvm.Cond) (b v : Addr) (kv : ClassId) (M : Nat) (cs : List Int32) (ch G1 : Int32) (G3 : Value) (h0 : Heap) (n0 : Nat) (O0 : Old Z n0 h0) (O2 : Sta Z Z.heap "java/lang/String" "COMPACT_STRINGS" "Z" (.int G1)) (P5 : ¬ (G1 = (0 : Int32))) (O4 : Sta Z Z.heap "jdk/internal/util/Preconditions" "SIOOBE_FORMATTER" "Ljava/util/function/BiFunction;" G3) (rG3 : G3.isRef = true) (OA : Sta Z Z.heap "java/lang/StringUTF16" "$assertionsDisabled" "Z" (.int (1 : Int32))) (OH : Sta Z Z.heap "java/lang/StringUTF16" "HI_BYTE_SHIFT" "I" (.int (0 : Int32))) (OL : Sta Z Z.heap "java/lang/StringUTF16" "LO_BYTE_SHIFT" "I" (.int (8 : Int32))) (E_b : Exa Z h0 b "java/lang/StringBuilder") (Fv_b : Fld Z h0 b "java/lang/AbstractStringBuilder" "value" "[B" (.ref v)) (Fc_b : Fld Z h0 b "java/lang/AbstractStringBuilder" "coder" "B" (.int (0 : Int32))) (Fn_b : Fld Z h0 b "java/lang/AbstractStringBuilder" "count" "I" (.int (Int32.ofNat cs.length))) (V_v : Arv Z h0 v kv .byte (Int32.ofNat M) (own_sM M cs) (.int (0 : Int32))) (X_v : Exa Z h0 v "[B") (hall : ∀ c ∈ cs, ¬ (255 : Int32) < c) (hok : own_Ok cs) (hM : cs.length ≤ M ∧ M ≤ 70) (g_b : n0 ≤ b) (g_v : n0 ≤ v) (hch : ¬ ch < 0 ∧ ¬ (255 : Int32) < ch) (hE : cs.length = M) (hM34' : M ≤ 34) :
    own_TN l Z ws h0 (⟨"java/lang/StringBuilder", "append", "(C)Ljava/lang/StringBuilder;"⟩ : MethodName) jdk_67_method_14_code 2 (some (.object "java/lang/StringBuilder")) ⟨5, 1, 70, 75⟩ #[(.ref b), (.int ch)] (QAcG Z b (M + (M + 2)) (cs ++ [ch]) h0 n0) 1 70 := by
  refine own_bN "java/lang/StringBuilder" #[rv b, iv ch] (pf pn_1 rfl) rfl O0 (fun m => own_e) ?_
  intro p e s m below meth cC s₁ hZ hh hx hby hml hown hnm hrt hlk X0 e0 N0 Z0
  have hlen : cs.length ≤ 4000 := hok.2
  obtain ⟨hcM, hM34⟩ := hM
  have hbv := Exa.neArv E_b V_v (tw hw 37 rfl)
  refine wa X0 hx hby 0 d67_14_0 rfl rfl ?_
  refine wl X0 hx hby 1 d67_14_1 rfl ?_
  obtain ⟨v132, _, ⟨T132, L132, k132, n132⟩, -, X132, ⟨Lc132, hQ132, l132, y132, z132⟩, st132⟩ := superBack X0 hx hZ (y := (⟨"java/lang/AbstractStringBuilder", "append", "(C)Ljava/lang/AbstractStringBuilder;"⟩ : MethodName)) hown (tw hw 135 rfl) (own_same (tw hw 136 rfl) (tw hw 69 rfl) rfl (by decide)) (tw hw 136 rfl) (tw hw 78 rfl) (by decide) (backOf (W := 0) (rm_acG l Z a0 hw [] b v kv M cs ch G1 G3 h0 n0 O0 O2 P5 O4 rG3 OA OH OL E_b Fv_b Fc_b Fn_b V_v X_v hall hok ⟨hcM, hM34⟩ g_b g_v hch hE hM34') hZ (tw hw 138 rfl) (tw hw 46 rfl) (by decide) (by decide)) e0 (Ins.self E_b) (g := (mkF m 2 #[rv b, iv ch] [(.int ch), (.ref b)])) rfl (by rw [hml]; rfl) (tw hw 138 rfl) (argsL := [(.int ch)]) (rest := []) (lenOf pd_10 rfl) rfl (by show 2 * 0 + _ ≤ _; exact Nat.le_of_eq rfl) (hb hby d67_14_2) (fun _ _ => ⟨rfl, e0, (by decide : 0 + 1 ≤ _), (by decide : 0 + 70 ≤ _)⟩)
  dsimp only [Pt.U, Pt.locs, Pt.cells, Pt.slots] at X132 l132 y132 z132 st132 hQ132
  subst l132 y132 z132
  refine own_gos st132 ?_
  obtain ⟨v132, kv132, rfl, Nq132, K132, vg132, Fv132, Fc132, Fn132, Vv132, Xv132⟩ := hQ132
  have N132 := Fr.app N0 Nq132
  refine og (fun _ k => XS.pop X132.here hx rfl (hb hby d67_14_5) rfl rfl k) ?_
  try dsimp only [mkF]
  refine wa X132 hx hby 6 d67_14_6 rfl rfl ?_
  have f133 := ((Keep.refl h0 [b]).trans K132 (allS (Or.inl (List.mem_of_getElem? (i := 0) rfl)) all0))
  refine own_fin (v := (some (.ref b))) X132 (fun h => by rw [hrt] at h; cases h) hlk (fun fs hr => retR X132 hx hrt (by rfl) rfl rfl (hb hby d67_14_7) hr) (QQ := QAcG Z b (M + (M + 2)) (cs ++ [ch]) h0 n0) ?_ (by decide) (by decide)
  exact ⟨v132, _, rfl, N132, f133, vg132, Fv132, Fc132, Fn132, Vv132, Xv132⟩

def QE0 (Z : State) (a1 : Addr) (h0 : Heap) (n0 : Nat) (v : Option Value) (h : Heap) (L : List Loc) : Prop := ∃ (t : Addr) (k : ClassId), v = none ∧ Fr n0 L ∧ Keep h0 h [a1] ∧ Fld Z h a1 "java/lang/String" "value" "[B" (.ref t) ∧ Fld Z h a1 "java/lang/String" "coder" "B" (.int (0 : Int32)) ∧ Arv Z h t k .byte (0 : Int32) [] (.int (0 : Int32)) ∧ Exa Z h t "[B"
abbrev k42_149 := jdk_42_method_149_code
theorem d42_149_0:Dk k42_149 0 (.aload_n 0) 1:=kk
theorem d42_149_1:Dk k42_149 1 (.invokespecial 1) 3:=kk
theorem d42_149_4:Dk k42_149 4 (.iload_n 3) 1:=kk
theorem d42_149_5:Dk k42_149 5 (.ifCond .ne 22) 3:=kk
theorem d42_149_8:Dk k42_149 8 (.aload_n 0) 1:=kk
theorem d42_149_9:Dk k42_149 9 (.ldc 7) 2:=kk
theorem d42_149_11:Dk k42_149 11 (.getfield 9) 3:=kk
theorem d42_149_14:Dk k42_149 14 (.putfield 9) 3:=kk
theorem d42_149_17:Dk k42_149 17 (.aload_n 0) 1:=kk
theorem d42_149_18:Dk k42_149 18 (.ldc 7) 2:=kk
theorem d42_149_20:Dk k42_149 20 (.getfield 15) 3:=kk
theorem d42_149_23:Dk k42_149 23 (.putfield 15) 3:=kk
theorem d42_149_26:Dk k42_149 26 (.return_) 1:=kk
set_option maxRecDepth 65536 in
set_option maxHeartbeats 40000000 in
theorem rm_i4e (l : Launch) (Z : State) (a0 : Array Value) (hw : ∀ d ∈ tables_1, d.before a0 Z = true) (ws : List Jvm.Cond) (a1 a2 : Addr) (h0 : Heap) (n0 : Nat) (O0 : Old Z n0 h0) (E_a : Exa Z h0 a1 "java/lang/String") (F_v : Fld Z h0 a1 "java/lang/String" "value" "[B" .null) (F_c : Fld Z h0 a1 "java/lang/String" "coder" "B" (.int (0 : Int32))) (g_a : n0 ≤ a1) :
    own_TW l Z ws h0 (⟨"java/lang/String", "<init>", "([CIILjava/lang/Void;)V"⟩ : MethodName) jdk_42_method_149_code 6 none ⟨1, 4, 8, 12⟩ #[(.ref a1), (.ref a2), (.int (0 : Int32)), (.int (0 : Int32)), .null] (QE0 Z a1 h0 n0) 4 8 := by
  refine own_bW "java/lang/String" #[rv a1, rv a2, iv (0 : Int32), iv (0 : Int32), .val .null, .unset] hw (pf pn_3 rfl) rfl O0 (fun m => own_e) ?_
  intro p e s m below meth cC s₁ hZ hh hx hby hml hown hnm hrt hlk X0 e0 N0 Z0 hS0 C0 own_wS own_hEL
  refine wa X0 hx hby 0 d42_149_0 rfl rfl ?_
  obtain ⟨T134, X134, e134, st134⟩ := initO X0 hx hZ hown (tw hw 20 rfl) (tw hw 21 rfl) (tw hw 22 rfl) e0 (g := (mkF m 1 #[rv a1, rv a2, iv (0 : Int32), iv (0 : Int32), .val .null, .unset] [(.ref a1)])) rfl (by rw [hml]; rfl) rfl (hb hby d42_149_1) (by decide) (W := 0) (by show 2 * 0 + _ ≤ _; exact Nat.le_of_eq rfl) (by decide)
  refine own_go st134 ?_
  refine wl X134 hx hby 4 d42_149_4 rfl ?_
  refine we X134 hx hby 5 d42_149_5 ((if0 _ _).trans (teq (by decide : (0 : Int32) = (0 : Int32))).2) ?_
  try dsimp only [mkF]
  refine wa X134 hx hby 8 d42_149_8 rfl rfl ?_
  obtain ⟨aL135, T135, h135, k1135, b135, kb135, X135, e135, E135, hS135, hk135, hZ135, hown135, Ea135, Fc135, Fv135, Va135, la135, lb135, A135, Li135, sf135, st135⟩ := ldcCH X134 hx hZ hown (tw hw 23 rfl) own_wS e134 hS0 (Nat.zero_le _) own_hEL (by decide) C0.1 (vs := []) (z := (0 : Int32)) ⟨by decide, by decide⟩ (by decide) (by decide) (g := (mkF m 9 #[rv a1, rv a2, iv (0 : Int32), iv (0 : Int32), .val .null, .unset] [(.ref a1)])) rfl (hb hby d42_149_9) (n := 0) (by decide) (by decide) (by decide) (by decide)
  refine own_go st135 ?_
  have C136 := C0.trans A135
  have Xb135 := own_litX hZ135 hown135 (tw hw 23 rfl) Li135 A135.1 (by decide) Fv135
  have sf137 : Safe Z own_EL T135.vm h135 a1 := own_safeNull hZ135.alike (E_a.ext E135) (F_v.ext E135)
  obtain ⟨T138, X138, e138, st138⟩ := getF X135 hx hZ135 hown135 (host := "") (Or.inl (tw hw 29 rfl)) Via.refl e135 Fv135 (g := (mkF m 11 #[rv a1, rv a2, iv (0 : Int32), iv (0 : Int32), .val .null, .unset] [(.ref aL135), (.ref a1)])) rfl rfl (hb hby d42_149_11)
  refine own_go st138 ?_
  obtain ⟨T139, h139, X139, e139, W139, st139⟩ := putF X138 hx hZ135 hown135 (host := "") (Or.inl (tw hw 29 rfl)) Via.refl e138 (F_v.ext E135) (E_a.ext E135) (Or.inr ⟨(tw hw 25 rfl), rfl, hnm⟩) (tw hw 10 rfl) (ty := (.array .byte)) (by decide) rfl rfl (g := (mkF m 14 #[rv a1, rv a2, iv (0 : Int32), iv (0 : Int32), .val .null, .unset] [(.ref b135), (.ref a1)])) rfl rfl (hb hby d42_149_14)
  refine own_go st139 ?_
  have N139 := Fr.snoc X139 N0 g_a
  have C140 := C136.trans (CHr.wr W139 sf137 C136.1)
  have Fw139 := (F_v.ext E135).same W139
  refine wa X139 hx hby 17 d42_149_17 rfl rfl ?_
  try dsimp only [mkF]
  obtain ⟨aL141, T141, h141, k1141, b141, kb141, X141, e141, E141, hS141, hk141, hZ141, hown141, Ea141, Fc141, Fv141, Va141, la141, lb141, A141, Li141, sf141, st141⟩ := ldcCH X139 hx hZ135 hown135 (tw hw 23 rfl) own_wS e139 hS135 (Nat.le_trans hk135 (Keep.of_wr W139).1) own_hEL (by decide) C140.1 (vs := []) (z := (0 : Int32)) ⟨by decide, by decide⟩ (by decide) (by decide) (g := (mkF m 18 #[rv a1, rv a2, iv (0 : Int32), iv (0 : Int32), .val .null, .unset] [(.ref a1)])) rfl (hb hby d42_149_18) (n := 0) (by decide) (by decide) (by decide) (by decide)
  refine own_go st141 ?_
  have C142 := C140.trans A141
  have Xb141 := own_litX hZ141 hown141 (tw hw 23 rfl) Li141 A141.1 (by decide) Fv141
  have z143 := (Nat.le_trans E135.1 (Keep.of_wr W139).1)
  have f144 := (A141.safe (Nat.lt_of_lt_of_le E_a.lt z143) (Safe.wr W139 sf137 C136.1 sf137))
  obtain ⟨T145, X145, e145, st145⟩ := getF X141 hx hZ141 hown141 (host := "") (Or.inl (tw hw 30 rfl)) Via.refl e141 Fc141 (g := (mkF m 20 #[rv a1, rv a2, iv (0 : Int32), iv (0 : Int32), .val .null, .unset] [(.ref aL141), (.ref a1)])) rfl rfl (hb hby d42_149_20)
  refine own_go st145 ?_
  have f146 := (((F_c.ext E135).other W139 (Or.inr (slot_ne (Or.inr (tw hw 26 rfl)) (Or.inr (tw hw 25 rfl)) (by decide) (t := .byte) (t' := (.array .byte)) (by decide) (by decide)))).ext E141)
  have f147 := (((E_a.ext E135).wr W139).ext E141)
  obtain ⟨T148, h148, X148, e148, W148, st148⟩ := putFN X145 hx hZ141 hown141 (tw hw 30 rfl) Via.refl e145 f146 f147 (Or.inr ⟨(tw hw 26 rfl), rfl, hnm⟩) (tw hw 10 rfl) (ty := .byte) (v' := (.int (0 : Int32))) (by decide) rfl rfl (g := (mkF m 23 #[rv a1, rv a2, iv (0 : Int32), iv (0 : Int32), .val .null, .unset] [(.int (0 : Int32)), (.ref a1)])) rfl rfl (hb hby d42_149_23)
  refine own_go st148 ?_
  have N148 := Fr.snoc X148 N139 g_a
  have C149 := C142.trans (CHr.wr W148 f144 C142.1)
  have Fw148 := f146.same W148
  have f150 := (((((Keep.refl h0 [a1]).ext E135).wr W139 (Or.inl (List.mem_of_getElem? (i := 0) rfl))).ext E141).wr W148 (Or.inl (List.mem_of_getElem? (i := 0) rfl)))
  have f151 := ((Fw139.ext E141).other W148 (Or.inr (slot_ne (Or.inr (tw hw 25 rfl)) (Or.inr (tw hw 26 rfl)) (by decide) (t := (.array .byte)) (t' := .byte) (by decide) (by decide))))
  have f152 := (((Va135.other W139 (Ne.symm (sf135 _ sf137).2)).ext E141).other W148 (Ne.symm (sf135 _ sf137).2))
  have f153 := (((Xb135.wr W139).ext E141).wr W148)
  refine own_finW (v := none) X148 hh hZ141 hS141 (by rw [e148]; exact (Nat.le_trans hk141 (Keep.of_wr W148).1)) (fun _ => rfl) hlk (fun fs hr => X148.returnOut hx hrt (hb hby d42_149_26) hr) (QQ := QE0 Z a1 h0 n0) ?_ own_hEL e148 (C149) (by decide) (by decide)
  rw [e148]
  exact ⟨b135, kb135, rfl, N148, f150, f151, Fw148, f152, f153⟩

abbrev k42_3 := jdk_42_method_3_code
theorem d42_3_0:Dk k42_3 0 (.aload_n 0) 1:=kk
theorem d42_3_1:Dk k42_3 1 (.aload_n 1) 1:=kk
theorem d42_3_2:Dk k42_3 2 (.iconst 0) 1:=kk
theorem d42_3_3:Dk k42_3 3 (.aload_n 1) 1:=kk
theorem d42_3_4:Dk k42_3 4 (.arraylength) 1:=kk
theorem d42_3_5:Dk k42_3 5 (.aconst_null) 1:=kk
theorem d42_3_6:Dk k42_3 6 (.invokespecial 27) 3:=kk
theorem pd_15 : parseMethodDescriptor "([CIILjava/lang/Void;)V" = some ⟨[(.array .char), .int, .int, (.object "java/lang/Void")], none⟩ := by decide +kernel
theorem d42_3_9:Dk k42_3 9 (.return_) 1:=kk
set_option maxRecDepth 65536 in
set_option maxHeartbeats 40000000 in
theorem rm_i1e (l : Launch) (Z : State) (a0 : Array Value) (hw : ∀ d ∈ tables_1, d.before a0 Z = true) (ws : List Jvm.Cond) (a1 a2 : Addr) (k2 : ClassId) (h0 : Heap) (n0 : Nat) (O0 : Old Z n0 h0) (E_a : Exa Z h0 a1 "java/lang/String") (F_v : Fld Z h0 a1 "java/lang/String" "value" "[B" .null) (F_c : Fld Z h0 a1 "java/lang/String" "coder" "B" (.int (0 : Int32))) (g_a : n0 ≤ a1) (V_a2 : Arv Z h0 a2 k2 .char (0 : Int32) [] (.int (0 : Int32))) :
    own_TW l Z ws h0 (⟨"java/lang/String", "<init>", "([C)V"⟩ : MethodName) jdk_42_method_3_code 2 none ⟨2, 4, 8, 29⟩ #[(.ref a1), (.ref a2)] (QE0 Z a1 h0 n0) 4 8 := by
  refine own_bW "java/lang/String" #[rv a1, rv a2] hw (pf pn_3 rfl) rfl O0 (fun m => own_e) ?_
  intro p e s m below meth cC s₁ hZ hh hx hby hml hown hnm hrt hlk X0 e0 N0 Z0 hS0 C0 own_wS own_hEL
  refine wa X0 hx hby 0 d42_3_0 rfl rfl ?_
  refine wa X0 hx hby 1 d42_3_1 rfl rfl ?_
  refine wc X0 hx hby 2 d42_3_2 ?_
  refine wa X0 hx hby 3 d42_3_3 rfl rfl ?_
  try dsimp only [mkF]
  obtain ⟨c154, A154, q154, S154, M154, Hs154, Gs154⟩ := id V_a2
  refine og (fun _ k => X0.arraylength hx (by rw [e0]; exact A154.1) (State.isArrayOf_alike hZ.alike A154.2.1) (g := (mkF m 4 #[rv a1, rv a2] [(.ref a2), (.int (0 : Int32)), (.ref a2), (.ref a1)])) rfl rfl (hb hby d42_3_4) _ k) ?_
  rw [len_of S154 M154]
  refine og (fun _ k => XS.aconstNull X0.here hx rfl (hb hby d42_3_5) k) ?_
  obtain ⟨v155, _, ⟨T155, L155, k155, n155⟩, -, X155, hS155, hg155, ⟨Lc155, hQ155, l155, y155, z155, A155⟩, st155⟩ := X0.specialBackS hx (y := (⟨"java/lang/String", "<init>", "([CIILjava/lang/Void;)V"⟩ : MethodName)) rfl hown (mvT hZ (tw hw 16 rfl)) (mvT hZ (tw hw 17 rfl)) (mvT hZ (tw hw 19 rfl)) (by decide) (backOfSH (W := 0) (rm_i4e l Z a0 hw [] a1 a2 h0 n0 O0 E_a F_v F_c g_a) hZ (tw hw 19 rfl) (tw hw 11 rfl) (by decide) (by decide) own_hEL C0.1) (g := (mkF m 6 #[rv a1, rv a2] [.null, (.int (0 : Int32)), (.int (0 : Int32)), (.ref a2), (.ref a1)])) rfl (by rw [hml]; rfl) (Steps.refl _) (a := a1) (argsL := [(.ref a2), (.int (0 : Int32)), (.int (0 : Int32)), .null]) (rest := []) (lenOf pd_15 rfl) rfl (by show 2 * 0 + _ ≤ _; exact Nat.le_of_eq rfl) (hb hby d42_3_6) (fun _ _ => ⟨rfl, e0, (by decide : 0 + 4 ≤ _), (by decide : 0 + 8 ≤ _)⟩)
  dsimp only [Pt.U, Pt.locs, Pt.cells, Pt.slots] at X155 l155 y155 z155 st155 hQ155 hS155 hg155 A155
  subst l155 y155 z155
  refine own_gos st155 ?_
  obtain ⟨X155, hS155, hZ155, hown155⟩ := rebS hS0 (k0 := _) (n1 := s₁.heap.size) (by rw [e0]; exact (Nat.zero_le _)) X155 hS155 hg155 hZ hown
  obtain ⟨t155, kt155, rfl, Nq155, K155, Fv155, Fc155, Vt155, Xt155⟩ := hQ155
  have C156 := C0.trans A155
  have N155 := Fr.app N0 Nq155
  have f157 := ((Keep.refl h0 [a1]).trans K155 (allS (Or.inl (List.mem_of_getElem? (i := 0) rfl)) all0))
  refine own_finW (v := none) X155 hh hZ155 hS155 (by rw [(rfl : T155.heap = T155.heap)]; exact (Nat.le_refl _)) (fun _ => rfl) hlk (fun fs hr => X155.returnOut hx hrt (hb hby d42_3_9) hr) (QQ := QE0 Z a1 h0 n0) ?_ own_hEL (rfl : T155.heap = T155.heap) (C156) (by decide) (by decide)
  exact ⟨t155, kt155, rfl, N155, f157, Fv155, Fc155, Vt155, Xt155⟩

abbrev k52_21 := jdk_52_method_21_code
theorem d52_21_0:Dk k52_21 0 (.iconst 0) 1:=kk
theorem d52_21_1:Dk k52_21 1 (.istore 5) 2:=kk
theorem d52_21_3:Dk k52_21 3 (.iload 5) 2:=kk
theorem d52_21_5:Dk k52_21 5 (.iload 4) 2:=kk
theorem d52_21_7:Dk k52_21 7 (.if_icmp .ge 37) 3:=kk
theorem d52_21_44:Dk k52_21 44 (.iload 4) 2:=kk
theorem d52_21_46:Dk k52_21 46 (.ireturn) 1:=kk
theorem d52_21_10:Dk k52_21 10 (.aload_n 0) 1:=kk
theorem d52_21_11:Dk k52_21 11 (.iload_n 1) 1:=kk
theorem d52_21_12:Dk k52_21 12 (.caload) 1:=kk
theorem d52_21_13:Dk k52_21 13 (.istore 6) 2:=kk
theorem d52_21_15:Dk k52_21 15 (.iload 6) 2:=kk
theorem d52_21_17:Dk k52_21 17 (.sipush 255) 3:=kk
theorem d52_21_20:Dk k52_21 20 (.if_icmp .le 6) 3:=kk
theorem d52_21_23:Dk k52_21 23 (.iload 5) 2:=kk
theorem d52_21_25:Dk k52_21 25 (.ireturn) 1:=kk
theorem d52_21_26:Dk k52_21 26 (.aload_n 2) 1:=kk
theorem d52_21_27:Dk k52_21 27 (.iload_n 3) 1:=kk
theorem d52_21_28:Dk k52_21 28 (.iload 6) 2:=kk
theorem d52_21_30:Dk k52_21 30 (.i2b) 1:=kk
theorem d52_21_31:Dk k52_21 31 (.bastore) 1:=kk
theorem d52_21_32:Dk k52_21 32 (.iinc 1 1) 3:=kk
theorem d52_21_35:Dk k52_21 35 (.iinc 3 1) 3:=kk
theorem d52_21_38:Dk k52_21 38 (.iinc 5 1) 3:=kk
theorem d52_21_41:Dk k52_21 41 (.goto (-38)) 3:=kk
theorem pn_8 : plainName "java/lang/StringUTF16" = true := by first | (simp [plainName, overriddenIn]; done) | decide +kernel
set_option maxRecDepth 65536 in
set_option maxHeartbeats 40000000 in
theorem rm_cmp5 (l : Launch) (Z : State) (a0 : Array Value) (hw : ∀ d ∈ tables_1, d.before a0 Z = true) (ws : List Jvm.Cond) (a : Addr) (ka : ClassId) (da : Value) (cs : List Int32) (b : Addr) (kb : ClassId) (h0 : Heap) (n0 : Nat) (O0 : Old Z n0 h0) (hok : own_Ok cs) (V_a : Arv Z h0 a ka .char (Int32.ofNat cs.length) (cs.map Value.int) da) (V_b : Arv Z h0 b kb .byte (Int32.ofNat cs.length) (List.replicate cs.length (.int (0 : Int32))) (.int (0 : Int32))) (g_b : n0 ≤ b) (hab : a ≠ b) :
    own_TN l Z ws h0 (⟨"java/lang/StringUTF16", "compress", "([CI[BII)I"⟩ : MethodName) jdk_52_method_21_code 7 (some .int) ⟨0, 0, 0, 0⟩ #[(.ref a), (.int (0 : Int32)), (.ref b), (.int (0 : Int32)), (.int (Int32.ofNat cs.length))] (QC5 Z b kb cs h0 n0) 0 0 := by
  refine own_bN "java/lang/StringUTF16" #[rv a, iv (0 : Int32), rv b, iv (0 : Int32), iv (Int32.ofNat cs.length), .unset, .unset] (pf pn_8 rfl) rfl O0 (fun m => own_e) ?_
  intro p e s m below meth cC s₁ hZ hh hx hby hml hown hnm hrt hlk X0 e0 N0 Z0
  have hlen : cs.length ≤ 4000 := hok.2
  refine wc X0 hx hby 0 d52_21_0 ?_
  refine wz X0 hx hby 1 #[rv a, iv (0 : Int32), rv b, iv (0 : Int32), iv (Int32.ofNat cs.length), iv (0 : Int32), .unset] d52_21_1 rfl ?_
  have loop : ∀ (kT iloop : Nat) (sl : Slot) (T : State) (locs : List Loc) (h : Heap), iloop + kT = cs.length → Stand p l e ⟨0, 0, 0, 0⟩ s m #[(.ref a), (.int (0 : Int32)), (.ref b), (.int (0 : Int32)), (.int (Int32.ofNat cs.length))] below meth cC T locs 0 0 → T.heap = h → Fr n0 locs → Old Z n0 h → Keep h0 h [b] → Arv Z h a ka .char (Int32.ofNat cs.length) (cs.map Value.int) da → Arv Z h b kb .byte (Int32.ofNat cs.length) (own_part cs iloop) (.int (0 : Int32)) → (∀ j, j < iloop → ¬ (255 : Int32) < cs.getD j 0) → ((sl = .unset ∨ ∃ w, sl = .val w ∧ w.category = 1)) → own_Go p e below (T.setTop (mkF m 3 #[rv a, iv (Int32.ofNat iloop), rv b, iv (Int32.ofNat iloop), iv (Int32.ofNat cs.length), iv (Int32.ofNat iloop), sl] [])) (fun oO U' => ∃ rV rL, oO = .returned rV ∧ QC5 Z b kb cs h0 n0 rV U'.heap rL ∧ FrameEnd s oO U' rL 0 0) := by
    intro kT
    induction kT with
    | zero =>
      intro iloop sl T158 L158 h158 hik X158 e158 N158 O158 K158 J0_158 J1_158 hall hsl
      have Z0_158 : n0 ≤ h158.size := O158.1 ▸ O158.2.1
      have hin : iloop = cs.length := by omega
      have hlt : ¬ ((Int32.ofNat iloop) < (Int32.ofNat cs.length)) := by rw [own_lti (by omega) (by omega)]; omega
      refine wm X158 hx hby 3 d52_21_3 rfl ?_
      try dsimp only [mkF]
      refine wm X158 hx hby 5 d52_21_5 rfl ?_
      refine wy X158 hx hby 7 44 d52_21_7 (flt hlt).2.1 ?_
      refine wm X158 hx hby 44 d52_21_44 rfl ?_
      refine own_fin (v := (some (.int (Int32.ofNat cs.length)))) X158 (fun h => by rw [hrt] at h; cases h) hlk (fun fs hr => retI X158 hx hrt (hb hby d52_21_46) hr) (QQ := QC5 Z b kb cs h0 n0) ?_ (by decide) (by decide)
      rw [e158]
      exact ⟨cs.length, rfl, N158, K158, Or.inl ⟨rfl, own_all (fun j hj => hall j (by omega)), by have q := J1_158; rw [hin, own_partn] at q; exact q⟩⟩
    | succ kT ih =>
      intro iloop sl T159 L159 h159 hik X159 e159 N159 O159 K159 J0_159 J1_159 hall hsl
      have Z0_159 : n0 ≤ h159.size := O159.1 ▸ O159.2.1
      have hi : iloop < cs.length := by omega
      have hlt : (Int32.ofNat iloop) < (Int32.ofNat cs.length) := (own_lti (by omega) (by omega)).mpr hi
      refine wm X159 hx hby 3 d52_21_3 rfl ?_
      try dsimp only [mkF]
      refine wm X159 hx hby 5 d52_21_5 rfl ?_
      refine wn X159 hx hby 7 d52_21_7 (tlt hlt).2.1 ?_
      refine wa X159 hx hby 10 d52_21_10 rfl rfl ?_
      refine wl X159 hx hby 11 d52_21_11 rfl ?_
      obtain ⟨c160, A160, q160, S160, M160, Hs160, Gs160⟩ := id J0_159
      have hi160 := inb_of (j := (Int32.ofNat iloop)) S160 (own_inb hi (by omega))
      refine og (fun _ k => X159.caload hx (j := (Int32.ofNat iloop)) (v := (.int (cs.getD iloop 0))) (by rw [e159]; exact A160.1) (State.isArrayOf_alike hZ.alike A160.2.1) A160.2.2 hi160 (Has.at Hs160 hi160 (own_gd rfl hi (by omega))) (g := (mkF m 12 #[rv a, iv (Int32.ofNat iloop), rv b, iv (Int32.ofNat iloop), iv (Int32.ofNat cs.length), iv (Int32.ofNat iloop), sl] [(.int (Int32.ofNat iloop)), (.ref a)])) rfl rfl (hb hby d52_21_12) _ k) ?_
      try dsimp only [mkF]
      refine og (fun _ k => XS.istoreS X159.here hx rfl (hb hby d52_21_13) rfl rfl hsl k) ?_
      refine wm X159 hx hby 15 d52_21_15 rfl ?_
      refine og (fun _ k => XS.sipush X159.here hx rfl (hb hby d52_21_17) k) ?_
      by_cases hc161 : (255 : Int32) < (cs.getD iloop 0)
      · skip
        refine wn X159 hx hby 20 d52_21_20 (tlt hc161).2.2.2 ?_
        refine wm X159 hx hby 23 d52_21_23 rfl ?_
        try dsimp only [mkF]
        refine own_fin (v := (some (.int (Int32.ofNat iloop)))) X159 (fun h => by rw [hrt] at h; cases h) hlk (fun fs hr => retI X159 hx hrt (hb hby d52_21_25) hr) (QQ := QC5 Z b kb cs h0 n0) ?_ (by decide) (by decide)
        rw [e159]
        exact ⟨iloop, rfl, N159, K159, Or.inr ⟨hi, hc161⟩⟩
      · skip
        refine wy X159 hx hby 20 26 d52_21_20 (flt hc161).2.2.2 ?_
        refine wa X159 hx hby 26 d52_21_26 rfl rfl ?_
        try dsimp only [mkF]
        refine wl X159 hx hby 27 d52_21_27 rfl ?_
        refine wm X159 hx hby 28 d52_21_28 rfl ?_
        refine og (fun _ k => XS.i2b X159.here hx rfl (hb hby d52_21_30) rfl k) ?_
        obtain ⟨c162, A162, q162, S162, M162, Hs162, Gs162⟩ := id J1_159
        obtain ⟨T163, h163, X163, e163, W163, st163⟩ := stB X159 hx hZ e159 A162 (j := (Int32.ofNat iloop)) (inb_of S162 (own_inb hi (by omega))) (g := (mkF m 31 #[rv a, iv (Int32.ofNat iloop), rv b, iv (Int32.ofNat iloop), iv (Int32.ofNat cs.length), iv (Int32.ofNat iloop), iv (cs.getD iloop 0)] [(.int ((cs.getD iloop 0).toInt8.toInt32)), (.int (Int32.ofNat iloop)), (.ref b)])) rfl rfl (hb hby d52_21_31)
        refine own_go st163 ?_
        have N163 := Fr.snoc X163 N159 g_b
        have V163 : Arv Z h163 b kb .byte (Int32.ofNat cs.length) (own_part cs (iloop + 1)) (.int (0 : Int32)) := Eq.mp (congrArg (fun LL => Arv Z h163 b kb .byte (Int32.ofNat cs.length) LL (.int (0 : Int32))) (show ((own_part cs iloop) : List Value).set iloop (.int (nar .byte ((cs.getD iloop 0).toInt8.toInt32))) = (own_part cs (iloop + 1)) from (by rw [own_nb]; exact own_set1 hi))) (Arv.set A162 q162 S162 M162 Hs162 Gs162 (fits_nar_byte _) W163 iloop (own_tn (by omega)) (by rw [own_partl (by omega)]; exact hi))
        refine wi X163 hx hby 32 #[rv a, iv ((Int32.ofNat iloop) + (1 : Int32)), rv b, iv (Int32.ofNat iloop), iv (Int32.ofNat cs.length), iv (Int32.ofNat iloop), iv (cs.getD iloop 0)] d52_21_32 rfl rfl ?_
        try dsimp only [mkF]
        refine wi X163 hx hby 35 #[rv a, iv ((Int32.ofNat iloop) + (1 : Int32)), rv b, iv ((Int32.ofNat iloop) + (1 : Int32)), iv (Int32.ofNat cs.length), iv (Int32.ofNat iloop), iv (cs.getD iloop 0)] d52_21_35 rfl rfl ?_
        refine wi X163 hx hby 38 #[rv a, iv ((Int32.ofNat iloop) + (1 : Int32)), rv b, iv ((Int32.ofNat iloop) + (1 : Int32)), iv (Int32.ofNat cs.length), iv ((Int32.ofNat iloop) + (1 : Int32)), iv (cs.getD iloop 0)] d52_21_38 rfl rfl ?_
        refine wg X163 hx hby 41 3 d52_21_41 ?_
        show own_Go p e below (T163.setTop (mkF m 3 #[rv a, iv ((Int32.ofNat iloop) + (1 : Int32)), rv b, iv ((Int32.ofNat iloop) + (1 : Int32)), iv (Int32.ofNat cs.length), iv ((Int32.ofNat iloop) + (1 : Int32)), iv (cs.getD iloop 0)] [])) _
        rw [own_inc]
        have f164 := (K159.wr W163 (Or.inl (List.mem_of_getElem? (i := 0) rfl)))
        exact ih (iloop + 1) (.val (.int (cs.getD iloop 0))) T163 _ h163 (by omega) X163 e163 N163 (O159.wr W163 g_b) f164 (J0_159.other W163 hab) V163 (fun j hj => (Nat.lt_succ_iff_lt_or_eq.mp hj).elim (fun q => hall j q) (fun q => q ▸ hc161)) (Or.inr ⟨_, rfl, rfl⟩)
  exact loop (cs.length) 0 .unset s₁ _ h0 (by omega) X0 e0 N0 O0 (Keep.refl h0 [b]) V_a (own_part0 cs ▸ V_b) (fun j hj => absurd hj (Nat.not_lt_zero _)) (Or.inl rfl)

abbrev k52_4 := jdk_52_method_4_code
theorem d52_4_0:Dk k52_4 0 (.getstatic 44) 3:=kk
theorem d52_4_3:Dk k52_4 3 (.ifCond .ne 25) 3:=kk
theorem d52_4_28:Dk k52_4 28 (.iload_n 1) 1:=kk
theorem d52_4_29:Dk k52_4 29 (.iconst 1) 1:=kk
theorem d52_4_30:Dk k52_4 30 (.ishl) 1:=kk
theorem d52_4_31:Dk k52_4 31 (.istore_n 1) 1:=kk
theorem d52_4_32:Dk k52_4 32 (.aload_n 0) 1:=kk
theorem d52_4_33:Dk k52_4 33 (.iload_n 1) 1:=kk
theorem d52_4_34:Dk k52_4 34 (.iinc 1 1) 3:=kk
theorem d52_4_37:Dk k52_4 37 (.iload_n 2) 1:=kk
theorem d52_4_38:Dk k52_4 38 (.getstatic 59) 3:=kk
theorem d52_4_41:Dk k52_4 41 (.ishr) 1:=kk
theorem d52_4_42:Dk k52_4 42 (.i2b) 1:=kk
theorem d52_4_43:Dk k52_4 43 (.bastore) 1:=kk
theorem d52_4_44:Dk k52_4 44 (.aload_n 0) 1:=kk
theorem d52_4_45:Dk k52_4 45 (.iload_n 1) 1:=kk
theorem d52_4_46:Dk k52_4 46 (.iload_n 2) 1:=kk
theorem d52_4_47:Dk k52_4 47 (.getstatic 63) 3:=kk
theorem d52_4_50:Dk k52_4 50 (.ishr) 1:=kk
theorem d52_4_51:Dk k52_4 51 (.i2b) 1:=kk
theorem d52_4_52:Dk k52_4 52 (.bastore) 1:=kk
theorem d52_4_53:Dk k52_4 53 (.return_) 1:=kk
set_option maxRecDepth 65536 in
set_option maxHeartbeats 40000000 in
theorem rm_put (l : Launch) (Z : State) (a0 : Array Value) (hw : ∀ d ∈ tables_1, d.before a0 Z = true) (ws : List Jvm.Cond) (b : Addr) (kb : ClassId) (N : Nat) (vs : List Value) (i : Nat) (c : Int32) (h0 : Heap) (n0 : Nat) (O0 : Old Z n0 h0) (OA : Sta Z Z.heap "java/lang/StringUTF16" "$assertionsDisabled" "Z" (.int (1 : Int32))) (OH : Sta Z Z.heap "java/lang/StringUTF16" "HI_BYTE_SHIFT" "I" (.int (0 : Int32))) (OL : Sta Z Z.heap "java/lang/StringUTF16" "LO_BYTE_SHIFT" "I" (.int (8 : Int32))) (V_b : Arv Z h0 b kb .byte (Int32.ofNat N) vs (.int (0 : Int32))) (g_b : n0 ≤ b) (hv : vs.length = N) (hi : 2 * i + 1 < N) (hN : N ≤ 8000) :
    own_TN l Z ws h0 (⟨"java/lang/StringUTF16", "putChar", "([BII)V"⟩ : MethodName) jdk_52_method_4_code 3 none ⟨0, 0, 0, 0⟩ #[(.ref b), (.int (Int32.ofNat i)), (.int c)] (QPut Z b kb (Int32.ofNat N) ((vs.set (2 * i) (.int (StrChars.lo8 c))).set (2 * i + 1) (.int (StrChars.hi8 c))) h0 n0) 0 0 := by
  refine own_bN "java/lang/StringUTF16" #[rv b, iv (Int32.ofNat i), iv c] (pf pn_8 rfl) rfl O0 (fun m => own_e) ?_
  intro p e s m below meth cC s₁ hZ hh hx hby hml hown hnm hrt hlk X0 e0 N0 Z0
  obtain ⟨T165, X165, e165, st165⟩ := getS2 X0 hx hZ hown (host := "") (Or.inl (tw hw 251 rfl)) Via.refl e0 (OA.ext O0.2) (g := (mkF m 0 #[rv b, iv (Int32.ofNat i), iv c] [])) rfl (hb hby d52_4_0)
  refine own_go st165 ?_
  refine wf X165 hx hby 3 28 d52_4_3 ((if0 _ _).trans (feq (by decide : ¬ ((1 : Int32) = (0 : Int32)))).2) ?_
  refine wl X165 hx hby 28 d52_4_28 rfl ?_
  refine wc X165 hx hby 29 d52_4_29 ?_
  try dsimp only [mkF]
  refine og (fun _ k => XS.ishl X165.here hx rfl (hb hby d52_4_30) rfl k) ?_
  show own_Go p e below (T165.setTop (mkF m 31 #[rv b, iv (Int32.ofNat i), iv c] [(.int ((Int32.ofNat i) <<< ((1 : Int32) &&& 31)))])) _
  rw [own_shl1 (by omega : i ≤ 4000)]
  refine wt X165 hx hby 31 #[rv b, iv (Int32.ofNat (2 * i)), iv c] d52_4_31 rfl ?_
  refine wa X165 hx hby 32 d52_4_32 rfl rfl ?_
  refine wl X165 hx hby 33 d52_4_33 rfl ?_
  try dsimp only [mkF]
  refine wi X165 hx hby 34 #[rv b, iv ((Int32.ofNat (2 * i)) + (1 : Int32)), iv c] d52_4_34 rfl rfl ?_
  show own_Go p e below (T165.setTop (mkF m 37 #[rv b, iv ((Int32.ofNat (2 * i)) + (1 : Int32)), iv c] [(.int (Int32.ofNat (2 * i))), (.ref b)])) _
  rw [own_inc]
  refine wl X165 hx hby 37 d52_4_37 rfl ?_
  obtain ⟨T166, X166, e166, st166⟩ := getS2 X165 hx hZ hown (host := "") (Or.inl (tw hw 252 rfl)) Via.refl e165 (OH.ext O0.2) (g := (mkF m 38 #[rv b, iv (Int32.ofNat (2 * i + 1)), iv c] [(.int c), (.int (Int32.ofNat (2 * i))), (.ref b)])) rfl (hb hby d52_4_38)
  refine own_go st166 ?_
  refine og (fun _ k => XS.ishr X166.here hx rfl (hb hby d52_4_41) rfl k) ?_
  try dsimp only [mkF]
  refine og (fun _ k => XS.i2b X166.here hx rfl (hb hby d52_4_42) rfl k) ?_
  obtain ⟨c167, A167, q167, S167, M167, Hs167, Gs167⟩ := id V_b
  obtain ⟨T168, h168, X168, e168, W168, st168⟩ := stB X166 hx hZ e166 A167 (j := (Int32.ofNat (2 * i))) (inb_of S167 (own_inb (by omega) (by omega))) (g := (mkF m 43 #[rv b, iv (Int32.ofNat (2 * i + 1)), iv c] [(.int ((c >>> ((0 : Int32) &&& 31)).toInt8.toInt32)), (.int (Int32.ofNat (2 * i))), (.ref b)])) rfl rfl (hb hby d52_4_43)
  refine own_go st168 ?_
  have N168 := Fr.snoc X168 N0 g_b
  have V168 : Arv Z h168 b kb .byte (Int32.ofNat N) (vs.set (2 * i) (.int (StrChars.lo8 c))) (.int (0 : Int32)) := Eq.mp (congrArg (fun LL => Arv Z h168 b kb .byte (Int32.ofNat N) LL (.int (0 : Int32))) (show (vs : List Value).set (2 * i) (.int (nar .byte ((c >>> ((0 : Int32) &&& 31)).toInt8.toInt32))) = (vs.set (2 * i) (.int (StrChars.lo8 c))) from (by rw [own_nb, StrChars.shr0]; rfl))) (Arv.set A167 q167 S167 M167 Hs167 Gs167 (fits_nar_byte _) W168 (2 * i) (own_tn (by omega)) (by omega))
  refine wa X168 hx hby 44 d52_4_44 rfl rfl ?_
  refine wl X168 hx hby 45 d52_4_45 rfl ?_
  refine wl X168 hx hby 46 d52_4_46 rfl ?_
  try dsimp only [mkF]
  obtain ⟨T169, X169, e169, st169⟩ := getS2 X168 hx hZ hown (host := "") (Or.inl (tw hw 253 rfl)) Via.refl e168 (OL.ext (O0.wr W168 g_b).2) (g := (mkF m 47 #[rv b, iv (Int32.ofNat (2 * i + 1)), iv c] [(.int c), (.int (Int32.ofNat (2 * i + 1))), (.ref b)])) rfl (hb hby d52_4_47)
  refine own_go st169 ?_
  refine og (fun _ k => XS.ishr X169.here hx rfl (hb hby d52_4_50) rfl k) ?_
  refine og (fun _ k => XS.i2b X169.here hx rfl (hb hby d52_4_51) rfl k) ?_
  obtain ⟨c170, A170, q170, S170, M170, Hs170, Gs170⟩ := id V168
  obtain ⟨T171, h171, X171, e171, W171, st171⟩ := stB X169 hx hZ e169 A170 (j := (Int32.ofNat (2 * i + 1))) (inb_of S170 (own_inb (by omega) (by omega))) (g := (mkF m 52 #[rv b, iv (Int32.ofNat (2 * i + 1)), iv c] [(.int ((c >>> ((8 : Int32) &&& 31)).toInt8.toInt32)), (.int (Int32.ofNat (2 * i + 1))), (.ref b)])) rfl rfl (hb hby d52_4_52)
  refine own_go st171 ?_
  have N171 := Fr.snoc X171 N168 g_b
  have V171 : Arv Z h171 b kb .byte (Int32.ofNat N) ((vs.set (2 * i) (.int (StrChars.lo8 c))).set (2 * i + 1) (.int (StrChars.hi8 c))) (.int (0 : Int32)) := Eq.mp (congrArg (fun LL => Arv Z h171 b kb .byte (Int32.ofNat N) LL (.int (0 : Int32))) (show ((vs.set (2 * i) (.int (StrChars.lo8 c))) : List Value).set (2 * i + 1) (.int (nar .byte ((c >>> ((8 : Int32) &&& 31)).toInt8.toInt32))) = ((vs.set (2 * i) (.int (StrChars.lo8 c))).set (2 * i + 1) (.int (StrChars.hi8 c))) from (by rw [own_nb]; rfl))) (Arv.set A170 q170 S170 M170 Hs170 Gs170 (fits_nar_byte _) W171 (2 * i + 1) (own_tn (by omega)) (by rw [List.length_set]; omega))
  have f172 := (((Keep.refl h0 [b]).wr W168 (Or.inl (List.mem_of_getElem? (i := 0) rfl))).wr W171 (Or.inl (List.mem_of_getElem? (i := 0) rfl)))
  refine own_fin (v := none) X171 (fun _ => rfl) hlk (fun fs hr => X171.returnOut hx hrt (hb hby d52_4_53) hr) (QQ := QPut Z b kb (Int32.ofNat N) ((vs.set (2 * i) (.int (StrChars.lo8 c))).set (2 * i + 1) (.int (StrChars.hi8 c))) h0 n0) ?_ (by decide) (by decide)
  rw [e171]
  exact ⟨rfl, N171, f172, V171⟩

abbrev k52_5 := jdk_52_method_5_code
theorem d52_5_0:Dk k52_5 0 (.getstatic 44) 3:=kk
theorem d52_5_3:Dk k52_5 3 (.ifCond .ne 25) 3:=kk
theorem d52_5_28:Dk k52_5 28 (.iload_n 1) 1:=kk
theorem d52_5_29:Dk k52_5 29 (.iconst 1) 1:=kk
theorem d52_5_30:Dk k52_5 30 (.ishl) 1:=kk
theorem d52_5_31:Dk k52_5 31 (.istore_n 1) 1:=kk
theorem d52_5_32:Dk k52_5 32 (.aload_n 0) 1:=kk
theorem d52_5_33:Dk k52_5 33 (.iload_n 1) 1:=kk
theorem d52_5_34:Dk k52_5 34 (.iinc 1 1) 3:=kk
theorem d52_5_37:Dk k52_5 37 (.baload) 1:=kk
theorem d52_5_38:Dk k52_5 38 (.sipush 255) 3:=kk
theorem d52_5_41:Dk k52_5 41 (.iand) 1:=kk
theorem d52_5_42:Dk k52_5 42 (.getstatic 59) 3:=kk
theorem d52_5_45:Dk k52_5 45 (.ishl) 1:=kk
theorem d52_5_46:Dk k52_5 46 (.aload_n 0) 1:=kk
theorem d52_5_47:Dk k52_5 47 (.iload_n 1) 1:=kk
theorem d52_5_48:Dk k52_5 48 (.baload) 1:=kk
theorem d52_5_49:Dk k52_5 49 (.sipush 255) 3:=kk
theorem d52_5_52:Dk k52_5 52 (.iand) 1:=kk
theorem d52_5_53:Dk k52_5 53 (.getstatic 63) 3:=kk
theorem d52_5_56:Dk k52_5 56 (.ishl) 1:=kk
theorem d52_5_57:Dk k52_5 57 (.ior) 1:=kk
theorem d52_5_58:Dk k52_5 58 (.i2c) 1:=kk
theorem d52_5_59:Dk k52_5 59 (.ireturn) 1:=kk
set_option maxRecDepth 65536 in
set_option maxHeartbeats 40000000 in
theorem rm_get (l : Launch) (Z : State) (a0 : Array Value) (hw : ∀ d ∈ tables_1, d.before a0 Z = true) (ws : List Jvm.Cond) (b : Addr) (kb : ClassId) (N : Nat) (vs : List Value) (i : Nat) (c : Int32) (h0 : Heap) (n0 : Nat) (O0 : Old Z n0 h0) (OA : Sta Z Z.heap "java/lang/StringUTF16" "$assertionsDisabled" "Z" (.int (1 : Int32))) (OH : Sta Z Z.heap "java/lang/StringUTF16" "HI_BYTE_SHIFT" "I" (.int (0 : Int32))) (OL : Sta Z Z.heap "java/lang/StringUTF16" "LO_BYTE_SHIFT" "I" (.int (8 : Int32))) (V_b : Arv Z h0 b kb .byte (Int32.ofNat N) vs (.int (0 : Int32))) (h1 : vs.getD (2 * i) (.int (0 : Int32)) = .int (StrChars.lo8 c)) (h2 : vs.getD (2 * i + 1) (.int (0 : Int32)) = .int (StrChars.hi8 c)) (hi : 2 * i + 1 < N) (hN : N ≤ 8000) (hc : ¬ c < 0 ∧ ¬ (65535 : Int32) < c) :
    own_TN l Z ws h0 (⟨"java/lang/StringUTF16", "getChar", "([BI)C"⟩ : MethodName) jdk_52_method_5_code 2 (some .char) ⟨0, 0, 0, 0⟩ #[(.ref b), (.int (Int32.ofNat i))] (QPure (some (.int c)) h0 n0) 0 0 := by
  refine own_bN "java/lang/StringUTF16" #[rv b, iv (Int32.ofNat i)] (pf pn_8 rfl) rfl O0 (fun m => own_e) ?_
  intro p e s m below meth cC s₁ hZ hh hx hby hml hown hnm hrt hlk X0 e0 N0 Z0
  obtain ⟨T173, X173, e173, st173⟩ := getS2 X0 hx hZ hown (host := "") (Or.inl (tw hw 251 rfl)) Via.refl e0 (OA.ext O0.2) (g := (mkF m 0 #[rv b, iv (Int32.ofNat i)] [])) rfl (hb hby d52_5_0)
  refine own_go st173 ?_
  refine wf X173 hx hby 3 28 d52_5_3 ((if0 _ _).trans (feq (by decide : ¬ ((1 : Int32) = (0 : Int32)))).2) ?_
  refine wl X173 hx hby 28 d52_5_28 rfl ?_
  refine wc X173 hx hby 29 d52_5_29 ?_
  try dsimp only [mkF]
  refine og (fun _ k => XS.ishl X173.here hx rfl (hb hby d52_5_30) rfl k) ?_
  show own_Go p e below (T173.setTop (mkF m 31 #[rv b, iv (Int32.ofNat i)] [(.int ((Int32.ofNat i) <<< ((1 : Int32) &&& 31)))])) _
  rw [own_shl1 (by omega : i ≤ 4000)]
  refine wt X173 hx hby 31 #[rv b, iv (Int32.ofNat (2 * i))] d52_5_31 rfl ?_
  refine wa X173 hx hby 32 d52_5_32 rfl rfl ?_
  refine wl X173 hx hby 33 d52_5_33 rfl ?_
  try dsimp only [mkF]
  refine wi X173 hx hby 34 #[rv b, iv ((Int32.ofNat (2 * i)) + (1 : Int32))] d52_5_34 rfl rfl ?_
  show own_Go p e below (T173.setTop (mkF m 37 #[rv b, iv ((Int32.ofNat (2 * i)) + (1 : Int32))] [(.int (Int32.ofNat (2 * i))), (.ref b)])) _
  rw [own_inc]
  obtain ⟨c174, A174, q174, S174, M174, Hs174, Gs174⟩ := id V_b
  have hi174 := inb_of (j := (Int32.ofNat (2 * i))) S174 (own_inb (by omega) (by omega))
  refine og (fun _ k => X173.baloadBytes hx (j := (Int32.ofNat (2 * i))) (v := (.int (StrChars.lo8 c))) (by rw [e173]; exact A174.1) (State.isArrayOf_alike hZ.alike A174.2.1) A174.2.2 hi174 (Has.at Hs174 hi174 (by rw [own_tn (by omega)]; exact h1)) (g := (mkF m 37 #[rv b, iv (Int32.ofNat (2 * i + 1))] [(.int (Int32.ofNat (2 * i))), (.ref b)])) rfl rfl (hb hby d52_5_37) _ k) ?_
  refine og (fun _ k => XS.sipush X173.here hx rfl (hb hby d52_5_38) k) ?_
  refine og (fun _ k => XS.iand X173.here hx rfl (hb hby d52_5_41) rfl k) ?_
  try dsimp only [mkF]
  obtain ⟨T175, X175, e175, st175⟩ := getS2 X173 hx hZ hown (host := "") (Or.inl (tw hw 252 rfl)) Via.refl e173 (OH.ext O0.2) (g := (mkF m 42 #[rv b, iv (Int32.ofNat (2 * i + 1))] [(.int ((StrChars.lo8 c) &&& (255 : Int32)))])) rfl (hb hby d52_5_42)
  refine own_go st175 ?_
  refine og (fun _ k => XS.ishl X175.here hx rfl (hb hby d52_5_45) rfl k) ?_
  refine wa X175 hx hby 46 d52_5_46 rfl rfl ?_
  refine wl X175 hx hby 47 d52_5_47 rfl ?_
  obtain ⟨c176, A176, q176, S176, M176, Hs176, Gs176⟩ := id V_b
  have hi176 := inb_of (j := (Int32.ofNat (2 * i + 1))) S176 (own_inb (by omega) (by omega))
  refine og (fun _ k => X175.baloadBytes hx (j := (Int32.ofNat (2 * i + 1))) (v := (.int (StrChars.hi8 c))) (by rw [e175]; exact A176.1) (State.isArrayOf_alike hZ.alike A176.2.1) A176.2.2 hi176 (Has.at Hs176 hi176 (by rw [own_tn (by omega)]; exact h2)) (g := (mkF m 48 #[rv b, iv (Int32.ofNat (2 * i + 1))] [(.int (Int32.ofNat (2 * i + 1))), (.ref b), (.int (((StrChars.lo8 c) &&& (255 : Int32)) <<< ((0 : Int32) &&& 31)))])) rfl rfl (hb hby d52_5_48) _ k) ?_
  try dsimp only [mkF]
  refine og (fun _ k => XS.sipush X175.here hx rfl (hb hby d52_5_49) k) ?_
  refine og (fun _ k => XS.iand X175.here hx rfl (hb hby d52_5_52) rfl k) ?_
  obtain ⟨T177, X177, e177, st177⟩ := getS2 X175 hx hZ hown (host := "") (Or.inl (tw hw 253 rfl)) Via.refl e175 (OL.ext O0.2) (g := (mkF m 53 #[rv b, iv (Int32.ofNat (2 * i + 1))] [(.int ((StrChars.hi8 c) &&& (255 : Int32))), (.int (((StrChars.lo8 c) &&& (255 : Int32)) <<< ((0 : Int32) &&& 31)))])) rfl (hb hby d52_5_53)
  refine own_go st177 ?_
  refine og (fun _ k => XS.ishl X177.here hx rfl (hb hby d52_5_56) rfl k) ?_
  refine og (fun _ k => XS.ior X177.here hx rfl (hb hby d52_5_57) rfl k) ?_
  try dsimp only [mkF]
  refine og (fun _ k => XS.i2c X177.here hx rfl (hb hby d52_5_58) rfl k) ?_
  refine own_fin (v := (some (.int (nar .char (((((StrChars.lo8 c) &&& (255 : Int32)) <<< ((0 : Int32) &&& 31)) ||| (((StrChars.hi8 c) &&& (255 : Int32)) <<< ((8 : Int32) &&& 31))).toUInt32.toUInt16.toUInt32.toInt32))))) X177 (fun h => by rw [hrt] at h; cases h) hlk (fun fs hr => retN X177 hx (t := .char) hrt (by simp) (hb hby d52_5_59) hr) (QQ := QPure (some (.int c)) h0 n0) ?_ (by decide) (by decide)
  rw [e177]
  exact ⟨congrArg (fun z => some (Value.int z)) ((congrArg (nar .char) (StrChars.pair_says hc.1 hc.2)).trans (own_nc hc.1 hc.2)), N0, rfl⟩

abbrev k52_3 := jdk_52_method_3_code
theorem d52_3_0:Dk k52_3 0 (.iload_n 0) 1:=kk
theorem d52_3_1:Dk k52_3 1 (.ifCond .ge 11) 3:=kk
theorem d52_3_12:Dk k52_3 12 (.iload_n 0) 1:=kk
theorem d52_3_13:Dk k52_3 13 (.ldc 20) 2:=kk
theorem d52_3_15:Dk k52_3 15 (.if_icmp .lt 40) 3:=kk
theorem d52_3_55:Dk k52_3 55 (.iload_n 0) 1:=kk
theorem d52_3_56:Dk k52_3 56 (.iconst 1) 1:=kk
theorem d52_3_57:Dk k52_3 57 (.ishl) 1:=kk
theorem d52_3_58:Dk k52_3 58 (.ireturn) 1:=kk
set_option maxRecDepth 65536 in
set_option maxHeartbeats 40000000 in
theorem rm_nbl (l : Launch) (Z : State) (a0 : Array Value) (hw : ∀ d ∈ tables_1, d.before a0 Z = true) (ws : List Jvm.Cond) (n : Nat) (h0 : Heap) (n0 : Nat) (O0 : Old Z n0 h0) (hn : n ≤ 4000) :
    own_TN l Z ws h0 (⟨"java/lang/StringUTF16", "newBytesLength", "(I)I"⟩ : MethodName) jdk_52_method_3_code 1 (some .int) ⟨0, 0, 0, 0⟩ #[(.int (Int32.ofNat n))] (QPure (some (.int (Int32.ofNat (2 * n)))) h0 n0) 0 0 := by
  refine own_bN "java/lang/StringUTF16" #[iv (Int32.ofNat n)] (pf pn_8 rfl) rfl O0 (fun m => own_e) ?_
  intro p e s m below meth cC s₁ hZ hh hx hby hml hown hnm hrt hlk X0 e0 N0 Z0
  refine wl X0 hx hby 0 d52_3_0 rfl ?_
  refine wf X0 hx hby 1 12 d52_3_1 ((if0 _ _).trans (flt (own_nn0 (by omega))).2.1) ?_
  refine wl X0 hx hby 12 d52_3_12 rfl ?_
  refine og (fun _ k => X0.ldcInt hx hown (mvT hZ (tw hw 184 rfl)) (g := (mkF m 13 #[iv (Int32.ofNat n)] [(.int (Int32.ofNat n))])) rfl (hb hby d52_3_13) _ k) ?_
  try dsimp only [mkF]
  refine wy X0 hx hby 15 55 d52_3_15 (tlt ((own_lti (j := 1073741823) (by omega) (by decide)).mpr (by omega))).1 ?_
  refine wl X0 hx hby 55 d52_3_55 rfl ?_
  refine wc X0 hx hby 56 d52_3_56 ?_
  refine og (fun _ k => XS.ishl X0.here hx rfl (hb hby d52_3_57) rfl k) ?_
  refine own_fin (v := (some (.int ((Int32.ofNat n) <<< ((1 : Int32) &&& 31))))) X0 (fun h => by rw [hrt] at h; cases h) hlk (fun fs hr => retI X0 hx hrt (hb hby d52_3_58) hr) (QQ := QPure (some (.int (Int32.ofNat (2 * n)))) h0 n0) ?_ (by decide) (by decide)
  rw [e0]
  exact ⟨congrArg (fun z => some (Value.int z)) (own_shl1 hn), N0, rfl⟩

abbrev k52_2 := jdk_52_method_2_code
theorem d52_2_0:Dk k52_2 0 (.iload_n 0) 1:=kk
theorem d52_2_1:Dk k52_2 1 (.invokestatic 11) 3:=kk
theorem d52_2_4:Dk k52_2 4 (.newarray .byte) 2:=kk
theorem d52_2_6:Dk k52_2 6 (.areturn) 1:=kk
set_option maxRecDepth 65536 in
set_option maxHeartbeats 40000000 in
theorem rm_nbf (l : Launch) (Z : State) (a0 : Array Value) (hw : ∀ d ∈ tables_1, d.before a0 Z = true) (ws : List Jvm.Cond) (n : Nat) (h0 : Heap) (n0 : Nat) (O0 : Old Z n0 h0) (hn : n ≤ 2) :
    own_TN l Z ws h0 (⟨"java/lang/StringUTF16", "newBytesFor", "(I)[B"⟩ : MethodName) jdk_52_method_2_code 1 (some (.array .byte)) ⟨1, 1, 4, 12⟩ #[(.int (Int32.ofNat n))] (QNew Z (Int32.ofNat (2 * n)) (List.replicate (2 * n) (.int (0 : Int32))) h0 n0) 1 4 := by
  refine own_bN "java/lang/StringUTF16" #[iv (Int32.ofNat n)] (pf pn_8 rfl) rfl O0 (fun m => own_e) ?_
  intro p e s m below meth cC s₁ hZ hh hx hby hml hown hnm hrt hlk X0 e0 N0 Z0
  refine wl X0 hx hby 0 d52_2_0 rfl ?_
  obtain ⟨v178, _, ⟨T178, L178, k178, n178⟩, -, X178, ⟨Lc178, hQ178, l178, y178, z178⟩, st178⟩ := Jvm.LawKit.callS X0 hx (y := (⟨"java/lang/StringUTF16", "newBytesLength", "(I)I"⟩ : MethodName)) hown (mvT hZ (tw hw 181 rfl)) (mvT hZ (tw hw 182 rfl)) (mvT hZ (tw hw 179 rfl)) (mvT hZ (tw hw 183 rfl)) (by decide) (backOf (W := 0) (rm_nbl l Z a0 hw [] n h0 n0 O0 (by omega)) hZ (tw hw 183 rfl) (tw hw 179 rfl) (by decide) (by decide)) (g := (mkF m 1 #[iv (Int32.ofNat n)] [(.int (Int32.ofNat n))])) rfl (by rw [hml]; rfl) (argsL := [(.int (Int32.ofNat n))]) (rest := []) (lenOf pd_13 rfl) rfl (by show 2 * 0 + _ ≤ _; exact Nat.le_of_eq rfl) (hb hby d52_2_1) (fun _ _ => ⟨rfl, e0, (by decide : 0 + 0 ≤ _), (by decide : 0 + 0 ≤ _)⟩)
  dsimp only [Pt.U, Pt.locs, Pt.cells, Pt.slots] at X178 l178 y178 z178 st178 hQ178
  subst l178 y178 z178
  refine own_go st178 ?_
  obtain ⟨rfl, Nq178, e178⟩ := hQ178
  have N178 := Fr.app N0 Nq178
  obtain ⟨T179, h179, k179, X179, e179, E179, A179, Q179, st179⟩ := newPE X178 hx hZ (tw hw 24 rfl) e178 (g := (mkF m 4 #[iv (Int32.ofNat n)] [(.int (Int32.ofNat (2 * n)))])) rfl (hb hby d52_2_4) rfl (own_nn0 (by omega)) (cap := 4) (by rw [own_tn (by omega)]; omega) (by decide) (by decide) (by decide) rfl
  obtain ⟨b179, g179⟩ : ∃ z, z = h0.size := ⟨_, rfl⟩
  rw [← g179] at A179 Q179 st179
  refine own_go st179 ?_
  have V179 : Arv Z h179 b179 k179 .byte (Int32.ofNat (2 * n)) (List.replicate ((Int32.ofNat (2 * n))).toNatClampNeg (.int (0 : Int32))) (.int (0 : Int32)) := (Arv.new A179 (own_nn0 (by omega))).pad (pad_rep [] (.int (0 : Int32)) _)
  have f180 := ((Keep.refl h0 []).ext E179)
  refine own_fin (v := (some (.ref b179))) X179 (fun h => by rw [hrt] at h; cases h) hlk (fun fs hr => retR X179 hx hrt (by rfl) rfl rfl (hb hby d52_2_6) hr) (QQ := QNew Z (Int32.ofNat (2 * n)) (List.replicate (2 * n) (.int (0 : Int32))) h0 n0) ?_ (by decide) (by decide)
  rw [e179]
  exact ⟨b179, _, rfl, N178, f180, (Nat.le_of_eq g179.symm), by have q := V179; rw [own_tn (by omega)] at q; exact q, Q179⟩

abbrev k52_14 := jdk_52_method_14_code
theorem d52_14_0:Dk k52_14 0 (.iload_n 2) 1:=kk
theorem d52_14_1:Dk k52_14 1 (.invokestatic 107) 3:=kk
theorem pd_16 : parseMethodDescriptor "(I)[B" = some ⟨[.int], some (.array .byte)⟩ := by decide +kernel
theorem d52_14_4:Dk k52_14 4 (.astore_n 3) 1:=kk
theorem d52_14_5:Dk k52_14 5 (.iconst 0) 1:=kk
theorem d52_14_6:Dk k52_14 6 (.istore 4) 2:=kk
theorem d52_14_8:Dk k52_14 8 (.iload 4) 2:=kk
theorem d52_14_10:Dk k52_14 10 (.iload_n 2) 1:=kk
theorem d52_14_11:Dk k52_14 11 (.if_icmp .ge 21) 3:=kk
theorem d52_14_32:Dk k52_14 32 (.aload_n 3) 1:=kk
theorem d52_14_33:Dk k52_14 33 (.areturn) 1:=kk
theorem d52_14_14:Dk k52_14 14 (.aload_n 3) 1:=kk
theorem d52_14_15:Dk k52_14 15 (.iload 4) 2:=kk
theorem d52_14_17:Dk k52_14 17 (.aload_n 0) 1:=kk
theorem d52_14_18:Dk k52_14 18 (.iload_n 1) 1:=kk
theorem d52_14_19:Dk k52_14 19 (.caload) 1:=kk
theorem d52_14_20:Dk k52_14 20 (.invokestatic 111) 3:=kk
theorem pd_17 : parseMethodDescriptor "([BII)V" = some ⟨[(.array .byte), .int, .int], none⟩ := by decide +kernel
theorem d52_14_23:Dk k52_14 23 (.iinc 1 1) 3:=kk
theorem d52_14_26:Dk k52_14 26 (.iinc 4 1) 3:=kk
theorem d52_14_29:Dk k52_14 29 (.goto (-21)) 3:=kk
set_option maxRecDepth 65536 in
set_option maxHeartbeats 40000000 in
theorem rm_tob (l : Launch) (Z : State) (a0 : Array Value) (hw : ∀ d ∈ tables_1, d.before a0 Z = true) (ws : List Jvm.Cond) (a : Addr) (ka : ClassId) (da : Value) (cs : List Int32) (h0 : Heap) (n0 : Nat) (O0 : Old Z n0 h0) (OA : Sta Z Z.heap "java/lang/StringUTF16" "$assertionsDisabled" "Z" (.int (1 : Int32))) (OH : Sta Z Z.heap "java/lang/StringUTF16" "HI_BYTE_SHIFT" "I" (.int (0 : Int32))) (OL : Sta Z Z.heap "java/lang/StringUTF16" "LO_BYTE_SHIFT" "I" (.int (8 : Int32))) (hok : own_Ok cs) (V_a : Arv Z h0 a ka .char (Int32.ofNat cs.length) (cs.map Value.int) da) (hcap : cs.length ≤ 2) :
    own_TN l Z ws h0 (⟨"java/lang/StringUTF16", "toBytes", "([CII)[B"⟩ : MethodName) jdk_52_method_14_code 5 (some (.array .byte)) ⟨2, 1, 4, 24⟩ #[(.ref a), (.int (0 : Int32)), (.int (Int32.ofNat cs.length))] (QNew Z (Int32.ofNat (2 * cs.length)) (StrChars.Road.wideBytes cs) h0 n0) 1 4 := by
  refine own_bN "java/lang/StringUTF16" #[rv a, iv (0 : Int32), iv (Int32.ofNat cs.length), .unset, .unset] (pf pn_8 rfl) rfl O0 (fun m => own_e) ?_
  intro p e s m below meth cC s₁ hZ hh hx hby hml hown hnm hrt hlk X0 e0 N0 Z0
  have hlen : cs.length ≤ 4000 := hok.2
  refine wl X0 hx hby 0 d52_14_0 rfl ?_
  obtain ⟨v181, _, ⟨T181, L181, k181, n181⟩, -, X181, ⟨Lc181, hQ181, l181, y181, z181⟩, st181⟩ := Jvm.LawKit.callS X0 hx (y := (⟨"java/lang/StringUTF16", "newBytesFor", "(I)[B"⟩ : MethodName)) hown (mvT hZ (tw hw 247 rfl)) (mvT hZ (tw hw 178 rfl)) (mvT hZ (tw hw 179 rfl)) (mvT hZ (tw hw 180 rfl)) (by decide) (backOf (W := 0) (rm_nbf l Z a0 hw [] cs.length h0 n0 O0 (by omega)) hZ (tw hw 180 rfl) (tw hw 179 rfl) (by decide) (by decide)) (g := (mkF m 1 #[rv a, iv (0 : Int32), iv (Int32.ofNat cs.length), .unset, .unset] [(.int (Int32.ofNat cs.length))])) rfl (by rw [hml]; rfl) (argsL := [(.int (Int32.ofNat cs.length))]) (rest := []) (lenOf pd_16 rfl) rfl (by show 2 * 0 + _ ≤ _; exact Nat.le_of_eq rfl) (hb hby d52_14_1) (fun _ _ => ⟨rfl, e0, (by decide : 0 + 1 ≤ _), (by decide : 0 + 4 ≤ _)⟩)
  dsimp only [Pt.U, Pt.locs, Pt.cells, Pt.slots] at X181 l181 y181 z181 st181 hQ181
  subst l181 y181 z181
  refine own_go st181 ?_
  obtain ⟨t181, kt181, rfl, Nq181, K181, tg181, Vt181, Xt181⟩ := hQ181
  have N181 := Fr.app N0 Nq181
  refine wv X181 hx hby 4 #[rv a, iv (0 : Int32), iv (Int32.ofNat cs.length), rv t181, .unset] d52_14_4 rfl rfl ?_
  refine wc X181 hx hby 5 d52_14_5 ?_
  try dsimp only [mkF]
  refine wz X181 hx hby 6 #[rv a, iv (0 : Int32), iv (Int32.ofNat cs.length), rv t181, iv (0 : Int32)] d52_14_6 rfl ?_
  have ne182 : a ≠ t181 := Nat.ne_of_lt (Nat.lt_of_lt_of_le V_a.lt tg181)
  have loop : ∀ (kT iloop : Nat) (T : State) (locs : List Loc) (h : Heap), iloop + kT = cs.length → Stand p l e ⟨2, 1, 4, 24⟩ s m #[(.ref a), (.int (0 : Int32)), (.int (Int32.ofNat cs.length))] below meth cC T locs 1 4 → T.heap = h → Fr n0 locs → Old Z n0 h → Keep h0 h [] → Arv Z h a ka .char (Int32.ofNat cs.length) (cs.map Value.int) da → Arv Z h t181 kt181 .byte (Int32.ofNat (2 * cs.length)) (own_wpart cs iloop) (.int (0 : Int32)) → Exa Z h t181 "[B" → own_Go p e below (T.setTop (mkF m 8 #[rv a, iv (Int32.ofNat iloop), iv (Int32.ofNat cs.length), rv t181, iv (Int32.ofNat iloop)] [])) (fun oO U' => ∃ rV rL, oO = .returned rV ∧ QNew Z (Int32.ofNat (2 * cs.length)) (StrChars.Road.wideBytes cs) h0 n0 rV U'.heap rL ∧ FrameEnd s oO U' rL 1 4) := by
    intro kT
    induction kT with
    | zero =>
      intro iloop T183 L183 h183 hik X183 e183 N183 O183 K183 J0_183 J1_183 J2_183
      have Z0_183 : n0 ≤ h183.size := O183.1 ▸ O183.2.1
      have hin : iloop = cs.length := by omega
      have hlt : ¬ ((Int32.ofNat iloop) < (Int32.ofNat cs.length)) := by rw [own_lti (by omega) (by omega)]; omega
      refine wm X183 hx hby 8 d52_14_8 rfl ?_
      refine wl X183 hx hby 10 d52_14_10 rfl ?_
      refine wy X183 hx hby 11 32 d52_14_11 (flt hlt).2.1 ?_
      try dsimp only [mkF]
      refine wa X183 hx hby 32 d52_14_32 rfl rfl ?_
      refine own_fin (v := (some (.ref t181))) X183 (fun h => by rw [hrt] at h; cases h) hlk (fun fs hr => retR X183 hx hrt (by rfl) rfl rfl (hb hby d52_14_33) hr) (QQ := QNew Z (Int32.ofNat (2 * cs.length)) (StrChars.Road.wideBytes cs) h0 n0) ?_ (by decide) (by decide)
      rw [e183]
      exact ⟨t181, _, rfl, N183, K183, tg181, by have q := J1_183; rw [hin, own_wpartn] at q; exact q, J2_183⟩
    | succ kT ih =>
      intro iloop T184 L184 h184 hik X184 e184 N184 O184 K184 J0_184 J1_184 J2_184
      have Z0_184 : n0 ≤ h184.size := O184.1 ▸ O184.2.1
      have hi : iloop < cs.length := by omega
      have hlt : (Int32.ofNat iloop) < (Int32.ofNat cs.length) := (own_lti (by omega) (by omega)).mpr hi
      refine wm X184 hx hby 8 d52_14_8 rfl ?_
      refine wl X184 hx hby 10 d52_14_10 rfl ?_
      refine wn X184 hx hby 11 d52_14_11 (tlt hlt).2.1 ?_
      try dsimp only [mkF]
      refine wa X184 hx hby 14 d52_14_14 rfl rfl ?_
      refine wm X184 hx hby 15 d52_14_15 rfl ?_
      refine wa X184 hx hby 17 d52_14_17 rfl rfl ?_
      refine wl X184 hx hby 18 d52_14_18 rfl ?_
      obtain ⟨c185, A185, q185, S185, M185, Hs185, Gs185⟩ := id J0_184
      have hi185 := inb_of (j := (Int32.ofNat iloop)) S185 (own_inb hi (by omega))
      refine og (fun _ k => X184.caload hx (j := (Int32.ofNat iloop)) (v := (.int (cs.getD iloop 0))) (by rw [e184]; exact A185.1) (State.isArrayOf_alike hZ.alike A185.2.1) A185.2.2 hi185 (Has.at Hs185 hi185 (own_gd rfl hi (by omega))) (g := (mkF m 19 #[rv a, iv (Int32.ofNat iloop), iv (Int32.ofNat cs.length), rv t181, iv (Int32.ofNat iloop)] [(.int (Int32.ofNat iloop)), (.ref a), (.int (Int32.ofNat iloop)), (.ref t181)])) rfl rfl (hb hby d52_14_19) _ k) ?_
      try dsimp only [mkF]
      obtain ⟨v186, _, ⟨T186, L186, k186, n186⟩, -, X186, ⟨Lc186, hQ186, l186, y186, z186⟩, st186⟩ := Jvm.LawKit.callS X184 hx (y := (⟨"java/lang/StringUTF16", "putChar", "([BII)V"⟩ : MethodName)) hown (mvT hZ (tw hw 248 rfl)) (mvT hZ (tw hw 249 rfl)) (mvT hZ (tw hw 179 rfl)) (mvT hZ (tw hw 250 rfl)) (by decide) (backOf (W := 0) (rm_put l Z a0 hw [] t181 kt181 (2 * cs.length) (own_wpart cs iloop) iloop (cs.getD iloop 0) h184 n0 O184 OA OH OL J1_184 (Nat.le_trans Z0 tg181) (own_wpartl (by omega)) (by omega) (by omega)) hZ (tw hw 250 rfl) (tw hw 179 rfl) (by decide) (by decide)) (g := (mkF m 20 #[rv a, iv (Int32.ofNat iloop), iv (Int32.ofNat cs.length), rv t181, iv (Int32.ofNat iloop)] [(.int (cs.getD iloop 0)), (.int (Int32.ofNat iloop)), (.ref t181)])) rfl (by rw [hml]; rfl) (argsL := [(.ref t181), (.int (Int32.ofNat iloop)), (.int (cs.getD iloop 0))]) (rest := []) (lenOf pd_17 rfl) rfl (by show 2 * 0 + _ ≤ _; exact Nat.le_of_eq rfl) (hb hby d52_14_20) (fun _ _ => ⟨rfl, e184, (by decide : 1 + 0 ≤ _), (by decide : 4 + 0 ≤ _)⟩)
      dsimp only [Pt.U, Pt.locs, Pt.cells, Pt.slots] at X186 l186 y186 z186 st186 hQ186
      subst l186 y186 z186
      refine own_go st186 ?_
      obtain ⟨rfl, Nq186, K186, Vb186⟩ := hQ186
      have N186 := Fr.app N184 Nq186
      refine wi X186 hx hby 23 #[rv a, iv ((Int32.ofNat iloop) + (1 : Int32)), iv (Int32.ofNat cs.length), rv t181, iv (Int32.ofNat iloop)] d52_14_23 rfl rfl ?_
      refine wi X186 hx hby 26 #[rv a, iv ((Int32.ofNat iloop) + (1 : Int32)), iv (Int32.ofNat cs.length), rv t181, iv ((Int32.ofNat iloop) + (1 : Int32))] d52_14_26 rfl rfl ?_
      refine wg X186 hx hby 29 8 d52_14_29 ?_
      show own_Go p e below (T186.setTop (mkF m 8 #[rv a, iv ((Int32.ofNat iloop) + (1 : Int32)), iv (Int32.ofNat cs.length), rv t181, iv ((Int32.ofNat iloop) + (1 : Int32))] [])) _
      rw [own_inc]
      have f187 := (J0_184.keep K186 (ninS ne182 nin0))
      have f188 := (O184.keep K186 (allS (Nat.le_trans Z0 tg181) all0))
      have f189 := (K184.trans K186 (allS (Or.inr tg181) all0))
      exact ih (iloop + 1) T186 _ T186.heap (by omega) X186 (rfl : T186.heap = T186.heap) N186 f188 f189 f187 (own_set2 hi ▸ Vb186) (J2_184.keep K186) 
  have f190 := ((Keep.refl h0 []).trans K181 all0)
  exact loop (cs.length) 0 T181 _ T181.heap (by omega) X181 (rfl : T181.heap = T181.heap) N181 (O0.keep K181 all0) f190 (V_a.keep K181 nin0) (own_wpart0 cs ▸ Vt181) Xt181 

theorem own_ne_n {r n : Nat} (h : r < n) (hn : n ≤ 4000) : ¬ Int32.ofNat r = Int32.ofNat n := fun q => by
  have e := congrArg Int32.toInt q
  rw [own_ti (by omega), own_ti (by omega)] at e
  omega
theorem own_ne_0 {n : Nat} (h : 0 < n) (hn : n ≤ 4000) : ¬ Int32.ofNat n = (0 : Int32) := fun q => own_ne_n h hn q.symm
theorem own_ncd {cs : List Int32} {cd N2 : Int32} {vs : List Value} (h : StrChars.Road.CodA cs cd N2 vs) : nar .byte cd = cd := by
  rcases own_cd01 h with rfl | rfl <;> decide
abbrev k52_16 := jdk_52_method_16_code
theorem d52_16_0:Dk k52_16 0 (.iload_n 2) 1:=kk
theorem d52_16_1:Dk k52_16 1 (.newarray .byte) 2:=kk
theorem d52_16_3:Dk k52_16 3 (.astore_n 3) 1:=kk
theorem d52_16_4:Dk k52_16 4 (.aload_n 0) 1:=kk
theorem d52_16_5:Dk k52_16 5 (.iload_n 1) 1:=kk
theorem d52_16_6:Dk k52_16 6 (.aload_n 3) 1:=kk
theorem d52_16_7:Dk k52_16 7 (.iconst 0) 1:=kk
theorem d52_16_8:Dk k52_16 8 (.iload_n 2) 1:=kk
theorem d52_16_9:Dk k52_16 9 (.invokestatic 115) 3:=kk
theorem pd_18 : parseMethodDescriptor "([CI[BII)I" = some ⟨[(.array .char), .int, (.array .byte), .int, .int], some .int⟩ := by decide +kernel
theorem d52_16_12:Dk k52_16 12 (.istore 4) 2:=kk
theorem d52_16_14:Dk k52_16 14 (.iload 4) 2:=kk
theorem d52_16_16:Dk k52_16 16 (.iload_n 2) 1:=kk
theorem d52_16_17:Dk k52_16 17 (.if_icmp .eq 40) 3:=kk
theorem d52_16_57:Dk k52_16 57 (.aload_n 3) 1:=kk
theorem d52_16_58:Dk k52_16 58 (.areturn) 1:=kk
theorem d52_16_20:Dk k52_16 20 (.aload_n 0) 1:=kk
theorem d52_16_21:Dk k52_16 21 (.iload_n 1) 1:=kk
theorem d52_16_22:Dk k52_16 22 (.iload_n 2) 1:=kk
theorem d52_16_23:Dk k52_16 23 (.invokestatic 119) 3:=kk
theorem pd_19 : parseMethodDescriptor "([CII)[B" = some ⟨[(.array .char), .int, .int], some (.array .byte)⟩ := by decide +kernel
theorem d52_16_26:Dk k52_16 26 (.astore 5) 2:=kk
theorem d52_16_28:Dk k52_16 28 (.aload 5) 2:=kk
theorem d52_16_30:Dk k52_16 30 (.iload 4) 2:=kk
theorem d52_16_32:Dk k52_16 32 (.invokestatic 71) 3:=kk
theorem d52_16_35:Dk k52_16 35 (.sipush 255) 3:=kk
theorem d52_16_38:Dk k52_16 38 (.if_icmp .gt 16) 3:=kk
theorem d52_16_54:Dk k52_16 54 (.aload 5) 2:=kk
theorem d52_16_56:Dk k52_16 56 (.areturn) 1:=kk
set_option maxRecDepth 65536 in
set_option maxHeartbeats 40000000 in
theorem rm_cmp3 (l : Launch) (Z : State) (a0 : Array Value) (hw : ∀ d ∈ tables_1, d.before a0 Z = true) (ws : List Jvm.Cond) (a : Addr) (ka : ClassId) (da : Value) (cs : List Int32) (h0 : Heap) (n0 : Nat) (O0 : Old Z n0 h0) (OA : Sta Z Z.heap "java/lang/StringUTF16" "$assertionsDisabled" "Z" (.int (1 : Int32))) (OH : Sta Z Z.heap "java/lang/StringUTF16" "HI_BYTE_SHIFT" "I" (.int (0 : Int32))) (OL : Sta Z Z.heap "java/lang/StringUTF16" "LO_BYTE_SHIFT" "I" (.int (8 : Int32))) (hok : own_Ok cs) (V_a : Arv Z h0 a ka .char (Int32.ofNat cs.length) (cs.map Value.int) da) (hcap : cs.length ≤ 2) :
    own_TN l Z ws h0 (⟨"java/lang/StringUTF16", "compress", "([CII)[B"⟩ : MethodName) jdk_52_method_16_code 6 (some (.array .byte)) ⟨3, 2, 6, 40⟩ #[(.ref a), (.int (0 : Int32)), (.int (Int32.ofNat cs.length))] (QCmp Z cs h0 n0) 2 6 := by
  refine own_bN "java/lang/StringUTF16" #[rv a, iv (0 : Int32), iv (Int32.ofNat cs.length), .unset, .unset, .unset] (pf pn_8 rfl) rfl O0 (fun m => own_e) ?_
  intro p e s m below meth cC s₁ hZ hh hx hby hml hown hnm hrt hlk X0 e0 N0 Z0
  have hlen : cs.length ≤ 4000 := hok.2
  refine wl X0 hx hby 0 d52_16_0 rfl ?_
  obtain ⟨T191, h191, k191, X191, e191, E191, A191, Q191, st191⟩ := newPE X0 hx hZ (tw hw 24 rfl) e0 (g := (mkF m 1 #[rv a, iv (0 : Int32), iv (Int32.ofNat cs.length), .unset, .unset, .unset] [(.int (Int32.ofNat cs.length))])) rfl (hb hby d52_16_1) rfl (own_nn0 (by omega)) (cap := 2) (by rw [own_tn (by omega)]; exact hcap) (by decide) (by decide) (by decide) rfl
  obtain ⟨b191, g191⟩ : ∃ z, z = h0.size := ⟨_, rfl⟩
  rw [← g191] at A191 Q191 st191
  refine own_go st191 ?_
  have V191 : Arv Z h191 b191 k191 .byte (Int32.ofNat cs.length) (List.replicate ((Int32.ofNat cs.length)).toNatClampNeg (.int (0 : Int32))) (.int (0 : Int32)) := (Arv.new A191 (own_nn0 (by omega))).pad (pad_rep [] (.int (0 : Int32)) _)
  have Vb0 : Arv Z h191 b191 k191 .byte (Int32.ofNat cs.length) (List.replicate cs.length (.int (0 : Int32))) (.int (0 : Int32)) := by have q := V191; rw [own_tn (by omega)] at q; exact q
  refine wv X191 hx hby 3 #[rv a, iv (0 : Int32), iv (Int32.ofNat cs.length), rv b191, .unset, .unset] d52_16_3 rfl rfl ?_
  refine wa X191 hx hby 4 d52_16_4 rfl rfl ?_
  try dsimp only [mkF]
  refine wl X191 hx hby 5 d52_16_5 rfl ?_
  refine wa X191 hx hby 6 d52_16_6 rfl rfl ?_
  refine wc X191 hx hby 7 d52_16_7 ?_
  refine wl X191 hx hby 8 d52_16_8 rfl ?_
  have ne192 : a ≠ b191 := Nat.ne_of_lt (Nat.lt_of_lt_of_le V_a.lt (Nat.le_of_eq g191.symm))
  obtain ⟨v193, _, ⟨T193, L193, k193, n193⟩, -, X193, ⟨Lc193, hQ193, l193, y193, z193⟩, st193⟩ := Jvm.LawKit.callS X191 hx (y := (⟨"java/lang/StringUTF16", "compress", "([CI[BII)I"⟩ : MethodName)) hown (mvT hZ (tw hw 241 rfl)) (mvT hZ (tw hw 242 rfl)) (mvT hZ (tw hw 179 rfl)) (mvT hZ (tw hw 243 rfl)) (by decide) (backOf (W := 0) (rm_cmp5 l Z a0 hw [] a ka da cs b191 k191 h191 n0 (O0.ext E191) hok (V_a.ext E191) Vb0 (Nat.le_trans Z0 (Nat.le_of_eq g191.symm)) ne192) hZ (tw hw 243 rfl) (tw hw 179 rfl) (by decide) (by decide)) (g := (mkF m 9 #[rv a, iv (0 : Int32), iv (Int32.ofNat cs.length), rv b191, .unset, .unset] [(.int (Int32.ofNat cs.length)), (.int (0 : Int32)), (.ref b191), (.int (0 : Int32)), (.ref a)])) rfl (by rw [hml]; rfl) (argsL := [(.ref a), (.int (0 : Int32)), (.ref b191), (.int (0 : Int32)), (.int (Int32.ofNat cs.length))]) (rest := []) (lenOf pd_18 rfl) rfl (by show 2 * 0 + _ ≤ _; exact Nat.le_of_eq rfl) (hb hby d52_16_9) (fun _ _ => ⟨rfl, e191, (by decide : 1 + 0 ≤ _), (by decide : 2 + 0 ≤ _)⟩)
  dsimp only [Pt.U, Pt.locs, Pt.cells, Pt.slots] at X193 l193 y193 z193 st193 hQ193
  subst l193 y193 z193
  refine own_go st193 ?_
  obtain ⟨r193, rfl, Nq193, K193, hr193⟩ := hQ193
  have N193 := Fr.app N0 Nq193
  try dsimp only [mkF]
  refine wz X193 hx hby 12 #[rv a, iv (0 : Int32), iv (Int32.ofNat cs.length), rv b191, iv (Int32.ofNat r193), .unset] d52_16_12 rfl ?_
  rcases hr193 with ⟨hr1, hall, Vl⟩ | ⟨hr1, hbig⟩
  · subst hr1
    refine wm X193 hx hby 14 d52_16_14 rfl ?_
    refine wl X193 hx hby 16 d52_16_16 rfl ?_
    refine wy X193 hx hby 17 57 d52_16_17 (teq (rfl : (Int32.ofNat cs.length) = (Int32.ofNat cs.length))).1 ?_
    try dsimp only [mkF]
    refine wa X193 hx hby 57 d52_16_57 rfl rfl ?_
    have f194 := (((Keep.refl h0 []).ext E191).trans K193 (allS (Or.inr (Nat.le_of_eq g191.symm)) all0))
    refine own_fin (v := (some (.ref b191))) X193 (fun h => by rw [hrt] at h; cases h) hlk (fun fs hr => retR X193 hx hrt (by rfl) rfl rfl (hb hby d52_16_58) hr) (QQ := QCmp Z cs h0 n0) ?_ (by decide) (by decide)
    exact ⟨b191, _, 0, _, _, rfl, N193, f194, (Nat.le_of_eq g191.symm), Vl, Or.inl ⟨rfl, rfl, rfl, hall⟩, (Q191.keep K193)⟩
  · skip
    refine wm X193 hx hby 14 d52_16_14 rfl ?_
    refine wl X193 hx hby 16 d52_16_16 rfl ?_
    refine wn X193 hx hby 17 d52_16_17 (feq (own_ne_n hr1 hlen)).1 ?_
    try dsimp only [mkF]
    refine wa X193 hx hby 20 d52_16_20 rfl rfl ?_
    refine wl X193 hx hby 21 d52_16_21 rfl ?_
    refine wl X193 hx hby 22 d52_16_22 rfl ?_
    have f195 := ((V_a.ext E191).keep K193 (ninS ne192 nin0))
    have f196 := ((O0.ext E191).keep K193 (allS (Nat.le_trans Z0 (Nat.le_of_eq g191.symm)) all0))
    obtain ⟨v197, _, ⟨T197, L197, k197, n197⟩, -, X197, ⟨Lc197, hQ197, l197, y197, z197⟩, st197⟩ := Jvm.LawKit.callS X193 hx (y := (⟨"java/lang/StringUTF16", "toBytes", "([CII)[B"⟩ : MethodName)) hown (mvT hZ (tw hw 244 rfl)) (mvT hZ (tw hw 245 rfl)) (mvT hZ (tw hw 179 rfl)) (mvT hZ (tw hw 246 rfl)) (by decide) (backOf (W := 0) (rm_tob l Z a0 hw [] a ka da cs T193.heap n0 f196 OA OH OL hok f195 hcap) hZ (tw hw 246 rfl) (tw hw 179 rfl) (by decide) (by decide)) (g := (mkF m 23 #[rv a, iv (0 : Int32), iv (Int32.ofNat cs.length), rv b191, iv (Int32.ofNat r193), .unset] [(.int (Int32.ofNat cs.length)), (.int (0 : Int32)), (.ref a)])) rfl (by rw [hml]; rfl) (argsL := [(.ref a), (.int (0 : Int32)), (.int (Int32.ofNat cs.length))]) (rest := []) (lenOf pd_19 rfl) rfl (by show 2 * 0 + _ ≤ _; exact Nat.le_of_eq rfl) (hb hby d52_16_23) (fun _ _ => ⟨rfl, (rfl : T193.heap = T193.heap), (by decide : 1 + 1 ≤ _), (by decide : 2 + 4 ≤ _)⟩)
    dsimp only [Pt.U, Pt.locs, Pt.cells, Pt.slots] at X197 l197 y197 z197 st197 hQ197
    subst l197 y197 z197
    refine own_go st197 ?_
    obtain ⟨t197, kt197, rfl, Nq197, K197, tg197, Vt197, Xt197⟩ := hQ197
    have N197 := Fr.app N193 Nq197
    refine wu X197 hx hby 26 #[rv a, iv (0 : Int32), iv (Int32.ofNat cs.length), rv b191, iv (Int32.ofNat r193), rv t197] d52_16_26 rfl rfl ?_
    try dsimp only [mkF]
    refine wb X197 hx hby 28 d52_16_28 rfl rfl ?_
    refine wm X197 hx hby 30 d52_16_30 rfl ?_
    obtain ⟨v198, _, ⟨T198, L198, k198, n198⟩, -, X198, ⟨Lc198, hQ198, l198, y198, z198⟩, st198⟩ := Jvm.LawKit.callS X197 hx (y := (⟨"java/lang/StringUTF16", "getChar", "([BI)C"⟩ : MethodName)) hown (mvT hZ (tw hw 254 rfl)) (mvT hZ (tw hw 255 rfl)) (mvT hZ (tw hw 179 rfl)) (mvT hZ (tw hw 256 rfl)) (by decide) (backOf (W := 0) (rm_get l Z a0 hw [] t197 kt197 (2 * cs.length) (StrChars.Road.wideBytes cs) r193 (cs.getD r193 0) T197.heap n0 (f196.keep K197 all0) OA OH OL Vt197 (StrChars.Road.wide_lo _ cs _ hr1) (StrChars.Road.wide_hi _ cs _ hr1) (by omega) (by omega) (hok.at hr1)) hZ (tw hw 256 rfl) (tw hw 179 rfl) (by decide) (by decide)) (g := (mkF m 32 #[rv a, iv (0 : Int32), iv (Int32.ofNat cs.length), rv b191, iv (Int32.ofNat r193), rv t197] [(.int (Int32.ofNat r193)), (.ref t197)])) rfl (by rw [hml]; rfl) (argsL := [(.ref t197), (.int (Int32.ofNat r193))]) (rest := []) (lenOf pd_5 rfl) rfl (by show 2 * 0 + _ ≤ _; exact Nat.le_of_eq rfl) (hb hby d52_16_32) (fun _ _ => ⟨rfl, (rfl : T197.heap = T197.heap), (by decide : 2 + 0 ≤ _), (by decide : 6 + 0 ≤ _)⟩)
    dsimp only [Pt.U, Pt.locs, Pt.cells, Pt.slots] at X198 l198 y198 z198 st198 hQ198
    subst l198 y198 z198
    refine own_go st198 ?_
    obtain ⟨rfl, Nq198, e198⟩ := hQ198
    have N198 := Fr.app N197 Nq198
    refine og (fun _ k => XS.sipush X198.here hx rfl (hb hby d52_16_35) k) ?_
    refine wy X198 hx hby 38 54 d52_16_38 (tlt hbig).2.2.1 ?_
    try dsimp only [mkF]
    refine wb X198 hx hby 54 d52_16_54 rfl rfl ?_
    have f199 := ((((Keep.refl h0 []).ext E191).trans K193 (allS (Or.inr (Nat.le_of_eq g191.symm)) all0)).trans K197 all0)
    refine own_fin (v := (some (.ref t197))) X198 (fun h => by rw [hrt] at h; cases h) hlk (fun fs hr => retR X198 hx hrt (by rfl) rfl rfl (hb hby d52_16_56) hr) (QQ := QCmp Z cs h0 n0) ?_ (by decide) (by decide)
    rw [e198]
    exact ⟨t197, _, 1, _, _, rfl, N198, f199, (Nat.le_trans (Nat.le_trans E191.1 K193.1) tg197), Vt197, Or.inr ⟨rfl, rfl, rfl, _, own_getm hr1, hbig⟩, Xt197⟩

abbrev k52_15 := jdk_52_method_15_code
theorem d52_15_0:Dk k52_15 0 (.iload_n 1) 1:=kk
theorem d52_15_1:Dk k52_15 1 (.aload_n 0) 1:=kk
theorem d52_15_2:Dk k52_15 2 (.arraylength) 1:=kk
theorem d52_15_3:Dk k52_15 3 (.isub) 1:=kk
theorem d52_15_4:Dk k52_15 4 (.bipush 31) 2:=kk
theorem d52_15_6:Dk k52_15 6 (.iushr) 1:=kk
theorem d52_15_7:Dk k52_15 7 (.i2b) 1:=kk
theorem d52_15_8:Dk k52_15 8 (.ireturn) 1:=kk
set_option maxRecDepth 65536 in
set_option maxHeartbeats 40000000 in
theorem rm_cfa (l : Launch) (Z : State) (a0 : Array Value) (hw : ∀ d ∈ tables_1, d.before a0 Z = true) (ws : List Jvm.Cond) (t : Addr) (k : ClassId) (N2 : Int32) (vs : List Value) (cs : List Int32) (cd : Int32) (h0 : Heap) (n0 : Nat) (O0 : Old Z n0 h0) (V_t : Arv Z h0 t k .byte N2 vs (.int (0 : Int32))) (hC : StrChars.Road.CodA cs cd N2 vs) (h1 : 0 < cs.length) (h2 : cs.length ≤ 4000) :
    own_TN l Z ws h0 (⟨"java/lang/StringUTF16", "coderFromArrayLen", "([BI)B"⟩ : MethodName) jdk_52_method_15_code 2 (some .byte) ⟨0, 0, 0, 0⟩ #[(.ref t), (.int (Int32.ofNat cs.length))] (QPure (some (.int cd)) h0 n0) 0 0 := by
  refine own_bN "java/lang/StringUTF16" #[rv t, iv (Int32.ofNat cs.length)] (pf pn_8 rfl) rfl O0 (fun m => own_e) ?_
  intro p e s m below meth cC s₁ hZ hh hx hby hml hown hnm hrt hlk X0 e0 N0 Z0
  refine wl X0 hx hby 0 d52_15_0 rfl ?_
  refine wa X0 hx hby 1 d52_15_1 rfl rfl ?_
  obtain ⟨c200, A200, q200, S200, M200, Hs200, Gs200⟩ := id V_t
  refine og (fun _ k => X0.arraylength hx (by rw [e0]; exact A200.1) (State.isArrayOf_alike hZ.alike A200.2.1) (g := (mkF m 2 #[rv t, iv (Int32.ofNat cs.length)] [(.ref t), (.int (Int32.ofNat cs.length))])) rfl rfl (hb hby d52_15_2) _ k) ?_
  rw [len_of S200 M200]
  refine og (fun _ k => XS.isub X0.here hx rfl (hb hby d52_15_3) rfl k) ?_
  try dsimp only [mkF]
  refine wp X0 hx hby 4 d52_15_4 ?_
  refine og (fun _ k => XS.iushr X0.here hx rfl (hb hby d52_15_6) rfl k) ?_
  refine og (fun _ k => XS.i2b X0.here hx rfl (hb hby d52_15_7) rfl k) ?_
  refine own_fin (v := (some (.int (nar .byte (((((Int32.ofNat cs.length) - N2).toUInt32 >>> ((31 : Int32) &&& 31).toUInt32).toInt32).toInt8.toInt32))))) X0 (fun h => by rw [hrt] at h; cases h) hlk (fun fs hr => retN X0 hx (t := .byte) hrt (by simp) (hb hby d52_15_8) hr) (QQ := QPure (some (.int cd)) h0 n0) ?_ (by decide) (by decide)
  rw [e0]
  exact ⟨congrArg (fun z => some (Value.int z)) ((own_nb _).trans (own_cod hC h1 h2)), N0, rfl⟩

theorem d42_149_27:Dk k42_149 27 (.getstatic 38) 3:=kk
theorem d42_149_30:Dk k42_149 30 (.ifCond .eq 28) 3:=kk
theorem d42_149_33:Dk k42_149 33 (.aload_n 1) 1:=kk
theorem d42_149_34:Dk k42_149 34 (.iload_n 2) 1:=kk
theorem d42_149_35:Dk k42_149 35 (.iload_n 3) 1:=kk
theorem d42_149_36:Dk k42_149 36 (.invokestatic 177) 3:=kk
theorem d42_149_39:Dk k42_149 39 (.astore 5) 2:=kk
theorem d42_149_41:Dk k42_149 41 (.aload_n 0) 1:=kk
theorem d42_149_42:Dk k42_149 42 (.aload 5) 2:=kk
theorem d42_149_44:Dk k42_149 44 (.iload_n 3) 1:=kk
theorem d42_149_45:Dk k42_149 45 (.invokestatic 47) 3:=kk
theorem pd_20 : parseMethodDescriptor "([BI)B" = some ⟨[(.array .byte), .int], some .byte⟩ := by decide +kernel
theorem d42_149_48:Dk k42_149 48 (.putfield 15) 3:=kk
theorem d42_149_51:Dk k42_149 51 (.aload_n 0) 1:=kk
theorem d42_149_52:Dk k42_149 52 (.aload 5) 2:=kk
theorem d42_149_54:Dk k42_149 54 (.putfield 9) 3:=kk
theorem d42_149_57:Dk k42_149 57 (.return_) 1:=kk
set_option maxRecDepth 65536 in
set_option maxHeartbeats 40000000 in
theorem rm_i4 (l : Launch) (Z : State) (a0 : Array Value) (hw : ∀ d ∈ tables_1, d.before a0 Z = true) (ws : List Jvm.Cond) (x a : Addr) (ka : ClassId) (da : Value) (cs : List Int32) (G1 : Int32) (h0 : Heap) (n0 : Nat) (O0 : Old Z n0 h0) (E_x : Exa Z h0 x "java/lang/String") (F_v : Fld Z h0 x "java/lang/String" "value" "[B" .null) (F_c : Fld Z h0 x "java/lang/String" "coder" "B" (.int (0 : Int32))) (g_x : n0 ≤ x) (OA : Sta Z Z.heap "java/lang/StringUTF16" "$assertionsDisabled" "Z" (.int (1 : Int32))) (OH : Sta Z Z.heap "java/lang/StringUTF16" "HI_BYTE_SHIFT" "I" (.int (0 : Int32))) (OL : Sta Z Z.heap "java/lang/StringUTF16" "LO_BYTE_SHIFT" "I" (.int (8 : Int32))) (O2 : Sta Z Z.heap "java/lang/String" "COMPACT_STRINGS" "Z" (.int G1)) (P5 : ¬ (G1 = (0 : Int32))) (hok : own_Ok cs) (V_a : Arv Z h0 a ka .char (Int32.ofNat cs.length) (cs.map Value.int) da) (hcap : cs.length ≤ 2) (h1 : 0 < cs.length) :
    own_TN l Z ws h0 (⟨"java/lang/String", "<init>", "([CIILjava/lang/Void;)V"⟩ : MethodName) jdk_42_method_149_code 6 none ⟨4, 2, 6, 57⟩ #[(.ref x), (.ref a), (.int (0 : Int32)), (.int (Int32.ofNat cs.length)), .null] (QSt Z x cs h0 n0) 2 6 := by
  refine own_bN "java/lang/String" #[rv x, rv a, iv (0 : Int32), iv (Int32.ofNat cs.length), .val .null, .unset] (pf pn_3 rfl) rfl O0 (fun m => own_e) ?_
  intro p e s m below meth cC s₁ hZ hh hx hby hml hown hnm hrt hlk X0 e0 N0 Z0
  have hlen : cs.length ≤ 4000 := hok.2
  have hxa := Exa.neArv E_x V_a (tw hw 10 rfl)
  refine wa X0 hx hby 0 d42_149_0 rfl rfl ?_
  obtain ⟨T201, X201, e201, st201⟩ := initO X0 hx hZ hown (tw hw 20 rfl) (tw hw 21 rfl) (tw hw 22 rfl) e0 (g := (mkF m 1 #[rv x, rv a, iv (0 : Int32), iv (Int32.ofNat cs.length), .val .null, .unset] [(.ref x)])) rfl (by rw [hml]; rfl) rfl (hb hby d42_149_1) (by decide) (W := 0) (by show 2 * 0 + _ ≤ _; exact Nat.le_of_eq rfl) (by decide)
  refine own_go st201 ?_
  refine wl X201 hx hby 4 d42_149_4 rfl ?_
  refine wf X201 hx hby 5 27 d42_149_5 ((if0 _ _).trans (feq (own_ne_0 h1 hlen)).2) ?_
  try dsimp only [mkF]
  obtain ⟨T202, X202, e202, st202⟩ := getS2 X201 hx hZ hown (host := "") (Or.inl (tw hw 115 rfl)) Via.refl e201 (O2.ext O0.2) (g := (mkF m 27 #[rv x, rv a, iv (0 : Int32), iv (Int32.ofNat cs.length), .val .null, .unset] [])) rfl (hb hby d42_149_27)
  refine own_go st202 ?_
  refine we X202 hx hby 30 d42_149_30 ((if0 _ _).trans (feq P5).1) ?_
  refine wa X202 hx hby 33 d42_149_33 rfl rfl ?_
  refine wl X202 hx hby 34 d42_149_34 rfl ?_
  refine wl X202 hx hby 35 d42_149_35 rfl ?_
  try dsimp only [mkF]
  obtain ⟨v203, _, ⟨T203, L203, k203, n203⟩, -, X203, ⟨Lc203, hQ203, l203, y203, z203⟩, st203⟩ := Jvm.LawKit.callS X202 hx (y := (⟨"java/lang/StringUTF16", "compress", "([CII)[B"⟩ : MethodName)) hown (mvT hZ (tw hw 238 rfl)) (mvT hZ (tw hw 239 rfl)) (mvT hZ (tw hw 179 rfl)) (mvT hZ (tw hw 240 rfl)) (by decide) (backOf (W := 0) (rm_cmp3 l Z a0 hw [] a ka da cs h0 n0 O0 OA OH OL hok V_a hcap) hZ (tw hw 240 rfl) (tw hw 179 rfl) (by decide) (by decide)) (g := (mkF m 36 #[rv x, rv a, iv (0 : Int32), iv (Int32.ofNat cs.length), .val .null, .unset] [(.int (Int32.ofNat cs.length)), (.int (0 : Int32)), (.ref a)])) rfl (by rw [hml]; rfl) (argsL := [(.ref a), (.int (0 : Int32)), (.int (Int32.ofNat cs.length))]) (rest := []) (lenOf pd_19 rfl) rfl (by show 2 * 0 + _ ≤ _; exact Nat.le_of_eq rfl) (hb hby d42_149_36) (fun _ _ => ⟨rfl, e202, (by decide : 0 + 2 ≤ _), (by decide : 0 + 6 ≤ _)⟩)
  dsimp only [Pt.U, Pt.locs, Pt.cells, Pt.slots] at X203 l203 y203 z203 st203 hQ203
  subst l203 y203 z203
  refine own_go st203 ?_
  obtain ⟨t203, kt203, cd203, N2203, vs203, rfl, Nq203, K203, tg203, Vt203, hC203, Xt203⟩ := hQ203
  have N203 := Fr.app N0 Nq203
  refine wu X203 hx hby 39 #[rv x, rv a, iv (0 : Int32), iv (Int32.ofNat cs.length), .val .null, rv t203] d42_149_39 rfl rfl ?_
  refine wa X203 hx hby 41 d42_149_41 rfl rfl ?_
  refine wb X203 hx hby 42 d42_149_42 rfl rfl ?_
  refine wl X203 hx hby 44 d42_149_44 rfl ?_
  try dsimp only [mkF]
  obtain ⟨v204, _, ⟨T204, L204, k204, n204⟩, -, X204, ⟨Lc204, hQ204, l204, y204, z204⟩, st204⟩ := Jvm.LawKit.callS X203 hx (y := (⟨"java/lang/StringUTF16", "coderFromArrayLen", "([BI)B"⟩ : MethodName)) hown (mvT hZ (tw hw 257 rfl)) (mvT hZ (tw hw 258 rfl)) (mvT hZ (tw hw 179 rfl)) (mvT hZ (tw hw 259 rfl)) (by decide) (backOf (W := 1) (rm_cfa l Z a0 hw [] t203 kt203 N2203 vs203 cs cd203 T203.heap n0 (O0.keep K203 all0) Vt203 hC203 h1 hlen) hZ (tw hw 259 rfl) (tw hw 179 rfl) (by decide) (by decide)) (g := (mkF m 45 #[rv x, rv a, iv (0 : Int32), iv (Int32.ofNat cs.length), .val .null, rv t203] [(.int (Int32.ofNat cs.length)), (.ref t203), (.ref x)])) rfl (by rw [hml]; rfl) (argsL := [(.ref t203), (.int (Int32.ofNat cs.length))]) (rest := [(.ref x)]) (lenOf pd_20 rfl) rfl (by show 2 * 0 + _ ≤ _; exact Nat.le_of_eq rfl) (hb hby d42_149_45) (fun _ _ => ⟨rfl, (rfl : T203.heap = T203.heap), (by decide : 2 + 0 ≤ _), (by decide : 6 + 0 ≤ _)⟩)
  dsimp only [Pt.U, Pt.locs, Pt.cells, Pt.slots] at X204 l204 y204 z204 st204 hQ204
  subst l204 y204 z204
  refine own_go st204 ?_
  obtain ⟨rfl, Nq204, e204⟩ := hQ204
  have N204 := Fr.app N203 Nq204
  obtain ⟨T205, h205, X205, e205, W205, st205⟩ := putFN X204 hx hZ hown (tw hw 30 rfl) Via.refl e204 (F_c.keep K203 nin0) (E_x.keep K203) (Or.inr ⟨(tw hw 26 rfl), rfl, hnm⟩) (tw hw 10 rfl) (ty := .byte) (v' := (.int (nar .byte cd203))) (by decide) rfl (fits_nar_byte _) (g := (mkF m 48 #[rv x, rv a, iv (0 : Int32), iv (Int32.ofNat cs.length), .val .null, rv t203] [(.int cd203), (.ref x)])) rfl rfl (hb hby d42_149_48)
  refine own_go st205 ?_
  have N205 := Fr.snoc X205 N204 g_x
  have Fw205 := (F_c.keep K203 nin0).same W205
  refine wa X205 hx hby 51 d42_149_51 rfl rfl ?_
  refine wb X205 hx hby 52 d42_149_52 rfl rfl ?_
  have f206 := ((F_v.keep K203 nin0).other W205 (Or.inr (slot_ne (Or.inr (tw hw 25 rfl)) (Or.inr (tw hw 26 rfl)) (by decide) (t := (.array .byte)) (t' := .byte) (by decide) (by decide))))
  have f207 := ((E_x.keep K203).wr W205)
  obtain ⟨T208, h208, X208, e208, W208, st208⟩ := putF X205 hx hZ hown (host := "") (Or.inl (tw hw 29 rfl)) Via.refl e205 f206 f207 (Or.inr ⟨(tw hw 25 rfl), rfl, hnm⟩) (tw hw 10 rfl) (ty := (.array .byte)) (by decide) rfl rfl (g := (mkF m 54 #[rv x, rv a, iv (0 : Int32), iv (Int32.ofNat cs.length), .val .null, rv t203] [(.ref t203), (.ref x)])) rfl rfl (hb hby d42_149_54)
  refine own_go st208 ?_
  have N208 := Fr.snoc X208 N205 g_x
  have Fw208 := f206.same W208
  try dsimp only [mkF]
  have f209 := (Fw205.other W208 (Or.inr (slot_ne (Or.inr (tw hw 26 rfl)) (Or.inr (tw hw 25 rfl)) (by decide) (t := .byte) (t' := (.array .byte)) (by decide) (by decide))))
  have f210 := ((((Keep.refl h0 [x]).trans K203 all0).wr W205 (Or.inl (List.mem_of_getElem? (i := 0) rfl))).wr W208 (Or.inl (List.mem_of_getElem? (i := 0) rfl)))
  have ne211 : x ≠ t203 := Nat.ne_of_lt (Nat.lt_of_lt_of_le E_x.lt tg203)
  have f212 := ((Vt203.other W205 (Ne.symm ne211)).other W208 (Ne.symm ne211))
  have f213 := ((Xt203.wr W205).wr W208)
  refine own_fin (v := none) X208 (fun _ => rfl) hlk (fun fs hr => X208.returnOut hx hrt (hb hby d42_149_57) hr) (QQ := QSt Z x cs h0 n0) ?_ (by decide) (by decide)
  rw [e208]
  exact ⟨t203, _, _, _, _, rfl, N208, f210, Fw208, (own_ncd hC203 ▸ f209), f212, hC203, f213⟩

set_option maxRecDepth 65536 in
set_option maxHeartbeats 40000000 in
theorem rm_i1 (l : Launch) (Z : State) (a0 : Array Value) (hw : ∀ d ∈ tables_1, d.before a0 Z = true) (ws : List Jvm.Cond) (x a : Addr) (ka : ClassId) (da : Value) (cs : List Int32) (G1 : Int32) (h0 : Heap) (n0 : Nat) (O0 : Old Z n0 h0) (E_x : Exa Z h0 x "java/lang/String") (F_v : Fld Z h0 x "java/lang/String" "value" "[B" .null) (F_c : Fld Z h0 x "java/lang/String" "coder" "B" (.int (0 : Int32))) (g_x : n0 ≤ x) (OA : Sta Z Z.heap "java/lang/StringUTF16" "$assertionsDisabled" "Z" (.int (1 : Int32))) (OH : Sta Z Z.heap "java/lang/StringUTF16" "HI_BYTE_SHIFT" "I" (.int (0 : Int32))) (OL : Sta Z Z.heap "java/lang/StringUTF16" "LO_BYTE_SHIFT" "I" (.int (8 : Int32))) (O2 : Sta Z Z.heap "java/lang/String" "COMPACT_STRINGS" "Z" (.int G1)) (P5 : ¬ (G1 = (0 : Int32))) (hok : own_Ok cs) (V_a : Arv Z h0 a ka .char (Int32.ofNat cs.length) (cs.map Value.int) da) (hcap : cs.length ≤ 2) (h1 : 0 < cs.length) :
    own_TN l Z ws h0 (⟨"java/lang/String", "<init>", "([C)V"⟩ : MethodName) jdk_42_method_3_code 2 none ⟨5, 2, 6, 74⟩ #[(.ref x), (.ref a)] (QSt Z x cs h0 n0) 2 6 := by
  refine own_bN "java/lang/String" #[rv x, rv a] (pf pn_3 rfl) rfl O0 (fun m => own_e) ?_
  intro p e s m below meth cC s₁ hZ hh hx hby hml hown hnm hrt hlk X0 e0 N0 Z0
  have hlen : cs.length ≤ 4000 := hok.2
  have hxa := Exa.neArv E_x V_a (tw hw 10 rfl)
  refine wa X0 hx hby 0 d42_3_0 rfl rfl ?_
  refine wa X0 hx hby 1 d42_3_1 rfl rfl ?_
  refine wc X0 hx hby 2 d42_3_2 ?_
  refine wa X0 hx hby 3 d42_3_3 rfl rfl ?_
  try dsimp only [mkF]
  obtain ⟨c214, A214, q214, S214, M214, Hs214, Gs214⟩ := id V_a
  refine og (fun _ k => X0.arraylength hx (by rw [e0]; exact A214.1) (State.isArrayOf_alike hZ.alike A214.2.1) (g := (mkF m 4 #[rv x, rv a] [(.ref a), (.int (0 : Int32)), (.ref a), (.ref x)])) rfl rfl (hb hby d42_3_4) _ k) ?_
  rw [len_of S214 M214]
  refine og (fun _ k => XS.aconstNull X0.here hx rfl (hb hby d42_3_5) k) ?_
  obtain ⟨v215, _, ⟨T215, L215, k215, n215⟩, -, X215, ⟨Lc215, hQ215, l215, y215, z215⟩, st215⟩ := X0.specialBack hx (y := (⟨"java/lang/String", "<init>", "([CIILjava/lang/Void;)V"⟩ : MethodName)) rfl hown (mvT hZ (tw hw 16 rfl)) (mvT hZ (tw hw 17 rfl)) (mvT hZ (tw hw 19 rfl)) (by decide) (backOf (W := 0) (rm_i4 l Z a0 hw [] x a ka da cs G1 h0 n0 O0 E_x F_v F_c g_x OA OH OL O2 P5 hok V_a hcap h1) hZ (tw hw 19 rfl) (tw hw 11 rfl) (by decide) (by decide)) (g := (mkF m 6 #[rv x, rv a] [.null, (.int (Int32.ofNat cs.length)), (.int (0 : Int32)), (.ref a), (.ref x)])) rfl (by rw [hml]; rfl) (Steps.refl _) (a := x) (argsL := [(.ref a), (.int (0 : Int32)), (.int (Int32.ofNat cs.length)), .null]) (rest := []) (lenOf pd_15 rfl) rfl (by show 2 * 0 + _ ≤ _; exact Nat.le_of_eq rfl) (hb hby d42_3_6) (fun _ _ => ⟨rfl, e0, (by decide : 0 + 2 ≤ _), (by decide : 0 + 6 ≤ _)⟩)
  dsimp only [Pt.U, Pt.locs, Pt.cells, Pt.slots] at X215 l215 y215 z215 st215 hQ215
  subst l215 y215 z215
  refine own_gos st215 ?_
  obtain ⟨t215, kt215, cd215, N2215, vs215, rfl, Nq215, K215, Fv215, Fc215, Vt215, hC215, Xt215⟩ := hQ215
  have N215 := Fr.app N0 Nq215
  have f216 := ((Keep.refl h0 [x]).trans K215 (allS (Or.inl (List.mem_of_getElem? (i := 0) rfl)) all0))
  refine own_fin (v := none) X215 (fun _ => rfl) hlk (fun fs hr => X215.returnOut hx hrt (hb hby d42_3_9) hr) (QQ := QSt Z x cs h0 n0) ?_ (by decide) (by decide)
  exact ⟨t215, _, _, _, _, rfl, N215, f216, Fv215, Fc215, Vt215, hC215, Xt215⟩

abbrev k43_46 := jdk_43_method_46_code
theorem d43_46_0:Dk k43_46 0 (.iconst 1) 1:=kk
theorem d43_46_1:Dk k43_46 1 (.newarray .byte) 2:=kk
theorem d43_46_3:Dk k43_46 3 (.dup) 1:=kk
theorem d43_46_4:Dk k43_46 4 (.iconst 0) 1:=kk
theorem d43_46_5:Dk k43_46 5 (.iload_n 0) 1:=kk
theorem d43_46_6:Dk k43_46 6 (.i2b) 1:=kk
theorem d43_46_7:Dk k43_46 7 (.bastore) 1:=kk
theorem d43_46_8:Dk k43_46 8 (.areturn) 1:=kk
set_option maxRecDepth 65536 in
set_option maxHeartbeats 40000000 in
theorem rm_ltb (l : Launch) (Z : State) (a0 : Array Value) (hw : ∀ d ∈ tables_1, d.before a0 Z = true) (ws : List Jvm.Cond) (ch : Int32) (h0 : Heap) (n0 : Nat) (O0 : Old Z n0 h0) :
    own_TN l Z ws h0 (⟨"java/lang/StringLatin1", "toBytes", "(C)[B"⟩ : MethodName) jdk_43_method_46_code 1 (some (.array .byte)) ⟨0, 1, 1, 0⟩ #[(.int ch)] (QNew Z (1 : Int32) (own_lat [ch]) h0 n0) 1 1 := by
  refine own_bN "java/lang/StringLatin1" #[iv ch] (pf pn_4 rfl) rfl O0 (fun m => own_e) ?_
  intro p e s m below meth cC s₁ hZ hh hx hby hml hown hnm hrt hlk X0 e0 N0 Z0
  refine wc X0 hx hby 0 d43_46_0 ?_
  obtain ⟨T217, h217, k217, X217, e217, E217, A217, Q217, st217⟩ := newPE X0 hx hZ (tw hw 24 rfl) e0 (g := (mkF m 1 #[iv ch] [(.int (1 : Int32))])) rfl (hb hby d43_46_1) rfl (by decide) (cap := 1) (by decide) (by decide) (by decide) (by decide) rfl
  obtain ⟨b217, g217⟩ : ∃ z, z = h0.size := ⟨_, rfl⟩
  rw [← g217] at A217 Q217 st217
  refine own_go st217 ?_
  have V217 : Arv Z h217 b217 k217 .byte (1 : Int32) [(.int (0 : Int32))] (.int (0 : Int32)) := (Arv.new A217 (by decide)).pad (pad_rep [] (.int (0 : Int32)) 1)
  refine og (fun _ k => XS.dup X217.here hx rfl (hb hby d43_46_3) rfl rfl k) ?_
  refine wc X217 hx hby 4 d43_46_4 ?_
  try dsimp only [mkF]
  refine wl X217 hx hby 5 d43_46_5 rfl ?_
  refine og (fun _ k => XS.i2b X217.here hx rfl (hb hby d43_46_6) rfl k) ?_
  obtain ⟨c218, A218, q218, S218, M218, Hs218, Gs218⟩ := id V217
  obtain ⟨T219, h219, X219, e219, W219, st219⟩ := stB X217 hx hZ e217 A218 (j := (0 : Int32)) (inb_of S218 ⟨by decide, by decide⟩) (g := (mkF m 7 #[iv ch] [(.int (ch.toInt8.toInt32)), (.int (0 : Int32)), (.ref b217), (.ref b217)])) rfl rfl (hb hby d43_46_7)
  refine own_go st219 ?_
  have N219 := Fr.snoc X219 N0 (Nat.le_trans Z0 (Nat.le_of_eq g217.symm))
  have V219 : Arv Z h219 b217 k217 .byte (1 : Int32) [(.int (nar .byte (ch.toInt8.toInt32)))] (.int (0 : Int32)) := Arv.set A218 q218 S218 M218 Hs218 Gs218 (fits_nar_byte _) W219 0 rfl (Nat.le_of_ble_eq_true rfl)
  have V219q : Arv Z h219 b217 k217 .byte (1 : Int32) [(.int (StrChars.lo8 ch))] (.int (0 : Int32)) := by rw [show nar .byte (ch.toInt8.toInt32) = (StrChars.lo8 ch) from own_nb ch] at V219; exact V219
  have f220 := (((Keep.refl h0 []).ext E217).wr W219 (Or.inr (Nat.le_of_eq g217.symm)))
  refine own_fin (v := (some (.ref b217))) X219 (fun h => by rw [hrt] at h; cases h) hlk (fun fs hr => retR X219 hx hrt (by rfl) rfl rfl (hb hby d43_46_8) hr) (QQ := QNew Z (1 : Int32) (own_lat [ch]) h0 n0) ?_ (by decide) (by decide)
  rw [e219]
  exact ⟨b217, _, rfl, N219, f220, (Nat.le_of_eq g217.symm), V219q, (Q217.wr W219)⟩

abbrev k52_24 := jdk_52_method_24_code
theorem d52_24_0:Dk k52_24 0 (.iconst 2) 1:=kk
theorem d52_24_1:Dk k52_24 1 (.newarray .byte) 2:=kk
theorem d52_24_3:Dk k52_24 3 (.astore_n 1) 1:=kk
theorem d52_24_4:Dk k52_24 4 (.aload_n 1) 1:=kk
theorem d52_24_5:Dk k52_24 5 (.iconst 0) 1:=kk
theorem d52_24_6:Dk k52_24 6 (.iload_n 0) 1:=kk
theorem d52_24_7:Dk k52_24 7 (.invokestatic 111) 3:=kk
theorem d52_24_10:Dk k52_24 10 (.aload_n 1) 1:=kk
theorem d52_24_11:Dk k52_24 11 (.areturn) 1:=kk
set_option maxRecDepth 65536 in
set_option maxHeartbeats 40000000 in
theorem rm_wtb (l : Launch) (Z : State) (a0 : Array Value) (hw : ∀ d ∈ tables_1, d.before a0 Z = true) (ws : List Jvm.Cond) (ch : Int32) (h0 : Heap) (n0 : Nat) (O0 : Old Z n0 h0) (OA : Sta Z Z.heap "java/lang/StringUTF16" "$assertionsDisabled" "Z" (.int (1 : Int32))) (OH : Sta Z Z.heap "java/lang/StringUTF16" "HI_BYTE_SHIFT" "I" (.int (0 : Int32))) (OL : Sta Z Z.heap "java/lang/StringUTF16" "LO_BYTE_SHIFT" "I" (.int (8 : Int32))) :
    own_TN l Z ws h0 (⟨"java/lang/StringUTF16", "toBytes", "(C)[B"⟩ : MethodName) jdk_52_method_24_code 2 (some (.array .byte)) ⟨1, 1, 2, 14⟩ #[(.int ch)] (QNew Z (2 : Int32) (StrChars.Road.wideBytes [ch]) h0 n0) 1 2 := by
  refine own_bN "java/lang/StringUTF16" #[iv ch, .unset] (pf pn_8 rfl) rfl O0 (fun m => own_e) ?_
  intro p e s m below meth cC s₁ hZ hh hx hby hml hown hnm hrt hlk X0 e0 N0 Z0
  refine wc X0 hx hby 0 d52_24_0 ?_
  obtain ⟨T221, h221, k221, X221, e221, E221, A221, Q221, st221⟩ := newPE X0 hx hZ (tw hw 24 rfl) e0 (g := (mkF m 1 #[iv ch, .unset] [(.int (2 : Int32))])) rfl (hb hby d52_24_1) rfl (by decide) (cap := 2) (by decide) (by decide) (by decide) (by decide) rfl
  obtain ⟨b221, g221⟩ : ∃ z, z = h0.size := ⟨_, rfl⟩
  rw [← g221] at A221 Q221 st221
  refine own_go st221 ?_
  have V221 : Arv Z h221 b221 k221 .byte (2 : Int32) [(.int (0 : Int32)), (.int (0 : Int32))] (.int (0 : Int32)) := (Arv.new A221 (by decide)).pad (pad_rep [] (.int (0 : Int32)) 2)
  refine wv X221 hx hby 3 #[iv ch, rv b221] d52_24_3 rfl rfl ?_
  refine wa X221 hx hby 4 d52_24_4 rfl rfl ?_
  try dsimp only [mkF]
  refine wc X221 hx hby 5 d52_24_5 ?_
  refine wl X221 hx hby 6 d52_24_6 rfl ?_
  obtain ⟨v222, _, ⟨T222, L222, k222, n222⟩, -, X222, ⟨Lc222, hQ222, l222, y222, z222⟩, st222⟩ := Jvm.LawKit.callS X221 hx (y := (⟨"java/lang/StringUTF16", "putChar", "([BII)V"⟩ : MethodName)) hown (mvT hZ (tw hw 248 rfl)) (mvT hZ (tw hw 249 rfl)) (mvT hZ (tw hw 179 rfl)) (mvT hZ (tw hw 250 rfl)) (by decide) (backOf (W := 0) (rm_put l Z a0 hw [] b221 k221 2 [(.int (0 : Int32)), (.int (0 : Int32))] 0 ch h221 n0 (O0.ext E221) OA OH OL V221 (Nat.le_trans Z0 (Nat.le_of_eq g221.symm)) rfl (by decide) (by decide)) hZ (tw hw 250 rfl) (tw hw 179 rfl) (by decide) (by decide)) (g := (mkF m 7 #[iv ch, rv b221] [(.int ch), (.int (0 : Int32)), (.ref b221)])) rfl (by rw [hml]; rfl) (argsL := [(.ref b221), (.int (0 : Int32)), (.int ch)]) (rest := []) (lenOf pd_17 rfl) rfl (by show 2 * 0 + _ ≤ _; exact Nat.le_of_eq rfl) (hb hby d52_24_7) (fun _ _ => ⟨rfl, e221, (by decide : 1 + 0 ≤ _), (by decide : 2 + 0 ≤ _)⟩)
  dsimp only [Pt.U, Pt.locs, Pt.cells, Pt.slots] at X222 l222 y222 z222 st222 hQ222
  subst l222 y222 z222
  refine own_go st222 ?_
  obtain ⟨rfl, Nq222, K222, Vb222⟩ := hQ222
  have N222 := Fr.app N0 Nq222
  refine wa X222 hx hby 10 d52_24_10 rfl rfl ?_
  have f223 := (((Keep.refl h0 []).ext E221).trans K222 (allS (Or.inr (Nat.le_of_eq g221.symm)) all0))
  refine own_fin (v := (some (.ref b221))) X222 (fun h => by rw [hrt] at h; cases h) hlk (fun fs hr => retR X222 hx hrt (by rfl) rfl rfl (hb hby d52_24_11) hr) (QQ := QNew Z (2 : Int32) (StrChars.Road.wideBytes [ch]) h0 n0) ?_ (by decide) (by decide)
  exact ⟨b221, _, rfl, N222, f223, (Nat.le_of_eq g221.symm), Vb222, (Q221.keep K222)⟩

def QIb (Z : State) (x t : Addr) (cd : Int32) (h0 : Heap) (n0 : Nat) (v : Option Value) (h : Heap) (L : List Loc) : Prop := v = none ∧ Fr n0 L ∧ Keep h0 h [x] ∧ Fld Z h x "java/lang/String" "value" "[B" (.ref t) ∧ Fld Z h x "java/lang/String" "coder" "B" (.int cd)
abbrev k42_151 := jdk_42_method_151_code
theorem d42_151_0:Dk k42_151 0 (.aload_n 0) 1:=kk
theorem d42_151_1:Dk k42_151 1 (.invokespecial 1) 3:=kk
theorem d42_151_4:Dk k42_151 4 (.aload_n 0) 1:=kk
theorem d42_151_5:Dk k42_151 5 (.aload_n 1) 1:=kk
theorem d42_151_6:Dk k42_151 6 (.putfield 9) 3:=kk
theorem d42_151_9:Dk k42_151 9 (.aload_n 0) 1:=kk
theorem d42_151_10:Dk k42_151 10 (.iload_n 2) 1:=kk
theorem d42_151_11:Dk k42_151 11 (.putfield 15) 3:=kk
theorem d42_151_14:Dk k42_151 14 (.return_) 1:=kk
set_option maxRecDepth 65536 in
set_option maxHeartbeats 40000000 in
theorem rm_ib0 (l : Launch) (Z : State) (a0 : Array Value) (hw : ∀ d ∈ tables_1, d.before a0 Z = true) (ws : List Jvm.Cond) (x t : Addr) (h0 : Heap) (n0 : Nat) (O0 : Old Z n0 h0) (E_x : Exa Z h0 x "java/lang/String") (Fv_x : Fld Z h0 x "java/lang/String" "value" "[B" .null) (Fc_x : Fld Z h0 x "java/lang/String" "coder" "B" (.int (0 : Int32))) (g_x : n0 ≤ x) :
    own_TN l Z ws h0 (⟨"java/lang/String", "<init>", "([BB)V"⟩ : MethodName) jdk_42_method_151_code 3 none ⟨1, 0, 0, 12⟩ #[(.ref x), (.ref t), (.int (0 : Int32))] (QIb Z x t (0 : Int32) h0 n0) 0 0 := by
  refine own_bN "java/lang/String" #[rv x, rv t, iv (0 : Int32)] (pf pn_3 rfl) rfl O0 (fun m => own_e) ?_
  intro p e s m below meth cC s₁ hZ hh hx hby hml hown hnm hrt hlk X0 e0 N0 Z0
  refine wa X0 hx hby 0 d42_151_0 rfl rfl ?_
  obtain ⟨T224, X224, e224, st224⟩ := initO X0 hx hZ hown (tw hw 20 rfl) (tw hw 21 rfl) (tw hw 22 rfl) e0 (g := (mkF m 1 #[rv x, rv t, iv (0 : Int32)] [(.ref x)])) rfl (by rw [hml]; rfl) rfl (hb hby d42_151_1) (by decide) (W := 0) (by show 2 * 0 + _ ≤ _; exact Nat.le_of_eq rfl) (by decide)
  refine own_go st224 ?_
  refine wa X224 hx hby 4 d42_151_4 rfl rfl ?_
  refine wa X224 hx hby 5 d42_151_5 rfl rfl ?_
  try dsimp only [mkF]
  obtain ⟨T225, h225, X225, e225, W225, st225⟩ := putF X224 hx hZ hown (host := "") (Or.inl (tw hw 29 rfl)) Via.refl e224 Fv_x E_x (Or.inr ⟨(tw hw 25 rfl), rfl, hnm⟩) (tw hw 10 rfl) (ty := (.array .byte)) (by decide) rfl rfl (g := (mkF m 6 #[rv x, rv t, iv (0 : Int32)] [(.ref t), (.ref x)])) rfl rfl (hb hby d42_151_6)
  refine own_go st225 ?_
  have N225 := Fr.snoc X225 N0 g_x
  have Fw225 := Fv_x.same W225
  refine wa X225 hx hby 9 d42_151_9 rfl rfl ?_
  refine wl X225 hx hby 10 d42_151_10 rfl ?_
  have f226 := (Fc_x.other W225 (Or.inr (slot_ne (Or.inr (tw hw 26 rfl)) (Or.inr (tw hw 25 rfl)) (by decide) (t := .byte) (t' := (.array .byte)) (by decide) (by decide))))
  obtain ⟨T227, h227, X227, e227, W227, st227⟩ := putFN X225 hx hZ hown (tw hw 30 rfl) Via.refl e225 f226 (E_x.wr W225) (Or.inr ⟨(tw hw 26 rfl), rfl, hnm⟩) (tw hw 10 rfl) (ty := .byte) (v' := (.int (0 : Int32))) (by decide) rfl rfl (g := (mkF m 11 #[rv x, rv t, iv (0 : Int32)] [(.int (0 : Int32)), (.ref x)])) rfl rfl (hb hby d42_151_11)
  refine own_go st227 ?_
  have N227 := Fr.snoc X227 N225 g_x
  have Fw227 := f226.same W227
  have f228 := (((Keep.refl h0 [x]).wr W225 (Or.inl (List.mem_of_getElem? (i := 0) rfl))).wr W227 (Or.inl (List.mem_of_getElem? (i := 0) rfl)))
  have f229 := (Fw225.other W227 (Or.inr (slot_ne (Or.inr (tw hw 25 rfl)) (Or.inr (tw hw 26 rfl)) (by decide) (t := (.array .byte)) (t' := .byte) (by decide) (by decide))))
  refine own_fin (v := none) X227 (fun _ => rfl) hlk (fun fs hr => X227.returnOut hx hrt (hb hby d42_151_14) hr) (QQ := QIb Z x t (0 : Int32) h0 n0) ?_ (by decide) (by decide)
  rw [e227]
  exact ⟨rfl, N227, f228, f229, Fw227⟩

set_option maxRecDepth 65536 in
set_option maxHeartbeats 40000000 in
theorem rm_ib1 (l : Launch) (Z : State) (a0 : Array Value) (hw : ∀ d ∈ tables_1, d.before a0 Z = true) (ws : List Jvm.Cond) (x t : Addr) (h0 : Heap) (n0 : Nat) (O0 : Old Z n0 h0) (E_x : Exa Z h0 x "java/lang/String") (Fv_x : Fld Z h0 x "java/lang/String" "value" "[B" .null) (Fc_x : Fld Z h0 x "java/lang/String" "coder" "B" (.int (0 : Int32))) (g_x : n0 ≤ x) :
    own_TN l Z ws h0 (⟨"java/lang/String", "<init>", "([BB)V"⟩ : MethodName) jdk_42_method_151_code 3 none ⟨1, 0, 0, 12⟩ #[(.ref x), (.ref t), (.int (1 : Int32))] (QIb Z x t (1 : Int32) h0 n0) 0 0 := by
  refine own_bN "java/lang/String" #[rv x, rv t, iv (1 : Int32)] (pf pn_3 rfl) rfl O0 (fun m => own_e) ?_
  intro p e s m below meth cC s₁ hZ hh hx hby hml hown hnm hrt hlk X0 e0 N0 Z0
  refine wa X0 hx hby 0 d42_151_0 rfl rfl ?_
  obtain ⟨T230, X230, e230, st230⟩ := initO X0 hx hZ hown (tw hw 20 rfl) (tw hw 21 rfl) (tw hw 22 rfl) e0 (g := (mkF m 1 #[rv x, rv t, iv (1 : Int32)] [(.ref x)])) rfl (by rw [hml]; rfl) rfl (hb hby d42_151_1) (by decide) (W := 0) (by show 2 * 0 + _ ≤ _; exact Nat.le_of_eq rfl) (by decide)
  refine own_go st230 ?_
  refine wa X230 hx hby 4 d42_151_4 rfl rfl ?_
  refine wa X230 hx hby 5 d42_151_5 rfl rfl ?_
  try dsimp only [mkF]
  obtain ⟨T231, h231, X231, e231, W231, st231⟩ := putF X230 hx hZ hown (host := "") (Or.inl (tw hw 29 rfl)) Via.refl e230 Fv_x E_x (Or.inr ⟨(tw hw 25 rfl), rfl, hnm⟩) (tw hw 10 rfl) (ty := (.array .byte)) (by decide) rfl rfl (g := (mkF m 6 #[rv x, rv t, iv (1 : Int32)] [(.ref t), (.ref x)])) rfl rfl (hb hby d42_151_6)
  refine own_go st231 ?_
  have N231 := Fr.snoc X231 N0 g_x
  have Fw231 := Fv_x.same W231
  refine wa X231 hx hby 9 d42_151_9 rfl rfl ?_
  refine wl X231 hx hby 10 d42_151_10 rfl ?_
  have f232 := (Fc_x.other W231 (Or.inr (slot_ne (Or.inr (tw hw 26 rfl)) (Or.inr (tw hw 25 rfl)) (by decide) (t := .byte) (t' := (.array .byte)) (by decide) (by decide))))
  obtain ⟨T233, h233, X233, e233, W233, st233⟩ := putFN X231 hx hZ hown (tw hw 30 rfl) Via.refl e231 f232 (E_x.wr W231) (Or.inr ⟨(tw hw 26 rfl), rfl, hnm⟩) (tw hw 10 rfl) (ty := .byte) (v' := (.int (1 : Int32))) (by decide) rfl rfl (g := (mkF m 11 #[rv x, rv t, iv (1 : Int32)] [(.int (1 : Int32)), (.ref x)])) rfl rfl (hb hby d42_151_11)
  refine own_go st233 ?_
  have N233 := Fr.snoc X233 N231 g_x
  have Fw233 := f232.same W233
  have f234 := (((Keep.refl h0 [x]).wr W231 (Or.inl (List.mem_of_getElem? (i := 0) rfl))).wr W233 (Or.inl (List.mem_of_getElem? (i := 0) rfl)))
  have f235 := (Fw231.other W233 (Or.inr (slot_ne (Or.inr (tw hw 25 rfl)) (Or.inr (tw hw 26 rfl)) (by decide) (t := (.array .byte)) (t' := .byte) (by decide) (by decide))))
  refine own_fin (v := none) X233 (fun _ => rfl) hlk (fun fs hr => X233.returnOut hx hrt (hb hby d42_151_14) hr) (QQ := QIb Z x t (1 : Int32) h0 n0) ?_ (by decide) (by decide)
  rw [e233]
  exact ⟨rfl, N233, f234, f235, Fw233⟩

abbrev k42_139 := jdk_42_method_139_code
theorem d42_139_0:Dk k42_139 0 (.getstatic 38) 3:=kk
theorem d42_139_3:Dk k42_139 3 (.ifCond .eq 23) 3:=kk
theorem d42_139_6:Dk k42_139 6 (.iload_n 0) 1:=kk
theorem d42_139_7:Dk k42_139 7 (.invokestatic 1015) 3:=kk
theorem d42_139_10:Dk k42_139 10 (.ifCond .eq 16) 3:=kk
theorem d42_139_26:Dk k42_139 26 (.new 10) 3:=kk
theorem d42_139_29:Dk k42_139 29 (.dup) 1:=kk
theorem d42_139_30:Dk k42_139 30 (.iload_n 0) 1:=kk
theorem d42_139_31:Dk k42_139 31 (.invokestatic 1021) 3:=kk
theorem pd_21 : parseMethodDescriptor "(C)[B" = some ⟨[.char], some (.array .byte)⟩ := by decide +kernel
theorem d42_139_34:Dk k42_139 34 (.iconst 1) 1:=kk
theorem d42_139_35:Dk k42_139 35 (.invokespecial 209) 3:=kk
theorem pd_22 : parseMethodDescriptor "([BB)V" = some ⟨[(.array .byte), .byte], none⟩ := by decide +kernel
theorem d42_139_38:Dk k42_139 38 (.areturn) 1:=kk
theorem d42_139_13:Dk k42_139 13 (.new 10) 3:=kk
theorem d42_139_16:Dk k42_139 16 (.dup) 1:=kk
theorem d42_139_17:Dk k42_139 17 (.iload_n 0) 1:=kk
theorem d42_139_18:Dk k42_139 18 (.invokestatic 1018) 3:=kk
theorem d42_139_21:Dk k42_139 21 (.iconst 0) 1:=kk
theorem d42_139_22:Dk k42_139 22 (.invokespecial 209) 3:=kk
theorem d42_139_25:Dk k42_139 25 (.areturn) 1:=kk
set_option maxRecDepth 65536 in
set_option maxHeartbeats 40000000 in
theorem rm_vof (l : Launch) (Z : State) (a0 : Array Value) (hw : ∀ d ∈ tables_1, d.before a0 Z = true) (ws : List Jvm.Cond) (ch G1 : Int32) (h0 : Heap) (n0 : Nat) (O0 : Old Z n0 h0) (O2 : Sta Z Z.heap "java/lang/String" "COMPACT_STRINGS" "Z" (.int G1)) (P5 : ¬ (G1 = (0 : Int32))) (OA : Sta Z Z.heap "java/lang/StringUTF16" "$assertionsDisabled" "Z" (.int (1 : Int32))) (OH : Sta Z Z.heap "java/lang/StringUTF16" "HI_BYTE_SHIFT" "I" (.int (0 : Int32))) (OL : Sta Z Z.heap "java/lang/StringUTF16" "LO_BYTE_SHIFT" "I" (.int (8 : Int32))) :
    own_TN l Z ws h0 (⟨"java/lang/String", "valueOf", "(C)Ljava/lang/String;"⟩ : MethodName) jdk_42_method_139_code 1 (some (.object "java/lang/String")) ⟨2, 2, 6, 29⟩ #[(.int ch)] (QStrN Z [ch] h0 n0) 2 6 := by
  refine own_bN "java/lang/String" #[iv ch] (pf pn_3 rfl) rfl O0 (fun m => own_e) ?_
  intro p e s m below meth cC s₁ hZ hh hx hby hml hown hnm hrt hlk X0 e0 N0 Z0
  obtain ⟨T236, X236, e236, st236⟩ := getS2 X0 hx hZ hown (host := "") (Or.inl (tw hw 115 rfl)) Via.refl e0 (O2.ext O0.2) (g := (mkF m 0 #[iv ch] [])) rfl (hb hby d42_139_0)
  refine own_go st236 ?_
  refine we X236 hx hby 3 d42_139_3 ((if0 _ _).trans (feq P5).1) ?_
  refine wl X236 hx hby 6 d42_139_6 rfl ?_
  obtain ⟨v237, _, ⟨T237, L237, k237, n237⟩, -, X237, ⟨Lc237, hQ237, l237, y237, z237⟩, st237⟩ := Jvm.LawKit.callS X236 hx (y := (⟨"java/lang/StringLatin1", "canEncode", "(C)Z"⟩ : MethodName)) hown (mvT hZ (tw hw 119 rfl)) (mvT hZ (tw hw 120 rfl)) (mvT hZ (tw hw 121 rfl)) (mvT hZ (tw hw 122 rfl)) (by decide) (backOf (W := 0) (rm_cec l Z a0 hw [] ch h0 n0 O0 ) hZ (tw hw 122 rfl) (tw hw 121 rfl) (by decide) (by decide)) (g := (mkF m 7 #[iv ch] [(.int ch)])) rfl (by rw [hml]; rfl) (argsL := [(.int ch)]) (rest := []) (lenOf pd_9 rfl) rfl (by show 2 * 0 + _ ≤ _; exact Nat.le_of_eq rfl) (hb hby d42_139_7) (fun _ _ => ⟨rfl, e236, (by decide : 0 + 0 ≤ _), (by decide : 0 + 0 ≤ _)⟩)
  dsimp only [Pt.U, Pt.locs, Pt.cells, Pt.slots] at X237 l237 y237 z237 st237 hQ237
  subst l237 y237 z237
  refine own_go st237 ?_
  obtain ⟨rfl, Nq237, e237⟩ := hQ237
  have N237 := Fr.app N0 Nq237
  try dsimp only [mkF]
  by_cases hc238 : (own_ce ch) = (0 : Int32)
  · skip
    refine wf X237 hx hby 10 26 d42_139_10 ((if0 _ _).trans (teq hc238).1) ?_
    obtain ⟨T239, h239, X239, e239, E239, A239, D239, U239, st239⟩ := newO X237 hx hZ hown (tw hw 123 rfl) (tw hw 10 rfl) (tw hw 11 rfl) e237 (g := (mkF m 26 #[iv ch] [])) rfl (hb hby d42_139_26) (by decide) (by decide)
    obtain ⟨b239, g239⟩ : ∃ z, z = h0.size := ⟨_, rfl⟩
    rw [← g239] at A239 D239 U239 st239
    refine own_go st239 ?_
    have F239_value : Fld Z h239 b239 "java/lang/String" "value" "[B" .null := D239 (Or.inr (tw hw 25 rfl)) (ty := (.array .byte)) (by decide)
    have F239_coder : Fld Z h239 b239 "java/lang/String" "coder" "B" (.int (0 : Int32)) := D239 (Or.inr (tw hw 26 rfl)) (ty := .byte) (by decide)
    refine og (fun _ k => XS.dup X239.here hx rfl (hb hby d42_139_29) rfl rfl k) ?_
    refine wl X239 hx hby 30 d42_139_30 rfl ?_
    obtain ⟨v240, _, ⟨T240, L240, k240, n240⟩, -, X240, ⟨Lc240, hQ240, l240, y240, z240⟩, st240⟩ := Jvm.LawKit.callS X239 hx (y := (⟨"java/lang/StringUTF16", "toBytes", "(C)[B"⟩ : MethodName)) hown (mvT hZ (tw hw 295 rfl)) (mvT hZ (tw hw 296 rfl)) (mvT hZ (tw hw 179 rfl)) (mvT hZ (tw hw 297 rfl)) (by decide) (backOf (W := 2) (rm_wtb l Z a0 hw [] ch h239 n0 (O0.ext E239) OA OH OL) hZ (tw hw 297 rfl) (tw hw 179 rfl) (by decide) (by decide)) (g := (mkF m 31 #[iv ch] [(.int ch), (.ref b239), (.ref b239)])) rfl (by rw [hml]; rfl) (argsL := [(.int ch)]) (rest := [(.ref b239), (.ref b239)]) (lenOf pd_21 rfl) rfl (by show 2 * 0 + _ ≤ _; exact Nat.le_of_eq rfl) (hb hby d42_139_31) (fun _ _ => ⟨rfl, e239, (by decide : 1 + 1 ≤ _), (by decide : 4 + 2 ≤ _)⟩)
    dsimp only [Pt.U, Pt.locs, Pt.cells, Pt.slots] at X240 l240 y240 z240 st240 hQ240
    subst l240 y240 z240
    refine own_go st240 ?_
    obtain ⟨t240, kt240, rfl, Nq240, K240, tg240, Vt240, Xt240⟩ := hQ240
    have N240 := Fr.app N237 Nq240
    try dsimp only [mkF]
    refine wc X240 hx hby 34 d42_139_34 ?_
    have f241 := (F239_value.keep K240 nin0)
    have f242 := (F239_coder.keep K240 nin0)
    have f243 := ((O0.ext E239).keep K240 all0)
    obtain ⟨v244, _, ⟨T244, L244, k244, n244⟩, -, X244, ⟨Lc244, hQ244, l244, y244, z244⟩, st244⟩ := X240.specialBack hx (y := (⟨"java/lang/String", "<init>", "([BB)V"⟩ : MethodName)) rfl hown (mvT hZ (tw hw 127 rfl)) (mvT hZ (tw hw 128 rfl)) (mvT hZ (tw hw 129 rfl)) (by decide) (backOf (W := 1) (rm_ib1 l Z a0 hw [] b239 t240 T240.heap n0 f243 (A239.keep K240) f241 f242 (Nat.le_trans Z0 (Nat.le_of_eq g239.symm))) hZ (tw hw 129 rfl) (tw hw 11 rfl) (by decide) (by decide)) (g := (mkF m 35 #[iv ch] [(.int (1 : Int32)), (.ref t240), (.ref b239), (.ref b239)])) rfl (by rw [hml]; rfl) (Steps.refl _) (a := b239) (argsL := [(.ref t240), (.int (1 : Int32))]) (rest := [(.ref b239)]) (lenOf pd_22 rfl) rfl (by show 2 * 0 + _ ≤ _; exact Nat.le_of_eq rfl) (hb hby d42_139_35) (fun _ _ => ⟨rfl, (rfl : T240.heap = T240.heap), (by decide : 2 + 0 ≤ _), (by decide : 6 + 0 ≤ _)⟩)
    dsimp only [Pt.U, Pt.locs, Pt.cells, Pt.slots] at X244 l244 y244 z244 st244 hQ244
    subst l244 y244 z244
    refine own_gos st244 ?_
    obtain ⟨rfl, Nq244, K244, Fv244, Fc244⟩ := hQ244
    have N244 := Fr.app N240 Nq244
    have f245 := ((((Keep.refl h0 []).ext E239).trans K240 all0).trans K244 (allS (Or.inr (Nat.le_of_eq g239.symm)) all0))
    have f246 := ((A239.keep K240).keep K244)
    have ne247 : b239 ≠ t240 := Nat.ne_of_lt (Nat.lt_of_lt_of_le A239.lt tg240)
    have f248 := (Vt240.keep K244 (ninS (Ne.symm ne247) nin0))
    refine own_fin (v := (some (.ref b239))) X244 (fun h => by rw [hrt] at h; cases h) hlk (fun fs hr => retR X244 hx hrt (by rfl) rfl rfl (hb hby d42_139_38) hr) (QQ := QStrN Z [ch] h0 n0) ?_ (by decide) (by decide)
    exact ⟨b239, t240, _, _, _, _, rfl, N244, f245, (Nat.le_of_eq g239.symm), f246, Fv244, Fc244, f248, Or.inr ⟨rfl, rfl, rfl, ch, List.mem_singleton.mpr rfl, own_ce0 hc238⟩, (Xt240.keep K244)⟩
  · skip
    refine we X237 hx hby 10 d42_139_10 ((if0 _ _).trans (feq hc238).1) ?_
    obtain ⟨T249, h249, X249, e249, E249, A249, D249, U249, st249⟩ := newO X237 hx hZ hown (tw hw 123 rfl) (tw hw 10 rfl) (tw hw 11 rfl) e237 (g := (mkF m 13 #[iv ch] [])) rfl (hb hby d42_139_13) (by decide) (by decide)
    obtain ⟨b249, g249⟩ : ∃ z, z = h0.size := ⟨_, rfl⟩
    rw [← g249] at A249 D249 U249 st249
    refine own_go st249 ?_
    have F249_value : Fld Z h249 b249 "java/lang/String" "value" "[B" .null := D249 (Or.inr (tw hw 25 rfl)) (ty := (.array .byte)) (by decide)
    have F249_coder : Fld Z h249 b249 "java/lang/String" "coder" "B" (.int (0 : Int32)) := D249 (Or.inr (tw hw 26 rfl)) (ty := .byte) (by decide)
    refine og (fun _ k => XS.dup X249.here hx rfl (hb hby d42_139_16) rfl rfl k) ?_
    refine wl X249 hx hby 17 d42_139_17 rfl ?_
    obtain ⟨v250, _, ⟨T250, L250, k250, n250⟩, -, X250, ⟨Lc250, hQ250, l250, y250, z250⟩, st250⟩ := Jvm.LawKit.callS X249 hx (y := (⟨"java/lang/StringLatin1", "toBytes", "(C)[B"⟩ : MethodName)) hown (mvT hZ (tw hw 124 rfl)) (mvT hZ (tw hw 125 rfl)) (mvT hZ (tw hw 121 rfl)) (mvT hZ (tw hw 126 rfl)) (by decide) (backOf (W := 2) (rm_ltb l Z a0 hw [] ch h249 n0 (O0.ext E249) ) hZ (tw hw 126 rfl) (tw hw 121 rfl) (by decide) (by decide)) (g := (mkF m 18 #[iv ch] [(.int ch), (.ref b249), (.ref b249)])) rfl (by rw [hml]; rfl) (argsL := [(.int ch)]) (rest := [(.ref b249), (.ref b249)]) (lenOf pd_21 rfl) rfl (by show 2 * 0 + _ ≤ _; exact Nat.le_of_eq rfl) (hb hby d42_139_18) (fun _ _ => ⟨rfl, e249, (by decide : 1 + 1 ≤ _), (by decide : 4 + 1 ≤ _)⟩)
    dsimp only [Pt.U, Pt.locs, Pt.cells, Pt.slots] at X250 l250 y250 z250 st250 hQ250
    subst l250 y250 z250
    refine own_go st250 ?_
    obtain ⟨t250, kt250, rfl, Nq250, K250, tg250, Vt250, Xt250⟩ := hQ250
    have N250 := Fr.app N237 Nq250
    try dsimp only [mkF]
    refine wc X250 hx hby 21 d42_139_21 ?_
    have f251 := (F249_value.keep K250 nin0)
    have f252 := (F249_coder.keep K250 nin0)
    have f253 := ((O0.ext E249).keep K250 all0)
    obtain ⟨v254, _, ⟨T254, L254, k254, n254⟩, -, X254, ⟨Lc254, hQ254, l254, y254, z254⟩, st254⟩ := X250.specialBack hx (y := (⟨"java/lang/String", "<init>", "([BB)V"⟩ : MethodName)) rfl hown (mvT hZ (tw hw 127 rfl)) (mvT hZ (tw hw 128 rfl)) (mvT hZ (tw hw 129 rfl)) (by decide) (backOf (W := 1) (rm_ib0 l Z a0 hw [] b249 t250 T250.heap n0 f253 (A249.keep K250) f251 f252 (Nat.le_trans Z0 (Nat.le_of_eq g249.symm))) hZ (tw hw 129 rfl) (tw hw 11 rfl) (by decide) (by decide)) (g := (mkF m 22 #[iv ch] [(.int (0 : Int32)), (.ref t250), (.ref b249), (.ref b249)])) rfl (by rw [hml]; rfl) (Steps.refl _) (a := b249) (argsL := [(.ref t250), (.int (0 : Int32))]) (rest := [(.ref b249)]) (lenOf pd_22 rfl) rfl (by show 2 * 0 + _ ≤ _; exact Nat.le_of_eq rfl) (hb hby d42_139_22) (fun _ _ => ⟨rfl, (rfl : T250.heap = T250.heap), (by decide : 2 + 0 ≤ _), (by decide : 5 + 0 ≤ _)⟩)
    dsimp only [Pt.U, Pt.locs, Pt.cells, Pt.slots] at X254 l254 y254 z254 st254 hQ254
    subst l254 y254 z254
    refine own_gos st254 ?_
    obtain ⟨rfl, Nq254, K254, Fv254, Fc254⟩ := hQ254
    have N254 := Fr.app N250 Nq254
    have f255 := ((((Keep.refl h0 []).ext E249).trans K250 all0).trans K254 (allS (Or.inr (Nat.le_of_eq g249.symm)) all0))
    have f256 := ((A249.keep K250).keep K254)
    have ne257 : b249 ≠ t250 := Nat.ne_of_lt (Nat.lt_of_lt_of_le A249.lt tg250)
    have f258 := (Vt250.keep K254 (ninS (Ne.symm ne257) nin0))
    refine own_fin (v := (some (.ref b249))) X254 (fun h => by rw [hrt] at h; cases h) hlk (fun fs hr => retR X254 hx hrt (by rfl) rfl rfl (hb hby d42_139_25) hr) (QQ := QStrN Z [ch] h0 n0) ?_ (by decide) (by decide)
    exact ⟨b249, t250, _, _, _, _, rfl, N254, f255, (Nat.le_of_eq g249.symm), f256, Fv254, Fc254, f258, Or.inl ⟨rfl, rfl, rfl, fun c hc => by rw [List.mem_singleton.mp hc]; exact own_ce1 hc238⟩, (Xt250.keep K254)⟩

def QIx (cs : List Int32) (ch : Int32) (h0 : Heap) (n0 : Nat) (v : Option Value) (h : Heap) (L : List Loc) : Prop := ∃ r : Int32, v = some (.int r) ∧ Fr n0 L ∧ h = h0 ∧ ((¬ r < 0 ∧ ch ∈ cs) ∨ (r < 0 ∧ ¬ ch ∈ cs))
theorem own_loinj {x c : Int32} (h0 : ¬ x < 0) (h1 : ¬ (255 : Int32) < x) (g0 : ¬ c < 0) (g1 : ¬ (255 : Int32) < c) (e : StrChars.lo8 x = c.toInt8.toInt32) : x = c := by
  have e' : StrChars.lo8 x = StrChars.lo8 c := e
  rw [← StrChars.lo8_mask h0 h1, ← StrChars.lo8_mask g0 g1, e']
theorem own_lgd {cs : List Int32} {i : Nat} (hi : i < cs.length) (h : cs.length ≤ 4000) : (own_lat cs).getD (Int32.ofNat i).toNatClampNeg (.int (0 : Int32)) = Value.int (StrChars.lo8 (cs.getD i 0)) := by
  rw [own_tn (by omega)]
  simp [own_lat, List.getD_eq_getElem?_getD, hi]
theorem own_nomem {cs : List Int32} {c : Int32} (h : ∀ j, j < cs.length → ¬ cs.getD j 0 = c) : ¬ c ∈ cs := fun q => by
  obtain ⟨j, hj, e⟩ := List.getElem_of_mem q
  exact h j hj (by rw [show cs.getD j 0 = cs[j] by simp [List.getD_eq_getElem?_getD, hj]]; exact e)
theorem own_mem_of {cs : List Int32} {c : Int32} {i : Nat} (hi : i < cs.length) (e : cs.getD i 0 = c) : c ∈ cs := e ▸ own_getm hi
theorem own_minself (x : Int32) : x = if x < x then x else x := by split <;> rfl
theorem own_empty {cs : List Int32} {c : Int32} (h : ¬ (0 : Int32) < Int32.ofNat cs.length) (hl : cs.length ≤ 4000) : ¬ c ∈ cs := by
  have : ¬ 0 < cs.length := fun q => h ((own_lti (i := 0) (by omega) (by omega)).mpr q)
  have e : cs = [] := List.eq_nil_of_length_eq_zero (by omega)
  rw [e]; exact List.not_mem_nil
theorem own_irr (x : Int32) : ¬ x < x := by rw [Int32.lt_iff_toInt_lt]; omega
theorem own_lt65 {c : Int32} (h : ¬ (255 : Int32) < c) : c < (65536 : Int32) := by
  rw [Int32.lt_iff_toInt_lt] at h ⊢
  have e1 : (65536 : Int32).toInt = 65536 := rfl
  have e2 : (255 : Int32).toInt = 255 := rfl
  omega
theorem own_wpos {cs : List Int32} {c : Int32} (h : c ∈ cs) : 0 < cs.length := List.length_pos_of_mem h
def own_u8 (c : Int32) : List Int32 := if c < (128 : Int32) then [c] else if c < (2048 : Int32) then [StrChars.lo8 (own_b2 c), StrChars.lo8 (own_bl c)] else [StrChars.lo8 (own_b3 c), StrChars.lo8 (own_bm c), StrChars.lo8 (own_bl c)]
def own_u8s : List Int32 → List Int32
  | [] => []
  | c :: cs => own_u8 c ++ own_u8s cs
theorem own_len2 {cs : List Int32} (h : cs.length ≤ 2) : cs = [] ∨ (∃ c, cs = [c]) ∨ ∃ c d, cs = [c, d] := by
  match cs, h with
  | [], _ => exact Or.inl rfl
  | [c], _ => exact Or.inr (Or.inl ⟨c, rfl⟩)
  | [c, d], _ => exact Or.inr (Or.inr ⟨c, d, rfl⟩)
  | _ :: _ :: _ :: _, h => simp at h
theorem own_l256 {c : Int32} (h0 : ¬ c < 0) (h1 : ¬ (255 : Int32) < c) : ∃ k : Fin 256, c = Int32.ofNat k.val := by
  rw [Int32.lt_iff_toInt_lt] at h0 h1
  have e0 : (0 : Int32).toInt = 0 := rfl
  have e1 : (255 : Int32).toInt = 255 := rfl
  refine ⟨⟨c.toInt.toNat, by omega⟩, ?_⟩
  apply Int32.toInt_inj.mp
  rw [own_ti (by show c.toInt.toNat < _; omega)]
  show c.toInt = (c.toInt.toNat : Int)
  omega
theorem own_lneg {c : Int32} (h0 : ¬ c < 0) (h1 : ¬ (255 : Int32) < c) : (StrChars.lo8 c < 0 ↔ ¬ c < (128 : Int32)) ∧ (¬ StrChars.lo8 c < 0 → StrChars.lo8 c = c) ∧ c < (2048 : Int32) := by
  have t : ∀ k : Fin 256, (StrChars.lo8 (Int32.ofNat k.val) < 0 ↔ ¬ Int32.ofNat k.val < (128 : Int32)) ∧ (¬ StrChars.lo8 (Int32.ofNat k.val) < 0 → StrChars.lo8 (Int32.ofNat k.val) = Int32.ofNat k.val) ∧ Int32.ofNat k.val < (2048 : Int32) := by decide +kernel
  obtain ⟨k, rfl⟩ := own_l256 h0 h1
  exact t k
theorem own_l128 {c : Int32} (h0 : ¬ c < 0) (h : c < (128 : Int32)) : StrChars.lo8 c = c := by
  have h1 : ¬ (255 : Int32) < c := by
    rw [Int32.lt_iff_toInt_lt] at h ⊢
    have e1 : (255 : Int32).toInt = 255 := rfl
    have e2 : (128 : Int32).toInt = 128 := rfl
    omega
  exact (own_lneg h0 h1).2.1 (fun q => (own_lneg h0 h1).1.mp q h)
theorem own_n8 {c : Int32} (h : StrChars.lo8 c = c) : nar .byte (c.toInt8.toInt32) = c := (own_nb c).trans h
theorem own_n8l {c : Int32} (h : StrChars.lo8 c = c) : nar .byte (StrChars.lo8 c) = c := own_n8 h
theorem own_l63 {c : Int32} (h0 : ¬ c < 0) (h1 : ¬ (255 : Int32) < c) : StrChars.lo8 c &&& (63 : Int32) = c &&& (63 : Int32) := by
  have t : ∀ k : Fin 256, StrChars.lo8 (Int32.ofNat k.val) &&& (63 : Int32) = Int32.ofNat k.val &&& (63 : Int32) := by decide +kernel
  obtain ⟨k, rfl⟩ := own_l256 h0 h1
  exact t k
def own_sur (c : Int32) : Int32 := if c < (55296 : Int32) then 0 else if c < (57344 : Int32) then 1 else 0
theorem own_sur0 {c : Int32} (h : c < (55296 : Int32) ∨ (57343 : Int32) < c) : own_sur c = 0 := by
  unfold own_sur
  by_cases q : c < (55296 : Int32)
  · rw [if_pos q]
  · rw [if_neg q]
    rcases h with h | h
    · exact absurd h q
    · rw [if_neg (fun z => by rw [Int32.lt_iff_toInt_lt] at h z; have e1 : (57343 : Int32).toInt = 57343 := rfl; have e2 : (57344 : Int32).toInt = 57344 := rfl; omega)]
def own_cx (c : Int32) : Int32 := if c < (0 : Int32) then 0 else if (255 : Int32) < c then 0 else 1
theorem own_cxy {c : Int32} (h : ¬ own_cx c = 0) : ¬ c < 0 ∧ ¬ (255 : Int32) < c := by
  unfold own_cx at h
  by_cases q : c < (0 : Int32)
  · rw [if_pos q] at h; exact absurd rfl h
  · rw [if_neg q] at h
    by_cases r : (255 : Int32) < c
    · rw [if_pos r] at h; exact absurd rfl h
    · exact ⟨q, r⟩
theorem own_cxn {c : Int32} {cs : List Int32} (h : own_cx c = 0) (ho : own_Ok cs) (ha : ∀ d ∈ cs, ¬ (255 : Int32) < d) : ¬ c ∈ cs := fun m => by
  unfold own_cx at h
  rw [if_neg (ho.1 c m).1, if_neg (ha c m)] at h
  exact absurd h (by decide)
def own_uP (M : Nat) (bs : List Int32) : List Value := bs.map Value.int ++ own_z (M - bs.length)
theorem own_uPl {M : Nat} {bs : List Int32} (h : bs.length ≤ M) : (own_uP M bs).length = M := by unfold own_uP; rw [List.length_append, List.length_map, own_zl]; omega
theorem own_uP0 (M : Nat) : own_uP M [] = List.replicate M (.int (0 : Int32)) := rfl
theorem own_apU {M : Nat} {bs : List Int32} {x : Int32} (h : bs.length < M) : (own_uP M bs).set bs.length (.int x) = own_uP M (bs ++ [x]) := by
  unfold own_uP
  have e : M - bs.length = (M - (bs ++ [x]).length) + 1 := by rw [List.length_append]; simp; omega
  rw [List.set_append_right _ _ (by rw [List.length_map]; exact Nat.le_refl _), List.length_map, Nat.sub_self, e, own_zs, List.set_cons_zero, List.map_append, List.append_assoc]
  rfl
theorem own_takeU {M : Nat} {bs : List Int32} : bs.map Value.int = (List.range bs.length).map (fun i => (own_uP M bs).getD (0 + i) (.int (0 : Int32))) := by
  apply List.ext_getElem
  · rw [List.length_map, List.length_map, List.length_range]
  · intro i h1 h2
    rw [List.getElem_map, List.getElem_map, List.getElem_range, Nat.zero_add]
    unfold own_uP
    have h3 : i < bs.length := by rw [List.length_map] at h1; exact h1
    rw [List.getD_eq_getElem?_getD, List.getElem?_append_left h1, List.getElem?_eq_getElem h1, List.getElem_map]; rfl
theorem own_mul3 (n : Nat) : Int32.ofNat n * (3 : Int32) = Int32.ofNat (n * 3) := (Int32.ofNat_mul n 3).symm
theorem own_u8A (as bs : List Int32) : own_u8s (as ++ bs) = own_u8s as ++ own_u8s bs := by
  induction as with
  | nil => rfl
  | cons a as ih => show own_u8 a ++ own_u8s (as ++ bs) = (own_u8 a ++ own_u8s as) ++ own_u8s bs; rw [ih, List.append_assoc]
theorem own_u8t {cs : List Int32} {i : Nat} (hi : i < cs.length) : own_u8s (cs.take (i + 1)) = own_u8s (cs.take i) ++ own_u8 (cs.getD i 0) := by
  have e : cs.take (i + 1) = cs.take i ++ [cs.getD i 0] := by rw [List.take_succ_eq_append_getElem hi]; simp [List.getD_eq_getElem?_getD, hi]
  rw [e, own_u8A]; show _ ++ (own_u8 _ ++ []) = _; rw [List.append_nil]
theorem own_u8n {cs : List Int32} : own_u8s (cs.take cs.length) = own_u8s cs := by rw [List.take_length]
theorem own_u8l (c : Int32) : (own_u8 c).length ≤ 3 := by
  unfold own_u8; split
  · exact Nat.le_of_ble_eq_true rfl
  split <;> exact Nat.le_of_ble_eq_true rfl
theorem own_u8l3 : ∀ cs : List Int32, (own_u8s cs).length ≤ 3 * cs.length
  | [] => Nat.le_refl _
  | c :: cs => by
    show (own_u8 c ++ own_u8s cs).length ≤ _
    rw [List.length_append]
    have h1 := own_u8l c
    have h2 := own_u8l3 cs
    show _ ≤ 3 * (cs.length + 1)
    omega
theorem own_u8l2 : ∀ cs : List Int32, (∀ c ∈ cs, ¬ c < 0 ∧ ¬ (65535 : Int32) < c) → (∀ c ∈ cs, ¬ (255 : Int32) < c) → (own_u8s cs).length ≤ 2 * cs.length
  | [], _, _ => Nat.le_refl _
  | c :: cs, h, q => by
    show (own_u8 c ++ own_u8s cs).length ≤ _
    rw [List.length_append]
    have h2 := own_u8l2 cs (fun d hd => h d (List.mem_cons_of_mem _ hd)) (fun d hd => q d (List.mem_cons_of_mem _ hd))
    have h1 : (own_u8 c).length ≤ 2 := by
      unfold own_u8; split
      · exact Nat.le_of_ble_eq_true rfl
      · rw [if_pos (own_lneg (h c List.mem_cons_self).1 (q c List.mem_cons_self)).2.2]; exact Nat.le_refl _
    show _ ≤ 2 * (cs.length + 1)
    omega
theorem own_tkl {cs : List Int32} {i : Nat} (h : i ≤ cs.length) : (cs.take i).length = i := by rw [List.length_take]; omega
theorem own_u8same {cs : List Int32} (h : ∀ c ∈ cs, ¬ c < 0 ∧ ¬ (65535 : Int32) < c) (q : ∀ c ∈ cs, ¬ (255 : Int32) < c) (p : ∀ c ∈ cs, ¬ StrChars.lo8 c < 0) : own_u8s cs = cs ∧ own_lat cs = cs.map Value.int := by
  induction cs with
  | nil => exact ⟨rfl, rfl⟩
  | cons c cs ih =>
    have k := own_lneg (h c List.mem_cons_self).1 (q c List.mem_cons_self)
    have r := ih (fun d hd => h d (List.mem_cons_of_mem _ hd)) (fun d hd => q d (List.mem_cons_of_mem _ hd)) (fun d hd => p d (List.mem_cons_of_mem _ hd))
    have g8 : c < (128 : Int32) := Decidable.byContradiction fun z => p c List.mem_cons_self (k.1.mpr z)
    constructor
    · show own_u8 c ++ own_u8s cs = _
      unfold own_u8; rw [if_pos g8, r.1]; rfl
    · show Value.int (StrChars.lo8 c) :: own_lat cs = _
      rw [r.2, k.2.1 (p c List.mem_cons_self)]; rfl
abbrev k43_23 := jdk_43_method_23_code
theorem d43_23_0:Dk k43_23 0 (.iload_n 1) 1:=kk
theorem d43_23_1:Dk k43_23 1 (.i2b) 1:=kk
theorem d43_23_2:Dk k43_23 2 (.istore 4) 2:=kk
theorem d43_23_4:Dk k43_23 4 (.iload_n 2) 1:=kk
theorem d43_23_5:Dk k43_23 5 (.istore 5) 2:=kk
theorem d43_23_7:Dk k43_23 7 (.iload 5) 2:=kk
theorem d43_23_9:Dk k43_23 9 (.iload_n 3) 1:=kk
theorem d43_23_10:Dk k43_23 10 (.if_icmp .ge 21) 3:=kk
theorem d43_23_31:Dk k43_23 31 (.iconst (-1)) 1:=kk
theorem d43_23_32:Dk k43_23 32 (.ireturn) 1:=kk
theorem d43_23_13:Dk k43_23 13 (.aload_n 0) 1:=kk
theorem d43_23_14:Dk k43_23 14 (.iload 5) 2:=kk
theorem d43_23_16:Dk k43_23 16 (.baload) 1:=kk
theorem d43_23_17:Dk k43_23 17 (.iload 4) 2:=kk
theorem d43_23_19:Dk k43_23 19 (.if_icmp .ne 6) 3:=kk
theorem d43_23_22:Dk k43_23 22 (.iload 5) 2:=kk
theorem d43_23_24:Dk k43_23 24 (.ireturn) 1:=kk
theorem d43_23_25:Dk k43_23 25 (.iinc 5 1) 3:=kk
theorem d43_23_28:Dk k43_23 28 (.goto (-21)) 3:=kk
set_option maxRecDepth 65536 in
set_option maxHeartbeats 40000000 in
theorem rm_lic (l : Launch) (Z : State) (a0 : Array Value) (hw : ∀ d ∈ tables_1, d.before a0 Z = true) (ws : List Jvm.Cond) (t : Addr) (k : ClassId) (cs : List Int32) (ch : Int32) (h0 : Heap) (n0 : Nat) (O0 : Old Z n0 h0) (V_t : Arv Z h0 t k .byte (Int32.ofNat cs.length) (own_lat cs) (.int (0 : Int32))) (hok : own_Ok cs) (ha : ∀ c ∈ cs, ¬ (255 : Int32) < c) (hc0 : ¬ ch < 0) (hc1 : ¬ (255 : Int32) < ch) :
    own_TN l Z ws h0 (⟨"java/lang/StringLatin1", "indexOfChar", "([BIII)I"⟩ : MethodName) jdk_43_method_23_code 6 (some .int) ⟨0, 0, 0, 0⟩ #[(.ref t), (.int ch), (.int (0 : Int32)), (.int (Int32.ofNat cs.length))] (QIx cs ch h0 n0) 0 0 := by
  refine own_bN "java/lang/StringLatin1" #[rv t, iv ch, iv (0 : Int32), iv (Int32.ofNat cs.length), .unset, .unset] (pf pn_4 rfl) rfl O0 (fun m => own_e) ?_
  intro p e s m below meth cC s₁ hZ hh hx hby hml hown hnm hrt hlk X0 e0 N0 Z0
  have hlen : cs.length ≤ 4000 := hok.2
  refine wl X0 hx hby 0 d43_23_0 rfl ?_
  refine og (fun _ k => XS.i2b X0.here hx rfl (hb hby d43_23_1) rfl k) ?_
  refine wz X0 hx hby 2 #[rv t, iv ch, iv (0 : Int32), iv (Int32.ofNat cs.length), iv (ch.toInt8.toInt32), .unset] d43_23_2 rfl ?_
  refine wl X0 hx hby 4 d43_23_4 rfl ?_
  try dsimp only [mkF]
  refine wz X0 hx hby 5 #[rv t, iv ch, iv (0 : Int32), iv (Int32.ofNat cs.length), iv (ch.toInt8.toInt32), iv (0 : Int32)] d43_23_5 rfl ?_
  have loop : ∀ (kT iloop : Nat) (T : State) (locs : List Loc) (h : Heap), iloop + kT = cs.length → Stand p l e ⟨0, 0, 0, 0⟩ s m #[(.ref t), (.int ch), (.int (0 : Int32)), (.int (Int32.ofNat cs.length))] below meth cC T locs 0 0 → T.heap = h → Fr n0 locs → Old Z n0 h → Keep h0 h [] → Arv Z h t k .byte (Int32.ofNat cs.length) (own_lat cs) (.int (0 : Int32)) → (∀ j, j < iloop → ¬ cs.getD j 0 = ch) → (h = h0) → own_Go p e below (T.setTop (mkF m 7 #[rv t, iv ch, iv (0 : Int32), iv (Int32.ofNat cs.length), iv (ch.toInt8.toInt32), iv (Int32.ofNat iloop)] [])) (fun oO U' => ∃ rV rL, oO = .returned rV ∧ QIx cs ch h0 n0 rV U'.heap rL ∧ FrameEnd s oO U' rL 0 0) := by
    intro kT
    induction kT with
    | zero =>
      intro iloop T259 L259 h259 hik X259 e259 N259 O259 K259 J0_259 hall hhe
      have Z0_259 : n0 ≤ h259.size := O259.1 ▸ O259.2.1
      have hin : iloop = cs.length := by omega
      have hlt : ¬ ((Int32.ofNat iloop) < (Int32.ofNat cs.length)) := by rw [own_lti (by omega) (by omega)]; omega
      refine wm X259 hx hby 7 d43_23_7 rfl ?_
      refine wl X259 hx hby 9 d43_23_9 rfl ?_
      refine wy X259 hx hby 10 31 d43_23_10 (flt hlt).2.1 ?_
      try dsimp only [mkF]
      refine wc X259 hx hby 31 d43_23_31 ?_
      refine own_fin (v := (some (.int (-1 : Int32)))) X259 (fun h => by rw [hrt] at h; cases h) hlk (fun fs hr => retI X259 hx hrt (hb hby d43_23_32) hr) (QQ := QIx cs ch h0 n0) ?_ (by decide) (by decide)
      rw [e259]
      exact ⟨_, rfl, N259, hhe, Or.inr ⟨by decide, own_nomem (fun j hj => hall j (by omega))⟩⟩
    | succ kT ih =>
      intro iloop T260 L260 h260 hik X260 e260 N260 O260 K260 J0_260 hall hhe
      have Z0_260 : n0 ≤ h260.size := O260.1 ▸ O260.2.1
      have hi : iloop < cs.length := by omega
      have hlt : (Int32.ofNat iloop) < (Int32.ofNat cs.length) := (own_lti (by omega) (by omega)).mpr hi
      refine wm X260 hx hby 7 d43_23_7 rfl ?_
      refine wl X260 hx hby 9 d43_23_9 rfl ?_
      refine wn X260 hx hby 10 d43_23_10 (tlt hlt).2.1 ?_
      try dsimp only [mkF]
      refine wa X260 hx hby 13 d43_23_13 rfl rfl ?_
      refine wm X260 hx hby 14 d43_23_14 rfl ?_
      obtain ⟨c261, A261, q261, S261, M261, Hs261, Gs261⟩ := id J0_260
      have hi261 := inb_of (j := (Int32.ofNat iloop)) S261 (own_inb hi (by omega))
      refine og (fun _ k => X260.baloadBytes hx (j := (Int32.ofNat iloop)) (v := (.int (StrChars.lo8 (cs.getD iloop 0)))) (by rw [e260]; exact A261.1) (State.isArrayOf_alike hZ.alike A261.2.1) A261.2.2 hi261 (Has.at Hs261 hi261 (own_lgd hi hlen)) (g := (mkF m 16 #[rv t, iv ch, iv (0 : Int32), iv (Int32.ofNat cs.length), iv (ch.toInt8.toInt32), iv (Int32.ofNat iloop)] [(.int (Int32.ofNat iloop)), (.ref t)])) rfl rfl (hb hby d43_23_16) _ k) ?_
      refine wm X260 hx hby 17 d43_23_17 rfl ?_
      by_cases hc262 : (StrChars.lo8 (cs.getD iloop 0)) = (ch.toInt8.toInt32)
      · skip
        refine wn X260 hx hby 19 d43_23_19 (teq hc262).2 ?_
        try dsimp only [mkF]
        refine wm X260 hx hby 22 d43_23_22 rfl ?_
        refine own_fin (v := (some (.int (Int32.ofNat iloop)))) X260 (fun h => by rw [hrt] at h; cases h) hlk (fun fs hr => retI X260 hx hrt (hb hby d43_23_24) hr) (QQ := QIx cs ch h0 n0) ?_ (by decide) (by decide)
        rw [e260]
        exact ⟨_, rfl, N260, hhe, Or.inl ⟨own_nn0 (by omega), own_mem_of hi (own_loinj (hok.at hi).1 (ha _ (own_getm hi)) hc0 hc1 hc262)⟩⟩
      · skip
        refine wy X260 hx hby 19 25 d43_23_19 (feq hc262).2 ?_
        try dsimp only [mkF]
        refine wi X260 hx hby 25 #[rv t, iv ch, iv (0 : Int32), iv (Int32.ofNat cs.length), iv (ch.toInt8.toInt32), iv ((Int32.ofNat iloop) + (1 : Int32))] d43_23_25 rfl rfl ?_
        refine wg X260 hx hby 28 7 d43_23_28 ?_
        show own_Go p e below (T260.setTop (mkF m 7 #[rv t, iv ch, iv (0 : Int32), iv (Int32.ofNat cs.length), iv (ch.toInt8.toInt32), iv ((Int32.ofNat iloop) + (1 : Int32))] [])) _
        rw [own_inc]
        exact ih (iloop + 1) T260 _ h260 (by omega) X260 e260 N260 O260 K260 J0_260 (fun j hj => (Nat.lt_succ_iff_lt_or_eq.mp hj).elim (fun q => hall j q) (fun q z => hc262 (congrArg StrChars.lo8 (q ▸ z)))) hhe
  exact loop (cs.length) 0 s₁ _ h0 (by omega) X0 e0 N0 O0 (Keep.refl h0 []) V_t (fun j hj => absurd hj (Nat.not_lt_zero _)) rfl

abbrev k43_4 := jdk_43_method_4_code
theorem d43_4_0:Dk k43_4 0 (.iload_n 0) 1:=kk
theorem d43_4_1:Dk k43_4 1 (.ifCond .lt 14) 3:=kk
theorem d43_4_15:Dk k43_4 15 (.iconst 0) 1:=kk
theorem d43_4_16:Dk k43_4 16 (.ireturn) 1:=kk
theorem d43_4_4:Dk k43_4 4 (.iload_n 0) 1:=kk
theorem d43_4_5:Dk k43_4 5 (.sipush 255) 3:=kk
theorem d43_4_8:Dk k43_4 8 (.if_icmp .gt 7) 3:=kk
theorem d43_4_11:Dk k43_4 11 (.iconst 1) 1:=kk
theorem d43_4_12:Dk k43_4 12 (.goto 4) 3:=kk
set_option maxRecDepth 65536 in
set_option maxHeartbeats 40000000 in
theorem rm_cei (l : Launch) (Z : State) (a0 : Array Value) (hw : ∀ d ∈ tables_1, d.before a0 Z = true) (ws : List Jvm.Cond) (c : Int32) (h0 : Heap) (n0 : Nat) (O0 : Old Z n0 h0) :
    own_TN l Z ws h0 (⟨"java/lang/StringLatin1", "canEncode", "(I)Z"⟩ : MethodName) jdk_43_method_4_code 1 (some .boolean) ⟨0, 0, 0, 0⟩ #[(.int c)] (QPure (some (.int (own_cx c))) h0 n0) 0 0 := by
  refine own_bN "java/lang/StringLatin1" #[iv c] (pf pn_4 rfl) rfl O0 (fun m => own_e) ?_
  intro p e s m below meth cC s₁ hZ hh hx hby hml hown hnm hrt hlk X0 e0 N0 Z0
  refine wl X0 hx hby 0 d43_4_0 rfl ?_
  by_cases hc263 : c < (0 : Int32)
  · skip
    refine wf X0 hx hby 1 15 d43_4_1 ((if0 _ _).trans (tlt hc263).1) ?_
    refine wc X0 hx hby 15 d43_4_15 ?_
    refine own_fin (v := (some (.int (nar .boolean (0 : Int32))))) X0 (fun h => by rw [hrt] at h; cases h) hlk (fun fs hr => retN X0 hx (t := .boolean) hrt (by simp) (hb hby d43_4_16) hr) (QQ := QPure (some (.int (own_cx c))) h0 n0) ?_ (by decide) (by decide)
    rw [e0]
    exact ⟨by unfold own_cx; rw [if_pos hc263] <;> rfl, N0, rfl⟩
  · skip
    refine we X0 hx hby 1 d43_4_1 ((if0 _ _).trans (flt hc263).1) ?_
    refine wl X0 hx hby 4 d43_4_4 rfl ?_
    refine og (fun _ k => XS.sipush X0.here hx rfl (hb hby d43_4_5) k) ?_
    try dsimp only [mkF]
    by_cases hc264 : (255 : Int32) < c
    · skip
      refine wy X0 hx hby 8 15 d43_4_8 (tlt hc264).2.2.1 ?_
      refine wc X0 hx hby 15 d43_4_15 ?_
      refine own_fin (v := (some (.int (nar .boolean (0 : Int32))))) X0 (fun h => by rw [hrt] at h; cases h) hlk (fun fs hr => retN X0 hx (t := .boolean) hrt (by simp) (hb hby d43_4_16) hr) (QQ := QPure (some (.int (own_cx c))) h0 n0) ?_ (by decide) (by decide)
      rw [e0]
      exact ⟨by unfold own_cx; rw [if_neg hc263, if_pos hc264] <;> rfl, N0, rfl⟩
    · skip
      refine wn X0 hx hby 8 d43_4_8 (flt hc264).2.2.1 ?_
      refine wc X0 hx hby 11 d43_4_11 ?_
      refine wg X0 hx hby 12 16 d43_4_12 ?_
      refine own_fin (v := (some (.int (nar .boolean (1 : Int32))))) X0 (fun h => by rw [hrt] at h; cases h) hlk (fun fs hr => retN X0 hx (t := .boolean) hrt (by simp) (hb hby d43_4_16) hr) (QQ := QPure (some (.int (own_cx c))) h0 n0) ?_ (by decide) (by decide)
      rw [e0]
      exact ⟨by unfold own_cx; rw [if_neg hc263, if_neg hc264] <;> rfl, N0, rfl⟩

abbrev k43_22 := jdk_43_method_22_code
theorem d43_22_0:Dk k43_22 0 (.iload_n 1) 1:=kk
theorem d43_22_1:Dk k43_22 1 (.invokestatic 88) 3:=kk
theorem d43_22_4:Dk k43_22 4 (.ifCond .ne 5) 3:=kk
theorem d43_22_7:Dk k43_22 7 (.iconst (-1)) 1:=kk
theorem d43_22_8:Dk k43_22 8 (.ireturn) 1:=kk
theorem d43_22_9:Dk k43_22 9 (.iload_n 2) 1:=kk
theorem d43_22_10:Dk k43_22 10 (.iconst 0) 1:=kk
theorem d43_22_11:Dk k43_22 11 (.invokestatic 92) 3:=kk
theorem d43_22_14:Dk k43_22 14 (.istore_n 2) 1:=kk
theorem d43_22_15:Dk k43_22 15 (.iload_n 3) 1:=kk
theorem d43_22_16:Dk k43_22 16 (.aload_n 0) 1:=kk
theorem d43_22_17:Dk k43_22 17 (.arraylength) 1:=kk
theorem d43_22_18:Dk k43_22 18 (.invokestatic 38) 3:=kk
theorem d43_22_21:Dk k43_22 21 (.istore_n 3) 1:=kk
theorem d43_22_22:Dk k43_22 22 (.iload_n 2) 1:=kk
theorem d43_22_23:Dk k43_22 23 (.iload_n 3) 1:=kk
theorem d43_22_24:Dk k43_22 24 (.if_icmp .lt 5) 3:=kk
theorem d43_22_29:Dk k43_22 29 (.aload_n 0) 1:=kk
theorem d43_22_30:Dk k43_22 30 (.iload_n 1) 1:=kk
theorem d43_22_31:Dk k43_22 31 (.iload_n 2) 1:=kk
theorem d43_22_32:Dk k43_22 32 (.iload_n 3) 1:=kk
theorem d43_22_33:Dk k43_22 33 (.invokestatic 95) 3:=kk
theorem pd_23 : parseMethodDescriptor "([BIII)I" = some ⟨[(.array .byte), .int, .int, .int], some .int⟩ := by decide +kernel
theorem d43_22_36:Dk k43_22 36 (.ireturn) 1:=kk
theorem d43_22_27:Dk k43_22 27 (.iconst (-1)) 1:=kk
theorem d43_22_28:Dk k43_22 28 (.ireturn) 1:=kk
set_option maxRecDepth 65536 in
set_option maxHeartbeats 40000000 in
theorem rm_lia (l : Launch) (Z : State) (a0 : Array Value) (hw : ∀ d ∈ tables_1, d.before a0 Z = true) (ws : List Jvm.Cond) (t : Addr) (k : ClassId) (cs : List Int32) (ch : Int32) (h0 : Heap) (n0 : Nat) (O0 : Old Z n0 h0) (V_t : Arv Z h0 t k .byte (Int32.ofNat cs.length) (own_lat cs) (.int (0 : Int32))) (hok : own_Ok cs) (ha : ∀ c ∈ cs, ¬ (255 : Int32) < c) :
    own_TN l Z ws h0 (⟨"java/lang/StringLatin1", "indexOf", "([BIII)I"⟩ : MethodName) jdk_43_method_22_code 4 (some .int) ⟨1, 0, 0, 17⟩ #[(.ref t), (.int ch), (.int (0 : Int32)), (.int (Int32.ofNat cs.length))] (QIx cs ch h0 n0) 0 0 := by
  refine own_bN "java/lang/StringLatin1" #[rv t, iv ch, iv (0 : Int32), iv (Int32.ofNat cs.length)] (pf pn_4 rfl) rfl O0 (fun m => own_e) ?_
  intro p e s m below meth cC s₁ hZ hh hx hby hml hown hnm hrt hlk X0 e0 N0 Z0
  have hlen : cs.length ≤ 4000 := hok.2
  refine wl X0 hx hby 0 d43_22_0 rfl ?_
  obtain ⟨v265, _, ⟨T265, L265, k265, n265⟩, -, X265, ⟨Lc265, hQ265, l265, y265, z265⟩, st265⟩ := Jvm.LawKit.callS X0 hx (y := (⟨"java/lang/StringLatin1", "canEncode", "(I)Z"⟩ : MethodName)) hown (mvT hZ (tw hw 205 rfl)) (mvT hZ (tw hw 206 rfl)) (mvT hZ (tw hw 121 rfl)) (mvT hZ (tw hw 207 rfl)) (by decide) (backOf (W := 0) (rm_cei l Z a0 hw [] ch h0 n0 O0 ) hZ (tw hw 207 rfl) (tw hw 121 rfl) (by decide) (by decide)) (g := (mkF m 1 #[rv t, iv ch, iv (0 : Int32), iv (Int32.ofNat cs.length)] [(.int ch)])) rfl (by rw [hml]; rfl) (argsL := [(.int ch)]) (rest := []) (lenOf pd_7 rfl) rfl (by show 2 * 0 + _ ≤ _; exact Nat.le_of_eq rfl) (hb hby d43_22_1) (fun _ _ => ⟨rfl, e0, (by decide : 0 + 0 ≤ _), (by decide : 0 + 0 ≤ _)⟩)
  dsimp only [Pt.U, Pt.locs, Pt.cells, Pt.slots] at X265 l265 y265 z265 st265 hQ265
  subst l265 y265 z265
  refine own_go st265 ?_
  obtain ⟨rfl, Nq265, e265⟩ := hQ265
  have N265 := Fr.app N0 Nq265
  by_cases hc266 : (own_cx ch) = (0 : Int32)
  · skip
    refine we X265 hx hby 4 d43_22_4 ((if0 _ _).trans (teq hc266).2) ?_
    refine wc X265 hx hby 7 d43_22_7 ?_
    try dsimp only [mkF]
    refine own_fin (v := (some (.int (-1 : Int32)))) X265 (fun h => by rw [hrt] at h; cases h) hlk (fun fs hr => retI X265 hx hrt (hb hby d43_22_8) hr) (QQ := QIx cs ch h0 n0) ?_ (by decide) (by decide)
    rw [e265]
    exact ⟨_, rfl, N265, rfl, Or.inr ⟨by decide, own_cxn hc266 hok ha⟩⟩
  · skip
    refine wf X265 hx hby 4 9 d43_22_4 ((if0 _ _).trans (feq hc266).2) ?_
    refine wl X265 hx hby 9 d43_22_9 rfl ?_
    try dsimp only [mkF]
    refine wc X265 hx hby 10 d43_22_10 ?_
    obtain ⟨v267, _, ⟨T267, L267, k267, n267⟩, -, X267, ⟨Lc267, hQ267, l267, y267, z267⟩, st267⟩ := Jvm.LawKit.callS X265 hx (y := (⟨"java/lang/Math", "max", "(II)I"⟩ : MethodName)) hown (mvT hZ (tw hw 287 rfl)) (mvT hZ (tw hw 279 rfl)) (mvT hZ (tw hw 99 rfl)) (mvT hZ (tw hw 280 rfl)) (by decide) (backOf (W := 0) (rm_max l Z a0 hw [] (0 : Int32) (0 : Int32) (0 : Int32) h0 n0 O0 (by decide)) hZ (tw hw 280 rfl) (tw hw 99 rfl) (by decide) (by decide)) (g := (mkF m 11 #[rv t, iv ch, iv (0 : Int32), iv (Int32.ofNat cs.length)] [(.int (0 : Int32)), (.int (0 : Int32))])) rfl (by rw [hml]; rfl) (argsL := [(.int (0 : Int32)), (.int (0 : Int32))]) (rest := []) (lenOf pd_11 rfl) rfl (by show 2 * 0 + _ ≤ _; exact Nat.le_of_eq rfl) (hb hby d43_22_11) (fun _ _ => ⟨rfl, e265, (by decide : 0 + 0 ≤ _), (by decide : 0 + 0 ≤ _)⟩)
    dsimp only [Pt.U, Pt.locs, Pt.cells, Pt.slots] at X267 l267 y267 z267 st267 hQ267
    subst l267 y267 z267
    refine own_go st267 ?_
    obtain ⟨rfl, Nq267, e267⟩ := hQ267
    have N267 := Fr.app N265 Nq267
    refine wt X267 hx hby 14 #[rv t, iv ch, iv (0 : Int32), iv (Int32.ofNat cs.length)] d43_22_14 rfl ?_
    refine wl X267 hx hby 15 d43_22_15 rfl ?_
    refine wa X267 hx hby 16 d43_22_16 rfl rfl ?_
    try dsimp only [mkF]
    obtain ⟨c268, A268, q268, S268, M268, Hs268, Gs268⟩ := id V_t
    refine og (fun _ k => X267.arraylength hx (by rw [e267]; exact A268.1) (State.isArrayOf_alike hZ.alike A268.2.1) (g := (mkF m 17 #[rv t, iv ch, iv (0 : Int32), iv (Int32.ofNat cs.length)] [(.ref t), (.int (Int32.ofNat cs.length))])) rfl rfl (hb hby d43_22_17) _ k) ?_
    rw [len_of S268 M268]
    obtain ⟨v269, _, ⟨T269, L269, k269, n269⟩, -, X269, ⟨Lc269, hQ269, l269, y269, z269⟩, st269⟩ := Jvm.LawKit.callS X267 hx (y := (⟨"java/lang/Math", "min", "(II)I"⟩ : MethodName)) hown (mvT hZ (tw hw 288 rfl)) (mvT hZ (tw hw 98 rfl)) (mvT hZ (tw hw 99 rfl)) (mvT hZ (tw hw 100 rfl)) (by decide) (backOf (W := 0) (rm_min l Z a0 hw [] (Int32.ofNat cs.length) (Int32.ofNat cs.length) (Int32.ofNat cs.length) h0 n0 O0 (own_minself _)) hZ (tw hw 100 rfl) (tw hw 99 rfl) (by decide) (by decide)) (g := (mkF m 18 #[rv t, iv ch, iv (0 : Int32), iv (Int32.ofNat cs.length)] [(.int (Int32.ofNat cs.length)), (.int (Int32.ofNat cs.length))])) rfl (by rw [hml]; rfl) (argsL := [(.int (Int32.ofNat cs.length)), (.int (Int32.ofNat cs.length))]) (rest := []) (lenOf pd_11 rfl) rfl (by show 2 * 0 + _ ≤ _; exact Nat.le_of_eq rfl) (hb hby d43_22_18) (fun _ _ => ⟨rfl, e267, (by decide : 0 + 0 ≤ _), (by decide : 0 + 0 ≤ _)⟩)
    dsimp only [Pt.U, Pt.locs, Pt.cells, Pt.slots] at X269 l269 y269 z269 st269 hQ269
    subst l269 y269 z269
    refine own_go st269 ?_
    obtain ⟨rfl, Nq269, e269⟩ := hQ269
    have N269 := Fr.app N267 Nq269
    refine wt X269 hx hby 21 #[rv t, iv ch, iv (0 : Int32), iv (Int32.ofNat cs.length)] d43_22_21 rfl ?_
    refine wl X269 hx hby 22 d43_22_22 rfl ?_
    refine wl X269 hx hby 23 d43_22_23 rfl ?_
    try dsimp only [mkF]
    by_cases hc270 : (0 : Int32) < (Int32.ofNat cs.length)
    · skip
      refine wy X269 hx hby 24 29 d43_22_24 (tlt hc270).1 ?_
      obtain ⟨hc0, hc1⟩ := own_cxy hc266
      refine wa X269 hx hby 29 d43_22_29 rfl rfl ?_
      refine wl X269 hx hby 30 d43_22_30 rfl ?_
      refine wl X269 hx hby 31 d43_22_31 rfl ?_
      refine wl X269 hx hby 32 d43_22_32 rfl ?_
      try dsimp only [mkF]
      obtain ⟨v271, _, ⟨T271, L271, k271, n271⟩, -, X271, ⟨Lc271, hQ271, l271, y271, z271⟩, st271⟩ := Jvm.LawKit.callS X269 hx (y := (⟨"java/lang/StringLatin1", "indexOfChar", "([BIII)I"⟩ : MethodName)) hown (mvT hZ (tw hw 289 rfl)) (mvT hZ (tw hw 290 rfl)) (mvT hZ (tw hw 121 rfl)) (mvT hZ (tw hw 291 rfl)) (by decide) (backOf (W := 0) (rm_lic l Z a0 hw [] t k cs ch h0 n0 O0 V_t hok ha hc0 hc1) hZ (tw hw 291 rfl) (tw hw 121 rfl) (by decide) (by decide)) (g := (mkF m 33 #[rv t, iv ch, iv (0 : Int32), iv (Int32.ofNat cs.length)] [(.int (Int32.ofNat cs.length)), (.int (0 : Int32)), (.int ch), (.ref t)])) rfl (by rw [hml]; rfl) (argsL := [(.ref t), (.int ch), (.int (0 : Int32)), (.int (Int32.ofNat cs.length))]) (rest := []) (lenOf pd_23 rfl) rfl (by show 2 * 0 + _ ≤ _; exact Nat.le_of_eq rfl) (hb hby d43_22_33) (fun _ _ => ⟨rfl, e269, (by decide : 0 + 0 ≤ _), (by decide : 0 + 0 ≤ _)⟩)
      dsimp only [Pt.U, Pt.locs, Pt.cells, Pt.slots] at X271 l271 y271 z271 st271 hQ271
      subst l271 y271 z271
      refine own_go st271 ?_
      obtain ⟨r271, rfl, Nq271, e271, hr271⟩ := hQ271
      have N271 := Fr.app N269 Nq271
      refine own_fin (v := (some (.int r271))) X271 (fun h => by rw [hrt] at h; cases h) hlk (fun fs hr => retI X271 hx hrt (hb hby d43_22_36) hr) (QQ := QIx cs ch h0 n0) ?_ (by decide) (by decide)
      rw [e271]
      exact ⟨_, rfl, N271, rfl, hr271⟩
    · skip
      refine wn X269 hx hby 24 d43_22_24 (flt hc270).1 ?_
      refine wc X269 hx hby 27 d43_22_27 ?_
      refine own_fin (v := (some (.int (-1 : Int32)))) X269 (fun h => by rw [hrt] at h; cases h) hlk (fun fs hr => retI X269 hx hrt (hb hby d43_22_28) hr) (QQ := QIx cs ch h0 n0) ?_ (by decide) (by decide)
      rw [e269]
      exact ⟨_, rfl, N269, rfl, Or.inr ⟨by decide, own_empty hc270 hlen⟩⟩

abbrev k42_80 := jdk_42_method_80_code
theorem d42_80_0:Dk k42_80 0 (.aload_n 0) 1:=kk
theorem d42_80_1:Dk k42_80 1 (.invokevirtual 492) 3:=kk
theorem d42_80_4:Dk k42_80 4 (.ifCond .eq 19) 3:=kk
theorem d42_80_7:Dk k42_80 7 (.aload_n 0) 1:=kk
theorem d42_80_8:Dk k42_80 8 (.getfield 9) 3:=kk
theorem d42_80_11:Dk k42_80 11 (.iload_n 1) 1:=kk
theorem d42_80_12:Dk k42_80 12 (.iload_n 2) 1:=kk
theorem d42_80_13:Dk k42_80 13 (.aload_n 0) 1:=kk
theorem d42_80_14:Dk k42_80 14 (.invokevirtual 505) 3:=kk
theorem d42_80_17:Dk k42_80 17 (.invokestatic 637) 3:=kk
theorem d42_80_20:Dk k42_80 20 (.goto 16) 3:=kk
theorem d42_80_36:Dk k42_80 36 (.ireturn) 1:=kk
set_option maxRecDepth 65536 in
set_option maxHeartbeats 40000000 in
theorem rm_si2 (l : Launch) (Z : State) (a0 : Array Value) (hw : ∀ d ∈ tables_1, d.before a0 Z = true) (ws : List Jvm.Cond) (x t : Addr) (kt : ClassId) (ts : List Int32) (ch G1 : Int32) (G3 : Value) (h0 : Heap) (n0 : Nat) (O0 : Old Z n0 h0) (O2 : Sta Z Z.heap "java/lang/String" "COMPACT_STRINGS" "Z" (.int G1)) (P5 : ¬ (G1 = (0 : Int32))) (O4 : Sta Z Z.heap "jdk/internal/util/Preconditions" "SIOOBE_FORMATTER" "Ljava/util/function/BiFunction;" G3) (rG3 : G3.isRef = true) (OA : Sta Z Z.heap "java/lang/StringUTF16" "$assertionsDisabled" "Z" (.int (1 : Int32))) (OH : Sta Z Z.heap "java/lang/StringUTF16" "HI_BYTE_SHIFT" "I" (.int (0 : Int32))) (OL : Sta Z Z.heap "java/lang/StringUTF16" "LO_BYTE_SHIFT" "I" (.int (8 : Int32))) (E_x : Exa Z h0 x "java/lang/String") (Fv_x : Fld Z h0 x "java/lang/String" "value" "[B" (.ref t)) (Fc_x : Fld Z h0 x "java/lang/String" "coder" "B" (.int (0 : Int32))) (V_t : Arv Z h0 t kt .byte (Int32.ofNat ts.length) (own_lat ts) (.int (0 : Int32))) (hts : ∀ c ∈ ts, ¬ (255 : Int32) < c) (hot : own_Ok ts) :
    own_TN l Z ws h0 (⟨"java/lang/String", "indexOf", "(II)I"⟩ : MethodName) jdk_42_method_80_code 3 (some .int) ⟨2, 0, 0, 32⟩ #[(.ref x), (.int ch), (.int (0 : Int32))] (QIx ts ch h0 n0) 0 0 := by
  refine own_bN "java/lang/String" #[rv x, iv ch, iv (0 : Int32)] (pf pn_3 rfl) rfl O0 (fun m => own_e) ?_
  intro p e s m below meth cC s₁ hZ hh hx hby hml hown hnm hrt hlk X0 e0 N0 Z0
  refine wa X0 hx hby 0 d42_80_0 rfl rfl ?_
  obtain ⟨cq272, kq272, q272a, q272b, q272c⟩ := isOf hZ e0 E_x
  obtain ⟨v272, _, ⟨T272, L272, k272, n272⟩, -, X272, ⟨Lc272, hQ272, l272, y272, z272⟩, st272⟩ := X0.virtualBack hx (y := (⟨"java/lang/String", "isLatin1", "()Z"⟩ : MethodName)) (z := (⟨"java/lang/String", "isLatin1", "()Z"⟩ : MethodName)) hown (mvT hZ (tw hw 196 rfl)) (mvT hZ (tw hw 197 rfl)) (notFace_of_selects (args := #[]) (mvT hZ (tw hw 199 rfl))) (mvT hZ (tw hw 199 rfl)) (mvT hZ (tw hw 198 rfl)) (by decide) (backOf (W := 0) (rm_lat l Z a0 hw [] x G1 h0 n0 O0 E_x Fc_x O2 P5) hZ (tw hw 200 rfl) (tw hw 11 rfl) (by decide) (by decide)) q272a q272c (g := (mkF m 1 #[rv x, iv ch, iv (0 : Int32)] [(.ref x)])) rfl (by rw [hml]; rfl) (Steps.refl _) (argsL := []) (rest := []) (lenOf pd_4 rfl) rfl (by show 2 * 0 + _ ≤ _; exact Nat.le_of_eq rfl) (hb hby d42_80_1) (fun _ _ => ⟨rfl, e0, (by decide : 0 + 0 ≤ _), (by decide : 0 + 0 ≤ _)⟩)
  dsimp only [Pt.U, Pt.locs, Pt.cells, Pt.slots] at X272 l272 y272 z272 st272 hQ272
  subst l272 y272 z272
  refine own_gos st272 ?_
  obtain ⟨rfl, Nq272, e272⟩ := hQ272
  have N272 := Fr.app N0 Nq272
  refine we X272 hx hby 4 d42_80_4 ((if0 _ _).trans (feq (by decide : ¬ ((1 : Int32) = (0 : Int32)))).1) ?_
  refine wa X272 hx hby 7 d42_80_7 rfl rfl ?_
  try dsimp only [mkF]
  obtain ⟨T273, X273, e273, st273⟩ := getF X272 hx hZ hown (host := "") (Or.inl (tw hw 29 rfl)) Via.refl e272 Fv_x (g := (mkF m 8 #[rv x, iv ch, iv (0 : Int32)] [(.ref x)])) rfl rfl (hb hby d42_80_8)
  refine own_go st273 ?_
  refine wl X273 hx hby 11 d42_80_11 rfl ?_
  refine wl X273 hx hby 12 d42_80_12 rfl ?_
  refine wa X273 hx hby 13 d42_80_13 rfl rfl ?_
  obtain ⟨cq274, kq274, q274a, q274b, q274c⟩ := isOf hZ e273 E_x
  obtain ⟨v274, _, ⟨T274, L274, k274, n274⟩, -, X274, ⟨Lc274, hQ274, l274, y274, z274⟩, st274⟩ := X273.virtualBack hx (y := (⟨"java/lang/String", "length", "()I"⟩ : MethodName)) (z := (⟨"java/lang/String", "length", "()I"⟩ : MethodName)) hown (mvT hZ (tw hw 201 rfl)) (mvT hZ (tw hw 106 rfl)) (notFace_of_selects (args := #[]) (mvT hZ (tw hw 108 rfl))) (mvT hZ (tw hw 108 rfl)) (mvT hZ (tw hw 107 rfl)) (by decide) (StrChars.Road.lenW (W := 3) hZ (own_wLen hw) (kI := 4) (tw hw 10 rfl) E_x Fv_x Fc_x V_t (Or.inl ⟨rfl, rfl, rfl, hts⟩) (hot.1) (O2.ext O0.2) P5 hot.2 (by decide) (by decide)) q274a q274c (g := (mkF m 14 #[rv x, iv ch, iv (0 : Int32)] [(.ref x), (.int (0 : Int32)), (.int ch), (.ref t)])) rfl (by rw [hml]; rfl) (Steps.refl _) (argsL := []) (rest := [(.int (0 : Int32)), (.int ch), (.ref t)]) (lenOf pd_1 rfl) rfl (by show 2 * 0 + _ ≤ _; exact Nat.le_of_eq rfl) (hb hby d42_80_14) (fun _ _ => ⟨rfl, e273, (by decide : 0 + 0 ≤ _), (by decide : 0 + 0 ≤ _)⟩)
  dsimp only [Pt.U, Pt.locs, Pt.cells, Pt.slots] at X274 l274 y274 z274 st274 hQ274
  subst l274 y274 z274
  refine own_gos st274 ?_
  obtain ⟨rfl, rfl, e274⟩ := hQ274
  have Nq274 : Fr n0 ([] : List Loc) := Fr.nil n0
  have N274 := Fr.app N272 Nq274
  try dsimp only [mkF]
  obtain ⟨v275, _, ⟨T275, L275, k275, n275⟩, -, X275, ⟨Lc275, hQ275, l275, y275, z275⟩, st275⟩ := Jvm.LawKit.callS X274 hx (y := (⟨"java/lang/StringLatin1", "indexOf", "([BIII)I"⟩ : MethodName)) hown (mvT hZ (tw hw 202 rfl)) (mvT hZ (tw hw 203 rfl)) (mvT hZ (tw hw 121 rfl)) (mvT hZ (tw hw 204 rfl)) (by decide) (backOf (W := 0) (rm_lia l Z a0 hw [] t kt ts ch h0 n0 O0 V_t hot hts) hZ (tw hw 204 rfl) (tw hw 121 rfl) (by decide) (by decide)) (g := (mkF m 17 #[rv x, iv ch, iv (0 : Int32)] [(.int (Int32.ofNat ts.length)), (.int (0 : Int32)), (.int ch), (.ref t)])) rfl (by rw [hml]; rfl) (argsL := [(.ref t), (.int ch), (.int (0 : Int32)), (.int (Int32.ofNat ts.length))]) (rest := []) (lenOf pd_23 rfl) rfl (by show 2 * 0 + _ ≤ _; exact Nat.le_of_eq rfl) (hb hby d42_80_17) (fun _ _ => ⟨rfl, e274, (by decide : 0 + 0 ≤ _), (by decide : 0 + 0 ≤ _)⟩)
  dsimp only [Pt.U, Pt.locs, Pt.cells, Pt.slots] at X275 l275 y275 z275 st275 hQ275
  subst l275 y275 z275
  refine own_go st275 ?_
  obtain ⟨r275, rfl, Nq275, e275, hr275⟩ := hQ275
  have N275 := Fr.app N274 Nq275
  refine wg X275 hx hby 20 36 d42_80_20 ?_
  refine own_fin (v := (some (.int r275))) X275 (fun h => by rw [hrt] at h; cases h) hlk (fun fs hr => retI X275 hx hrt (hb hby d42_80_36) hr) (QQ := QIx ts ch h0 n0) ?_ (by decide) (by decide)
  rw [e275]
  exact ⟨_, rfl, N275, rfl, hr275⟩

abbrev k42_79 := jdk_42_method_79_code
theorem d42_79_0:Dk k42_79 0 (.aload_n 0) 1:=kk
theorem d42_79_1:Dk k42_79 1 (.iload_n 1) 1:=kk
theorem d42_79_2:Dk k42_79 2 (.iconst 0) 1:=kk
theorem d42_79_3:Dk k42_79 3 (.invokevirtual 633) 3:=kk
theorem d42_79_6:Dk k42_79 6 (.ireturn) 1:=kk
set_option maxRecDepth 65536 in
set_option maxHeartbeats 40000000 in
theorem rm_si1 (l : Launch) (Z : State) (a0 : Array Value) (hw : ∀ d ∈ tables_1, d.before a0 Z = true) (ws : List Jvm.Cond) (x t : Addr) (kt : ClassId) (ts : List Int32) (ch G1 : Int32) (G3 : Value) (h0 : Heap) (n0 : Nat) (O0 : Old Z n0 h0) (O2 : Sta Z Z.heap "java/lang/String" "COMPACT_STRINGS" "Z" (.int G1)) (P5 : ¬ (G1 = (0 : Int32))) (O4 : Sta Z Z.heap "jdk/internal/util/Preconditions" "SIOOBE_FORMATTER" "Ljava/util/function/BiFunction;" G3) (rG3 : G3.isRef = true) (OA : Sta Z Z.heap "java/lang/StringUTF16" "$assertionsDisabled" "Z" (.int (1 : Int32))) (OH : Sta Z Z.heap "java/lang/StringUTF16" "HI_BYTE_SHIFT" "I" (.int (0 : Int32))) (OL : Sta Z Z.heap "java/lang/StringUTF16" "LO_BYTE_SHIFT" "I" (.int (8 : Int32))) (E_x : Exa Z h0 x "java/lang/String") (Fv_x : Fld Z h0 x "java/lang/String" "value" "[B" (.ref t)) (Fc_x : Fld Z h0 x "java/lang/String" "coder" "B" (.int (0 : Int32))) (V_t : Arv Z h0 t kt .byte (Int32.ofNat ts.length) (own_lat ts) (.int (0 : Int32))) (hts : ∀ c ∈ ts, ¬ (255 : Int32) < c) (hot : own_Ok ts) :
    own_TN l Z ws h0 (⟨"java/lang/String", "indexOf", "(I)I"⟩ : MethodName) jdk_42_method_79_code 2 (some .int) ⟨3, 0, 0, 46⟩ #[(.ref x), (.int ch)] (QIx ts ch h0 n0) 0 0 := by
  refine own_bN "java/lang/String" #[rv x, iv ch] (pf pn_3 rfl) rfl O0 (fun m => own_e) ?_
  intro p e s m below meth cC s₁ hZ hh hx hby hml hown hnm hrt hlk X0 e0 N0 Z0
  refine wa X0 hx hby 0 d42_79_0 rfl rfl ?_
  refine wl X0 hx hby 1 d42_79_1 rfl ?_
  refine wc X0 hx hby 2 d42_79_2 ?_
  obtain ⟨cq276, kq276, q276a, q276b, q276c⟩ := isOf hZ e0 E_x
  obtain ⟨v276, _, ⟨T276, L276, k276, n276⟩, -, X276, ⟨Lc276, hQ276, l276, y276, z276⟩, st276⟩ := X0.virtualBack hx (y := (⟨"java/lang/String", "indexOf", "(II)I"⟩ : MethodName)) (z := (⟨"java/lang/String", "indexOf", "(II)I"⟩ : MethodName)) hown (mvT hZ (tw hw 191 rfl)) (mvT hZ (tw hw 192 rfl)) (notFace_of_selects (args := #[]) (mvT hZ (tw hw 194 rfl))) (mvT hZ (tw hw 194 rfl)) (mvT hZ (tw hw 193 rfl)) (by decide) (backOf (W := 0) (rm_si2 l Z a0 hw [] x t kt ts ch G1 G3 h0 n0 O0 O2 P5 O4 rG3 OA OH OL E_x Fv_x Fc_x V_t hts hot) hZ (tw hw 195 rfl) (tw hw 11 rfl) (by decide) (by decide)) q276a q276c (g := (mkF m 3 #[rv x, iv ch] [(.int (0 : Int32)), (.int ch), (.ref x)])) rfl (by rw [hml]; rfl) (Steps.refl _) (argsL := [(.int ch), (.int (0 : Int32))]) (rest := []) (lenOf pd_11 rfl) rfl (by show 2 * 0 + _ ≤ _; exact Nat.le_of_eq rfl) (hb hby d42_79_3) (fun _ _ => ⟨rfl, e0, (by decide : 0 + 0 ≤ _), (by decide : 0 + 0 ≤ _)⟩)
  dsimp only [Pt.U, Pt.locs, Pt.cells, Pt.slots] at X276 l276 y276 z276 st276 hQ276
  subst l276 y276 z276
  refine own_gos st276 ?_
  obtain ⟨r276, rfl, Nq276, e276, hr276⟩ := hQ276
  have N276 := Fr.app N0 Nq276
  try dsimp only [mkF]
  refine own_fin (v := (some (.int r276))) X276 (fun h => by rw [hrt] at h; cases h) hlk (fun fs hr => retI X276 hx hrt (hb hby d42_79_6) hr) (QQ := QIx ts ch h0 n0) ?_ (by decide) (by decide)
  rw [e276]
  exact ⟨_, rfl, N276, rfl, hr276⟩

theorem own_minN {a b : Nat} (h : b ≤ a) (ha : a < 2147483648) : Int32.ofNat b = if Int32.ofNat b < Int32.ofNat a then Int32.ofNat b else Int32.ofNat a := by
  by_cases q : b < a
  · rw [if_pos ((own_lti (by omega) ha).mpr q)]
  · have e : b = a := by omega
    rw [e, if_neg (fun z => by have := (own_lti ha ha).mp z; omega)]
theorem own_neN {a b : Nat} (h : b < a) (ha : a < 2147483648) : ¬ Int32.ofNat b = Int32.ofNat a := fun q => by
  have e := congrArg Int32.toInt q
  rw [own_ti (by omega), own_ti ha] at e; omega
set_option maxRecDepth 65536 in
set_option maxHeartbeats 40000000 in
theorem rm_cpU (l : Launch) (Z : State) (a0 : Array Value) (hw : ∀ d ∈ tables_1, d.before a0 Z = true) (ws : List Jvm.Cond) (v : Addr) (kv : ClassId) (M : Nat) (bs : List Int32) (h0 : Heap) (n0 : Nat) (O0 : Old Z n0 h0) (V_v : Arv Z h0 v kv .byte (Int32.ofNat M) (own_uP M bs) (.int (0 : Int32))) (hlt : bs.length < M) (hM : M ≤ 6) :
    own_TN l Z ws h0 (⟨"java/util/Arrays", "copyOf", "([BI)[B"⟩ : MethodName) jdk_65_method_121_code 3 (some (.array .byte)) ⟨1, 1, 6, 18⟩ #[(.ref v), (.int (Int32.ofNat bs.length))] (QNew Z (Int32.ofNat bs.length) (bs.map Value.int) h0 n0) 1 6 := by
  refine own_bN "java/util/Arrays" #[rv v, iv (Int32.ofNat bs.length), .unset] (pf pn_6 rfl) rfl O0 (fun m => own_e) ?_
  intro p e s m below meth cC s₁ hZ hh hx hby hml hown hnm hrt hlk X0 e0 N0 Z0
  refine wl X0 hx hby 0 d65_121_0 rfl ?_
  refine wa X0 hx hby 1 d65_121_1 rfl rfl ?_
  obtain ⟨c277, A277, q277, S277, M277, Hs277, Gs277⟩ := id V_v
  refine og (fun _ k => X0.arraylength hx (by rw [e0]; exact A277.1) (State.isArrayOf_alike hZ.alike A277.2.1) (g := (mkF m 2 #[rv v, iv (Int32.ofNat bs.length), .unset] [(.ref v), (.int (Int32.ofNat bs.length))])) rfl rfl (hb hby d65_121_2) _ k) ?_
  rw [len_of S277 M277]
  refine wy X0 hx hby 3 14 d65_121_3 (feq (own_neN hlt (by omega))).2 ?_
  try dsimp only [mkF]
  refine wl X0 hx hby 14 d65_121_14 rfl ?_
  obtain ⟨T278, h278, k278, X278, e278, E278, A278, Q278, st278⟩ := newPE X0 hx hZ (tw hw 24 rfl) e0 (g := (mkF m 15 #[rv v, iv (Int32.ofNat bs.length), .unset] [(.int (Int32.ofNat bs.length))])) rfl (hb hby d65_121_15) rfl (own_nn0 (by omega)) (cap := 6) (by rw [own_tn (by omega)]; omega) (by decide) (by decide) (by decide) rfl
  obtain ⟨b278, g278⟩ : ∃ z, z = h0.size := ⟨_, rfl⟩
  rw [← g278] at A278 Q278 st278
  refine own_go st278 ?_
  have V278 : Arv Z h278 b278 k278 .byte (Int32.ofNat bs.length) (List.replicate ((Int32.ofNat bs.length)).toNatClampNeg (.int (0 : Int32))) (.int (0 : Int32)) := (Arv.new A278 (own_nn0 (by omega))).pad (pad_rep [] (.int (0 : Int32)) _)
  have Vb0 : Arv Z h278 b278 k278 .byte (Int32.ofNat bs.length) (List.replicate bs.length (.int (0 : Int32))) (.int (0 : Int32)) := by have q := V278; rw [own_tn (by omega)] at q; exact q
  refine wv X278 hx hby 17 #[rv v, iv (Int32.ofNat bs.length), rv b278] d65_121_17 rfl rfl ?_
  refine wa X278 hx hby 18 d65_121_18 rfl rfl ?_
  refine wc X278 hx hby 19 d65_121_19 ?_
  try dsimp only [mkF]
  refine wa X278 hx hby 20 d65_121_20 rfl rfl ?_
  refine wc X278 hx hby 21 d65_121_21 ?_
  refine wa X278 hx hby 22 d65_121_22 rfl rfl ?_
  obtain ⟨c279, A279, q279, S279, M279, Hs279, Gs279⟩ := id (V_v.ext E278)
  refine og (fun _ k => X278.arraylength hx (by rw [e278]; exact A279.1) (State.isArrayOf_alike hZ.alike A279.2.1) (g := (mkF m 23 #[rv v, iv (Int32.ofNat bs.length), rv b278] [(.ref v), (.int (0 : Int32)), (.ref b278), (.int (0 : Int32)), (.ref v)])) rfl rfl (hb hby d65_121_23) _ k) ?_
  rw [len_of S279 M279]
  refine wl X278 hx hby 24 d65_121_24 rfl ?_
  try dsimp only [mkF]
  obtain ⟨v280, _, ⟨T280, L280, k280, n280⟩, -, X280, ⟨Lc280, hQ280, l280, y280, z280⟩, st280⟩ := Jvm.LawKit.callS X278 hx (y := (⟨"java/lang/Math", "min", "(II)I"⟩ : MethodName)) hown (mvT hZ (tw hw 97 rfl)) (mvT hZ (tw hw 98 rfl)) (mvT hZ (tw hw 99 rfl)) (mvT hZ (tw hw 100 rfl)) (by decide) (backOf (W := 4) (rm_min l Z a0 hw [] (Int32.ofNat M) (Int32.ofNat bs.length) (Int32.ofNat bs.length) h278 n0 (O0.ext E278) (own_minN (Nat.le_of_lt hlt) (by omega))) hZ (tw hw 100 rfl) (tw hw 99 rfl) (by decide) (by decide)) (g := (mkF m 25 #[rv v, iv (Int32.ofNat bs.length), rv b278] [(.int (Int32.ofNat bs.length)), (.int (Int32.ofNat M)), (.int (0 : Int32)), (.ref b278), (.int (0 : Int32)), (.ref v)])) rfl (by rw [hml]; rfl) (argsL := [(.int (Int32.ofNat M)), (.int (Int32.ofNat bs.length))]) (rest := [(.int (0 : Int32)), (.ref b278), (.int (0 : Int32)), (.ref v)]) (lenOf pd_11 rfl) rfl (by show 2 * 0 + _ ≤ _; exact Nat.le_of_eq rfl) (hb hby d65_121_25) (fun _ _ => ⟨rfl, e278, (by decide : 1 + 0 ≤ _), (by decide : 6 + 0 ≤ _)⟩)
  dsimp only [Pt.U, Pt.locs, Pt.cells, Pt.slots] at X280 l280 y280 z280 st280 hQ280
  subst l280 y280 z280
  refine own_go st280 ?_
  obtain ⟨rfl, Nq280, e280⟩ := hQ280
  have N280 := Fr.app N0 Nq280
  have ci281 := own_tn (i := 0) (by omega)
  have cj281 := own_tn (i := 0) (by omega)
  have cm281 := own_tn (i := bs.length) (by omega)
  have ca281 := own_tn (i := M) (by omega)
  have cb281 := own_tn (i := bs.length) (by omega)
  have cl281 : ((List.replicate bs.length (.int (0 : Int32))) : List Value).length = bs.length := List.length_replicate
  obtain ⟨T281, h281, Lc281, X281, e281, N281, K281, Vc281, st281⟩ := cpA (sp := Int32.ofNat 0) (dp := Int32.ofNat 0) (nn := Int32.ofNat bs.length) X280 hx hZ hown (tw hw 101 rfl) (tw hw 104 rfl) (tw hw 102 rfl) (tw hw 103 rfl) e280 (z := Int32.ofNat M) (z' := Int32.ofNat bs.length) (V_v.ext E278) Vb0 (Or.inl ⟨rfl, rfl⟩) (own_nn0 (by omega)) (own_nn0 (by omega)) (own_nn0 (by omega)) (by omega) (by omega) (us := (bs.map Value.int)) (by rw [cm281, ci281]; exact own_takeU) (by omega) N280 (Nat.le_trans Z0 (Nat.le_of_eq g278.symm)) (g := (mkF m 28 #[rv v, iv (Int32.ofNat bs.length), rv b278] [(.int (Int32.ofNat bs.length)), (.int (0 : Int32)), (.ref b278), (.int (0 : Int32)), (.ref v)])) rfl (by rw [hml]; rfl) rfl (hb hby d65_121_28) (by decide) (W := 0) (by show 2 * 0 + _ ≤ _; exact Nat.le_of_eq rfl) (by decide)
  refine own_go st281 ?_
  have Vt281 : Arv Z h281 b278 k278 .byte (Int32.ofNat bs.length) (bs.map Value.int) (.int (0 : Int32)) := by simp only [cj281, cm281] at Vc281; exact (own_cpR (List.length_map _)) ▸ Vc281
  refine wa X281 hx hby 31 d65_121_31 rfl rfl ?_
  have f282 := (((Keep.refl h0 []).ext E278).trans K281 (allS (Or.inr (Nat.le_of_eq g278.symm)) all0))
  refine own_fin (v := (some (.ref b278))) X281 (fun h => by rw [hrt] at h; cases h) hlk (fun fs hr => retR X281 hx hrt (by rfl) rfl rfl (hb hby d65_121_32) hr) (QQ := QNew Z (Int32.ofNat bs.length) (bs.map Value.int) h0 n0) ?_ (by decide) (by decide)
  rw [e281]
  exact ⟨b278, _, rfl, N281, f282, (Nat.le_of_eq g278.symm), Vt281, (Q278.keep K281)⟩

def QCp (cs : List Int32) (h0 : Heap) (n0 : Nat) (v : Option Value) (h : Heap) (L : List Loc) : Prop := ∃ r : Nat, v = some (.int (Int32.ofNat r)) ∧ Fr n0 L ∧ h = h0 ∧ ((r = cs.length ∧ ∀ c ∈ cs, ¬ StrChars.lo8 c < 0) ∨ r < cs.length)
theorem own_alls {cs : List Int32} (h : ∀ j, j < cs.length → ¬ StrChars.lo8 (cs.getD j 0) < 0) : ∀ c ∈ cs, ¬ StrChars.lo8 c < 0 := fun c hc => by
  obtain ⟨j, hj, rfl⟩ := List.getElem_of_mem hc
  have q := h j hj
  rw [show cs.getD j 0 = cs[j] by simp [List.getD_eq_getElem?_getD, hj]] at q; exact q
abbrev k123_3 := jdk_123_method_3_code
theorem d123_3_0:Dk k123_3 0 (.iload_n 1) 1:=kk
theorem d123_3_1:Dk k123_3 1 (.iload_n 2) 1:=kk
theorem d123_3_2:Dk k123_3 2 (.iadd) 1:=kk
theorem d123_3_3:Dk k123_3 3 (.istore_n 3) 1:=kk
theorem d123_3_4:Dk k123_3 4 (.iload_n 1) 1:=kk
theorem d123_3_5:Dk k123_3 5 (.istore 4) 2:=kk
theorem d123_3_7:Dk k123_3 7 (.iload 4) 2:=kk
theorem d123_3_9:Dk k123_3 9 (.iload_n 3) 1:=kk
theorem d123_3_10:Dk k123_3 10 (.if_icmp .ge 21) 3:=kk
theorem d123_3_31:Dk k123_3 31 (.iload_n 2) 1:=kk
theorem d123_3_32:Dk k123_3 32 (.ireturn) 1:=kk
theorem d123_3_13:Dk k123_3 13 (.aload_n 0) 1:=kk
theorem d123_3_14:Dk k123_3 14 (.iload 4) 2:=kk
theorem d123_3_16:Dk k123_3 16 (.baload) 1:=kk
theorem d123_3_17:Dk k123_3 17 (.ifCond .ge 8) 3:=kk
theorem d123_3_20:Dk k123_3 20 (.iload 4) 2:=kk
theorem d123_3_22:Dk k123_3 22 (.iload_n 1) 1:=kk
theorem d123_3_23:Dk k123_3 23 (.isub) 1:=kk
theorem d123_3_24:Dk k123_3 24 (.ireturn) 1:=kk
theorem d123_3_25:Dk k123_3 25 (.iinc 4 1) 3:=kk
theorem d123_3_28:Dk k123_3 28 (.goto (-21)) 3:=kk
theorem pn_9 : plainName "java/lang/StringCoding" = true := by first | (simp [plainName, overriddenIn]; done) | decide +kernel
set_option maxRecDepth 65536 in
set_option maxHeartbeats 40000000 in
theorem rm_cps (l : Launch) (Z : State) (a0 : Array Value) (hw : ∀ d ∈ tables_1, d.before a0 Z = true) (ws : List Jvm.Cond) (t : Addr) (kt : ClassId) (cs : List Int32) (h0 : Heap) (n0 : Nat) (O0 : Old Z n0 h0) (V_t : Arv Z h0 t kt .byte (Int32.ofNat cs.length) (own_lat cs) (.int (0 : Int32))) (hok : own_Ok cs) :
    own_TN l Z ws h0 (⟨"java/lang/StringCoding", "countPositives", "([BII)I"⟩ : MethodName) jdk_123_method_3_code 5 (some .int) ⟨0, 0, 0, 0⟩ #[(.ref t), (.int (0 : Int32)), (.int (Int32.ofNat cs.length))] (QCp cs h0 n0) 0 0 := by
  refine own_bN "java/lang/StringCoding" #[rv t, iv (0 : Int32), iv (Int32.ofNat cs.length), .unset, .unset] (pf pn_9 rfl) rfl O0 (fun m => own_e) ?_
  intro p e s m below meth cC s₁ hZ hh hx hby hml hown hnm hrt hlk X0 e0 N0 Z0
  have hlen : cs.length ≤ 4000 := hok.2
  refine wl X0 hx hby 0 d123_3_0 rfl ?_
  refine wl X0 hx hby 1 d123_3_1 rfl ?_
  refine og (fun _ k => XS.iadd X0.here hx rfl (hb hby d123_3_2) rfl k) ?_
  show own_Go p e below (s₁.setTop (mkF m 3 #[rv t, iv (0 : Int32), iv (Int32.ofNat cs.length), .unset, .unset] [(.int ((0 : Int32) + (Int32.ofNat cs.length)))])) _
  rw [Int32.zero_add]
  try dsimp only [mkF]
  refine wt X0 hx hby 3 #[rv t, iv (0 : Int32), iv (Int32.ofNat cs.length), iv (Int32.ofNat cs.length), .unset] d123_3_3 rfl ?_
  refine wl X0 hx hby 4 d123_3_4 rfl ?_
  refine wz X0 hx hby 5 #[rv t, iv (0 : Int32), iv (Int32.ofNat cs.length), iv (Int32.ofNat cs.length), iv (0 : Int32)] d123_3_5 rfl ?_
  have loop : ∀ (kT iloop : Nat) (T : State) (locs : List Loc) (h : Heap), iloop + kT = cs.length → Stand p l e ⟨0, 0, 0, 0⟩ s m #[(.ref t), (.int (0 : Int32)), (.int (Int32.ofNat cs.length))] below meth cC T locs 0 0 → T.heap = h → Fr n0 locs → Old Z n0 h → Keep h0 h [] → Arv Z h t kt .byte (Int32.ofNat cs.length) (own_lat cs) (.int (0 : Int32)) → (∀ j, j < iloop → ¬ StrChars.lo8 (cs.getD j 0) < 0) → (h = h0) → own_Go p e below (T.setTop (mkF m 7 #[rv t, iv (0 : Int32), iv (Int32.ofNat cs.length), iv (Int32.ofNat cs.length), iv (Int32.ofNat iloop)] [])) (fun oO U' => ∃ rV rL, oO = .returned rV ∧ QCp cs h0 n0 rV U'.heap rL ∧ FrameEnd s oO U' rL 0 0) := by
    intro kT
    induction kT with
    | zero =>
      intro iloop T283 L283 h283 hik X283 e283 N283 O283 K283 J0_283 hall hhe
      have Z0_283 : n0 ≤ h283.size := O283.1 ▸ O283.2.1
      have hin : iloop = cs.length := by omega
      have hlt : ¬ ((Int32.ofNat iloop) < (Int32.ofNat cs.length)) := by rw [own_lti (by omega) (by omega)]; omega
      refine wm X283 hx hby 7 d123_3_7 rfl ?_
      try dsimp only [mkF]
      refine wl X283 hx hby 9 d123_3_9 rfl ?_
      refine wy X283 hx hby 10 31 d123_3_10 (flt hlt).2.1 ?_
      refine wl X283 hx hby 31 d123_3_31 rfl ?_
      refine own_fin (v := (some (.int (Int32.ofNat cs.length)))) X283 (fun h => by rw [hrt] at h; cases h) hlk (fun fs hr => retI X283 hx hrt (hb hby d123_3_32) hr) (QQ := QCp cs h0 n0) ?_ (by decide) (by decide)
      rw [e283]
      exact ⟨cs.length, rfl, N283, hhe, Or.inl ⟨rfl, own_alls (fun j hj => hall j (by omega))⟩⟩
    | succ kT ih =>
      intro iloop T284 L284 h284 hik X284 e284 N284 O284 K284 J0_284 hall hhe
      have Z0_284 : n0 ≤ h284.size := O284.1 ▸ O284.2.1
      have hi : iloop < cs.length := by omega
      have hlt : (Int32.ofNat iloop) < (Int32.ofNat cs.length) := (own_lti (by omega) (by omega)).mpr hi
      refine wm X284 hx hby 7 d123_3_7 rfl ?_
      try dsimp only [mkF]
      refine wl X284 hx hby 9 d123_3_9 rfl ?_
      refine wn X284 hx hby 10 d123_3_10 (tlt hlt).2.1 ?_
      refine wa X284 hx hby 13 d123_3_13 rfl rfl ?_
      refine wm X284 hx hby 14 d123_3_14 rfl ?_
      obtain ⟨c285, A285, q285, S285, M285, Hs285, Gs285⟩ := id J0_284
      have hi285 := inb_of (j := (Int32.ofNat iloop)) S285 (own_inb hi (by omega))
      refine og (fun _ k => X284.baloadBytes hx (j := (Int32.ofNat iloop)) (v := (.int (StrChars.lo8 (cs.getD iloop 0)))) (by rw [e284]; exact A285.1) (State.isArrayOf_alike hZ.alike A285.2.1) A285.2.2 hi285 (Has.at Hs285 hi285 (by rw [own_tn (by omega)]; exact own_lgd2 hi)) (g := (mkF m 16 #[rv t, iv (0 : Int32), iv (Int32.ofNat cs.length), iv (Int32.ofNat cs.length), iv (Int32.ofNat iloop)] [(.int (Int32.ofNat iloop)), (.ref t)])) rfl rfl (hb hby d123_3_16) _ k) ?_
      try dsimp only [mkF]
      by_cases hc286 : (StrChars.lo8 (cs.getD iloop 0)) < (0 : Int32)
      · skip
        refine we X284 hx hby 17 d123_3_17 ((if0 _ _).trans (tlt hc286).2.1) ?_
        refine wm X284 hx hby 20 d123_3_20 rfl ?_
        refine wl X284 hx hby 22 d123_3_22 rfl ?_
        refine og (fun _ k => XS.isub X284.here hx rfl (hb hby d123_3_23) rfl k) ?_
        refine own_fin (v := (some (.int ((Int32.ofNat iloop) - (0 : Int32))))) X284 (fun h => by rw [hrt] at h; cases h) hlk (fun fs hr => retI X284 hx hrt (hb hby d123_3_24) hr) (QQ := QCp cs h0 n0) ?_ (by decide) (by decide)
        rw [e284]
        exact ⟨iloop, congrArg (fun z => some (Value.int z)) (Int32.sub_zero _), N284, hhe, Or.inr hi⟩
      · skip
        refine wf X284 hx hby 17 25 d123_3_17 ((if0 _ _).trans (flt hc286).2.1) ?_
        refine wi X284 hx hby 25 #[rv t, iv (0 : Int32), iv (Int32.ofNat cs.length), iv (Int32.ofNat cs.length), iv ((Int32.ofNat iloop) + (1 : Int32))] d123_3_25 rfl rfl ?_
        refine wg X284 hx hby 28 7 d123_3_28 ?_
        show own_Go p e below (T284.setTop (mkF m 7 #[rv t, iv (0 : Int32), iv (Int32.ofNat cs.length), iv (Int32.ofNat cs.length), iv ((Int32.ofNat iloop) + (1 : Int32))] [])) _
        rw [own_inc]
        exact ih (iloop + 1) T284 _ h284 (by omega) X284 e284 N284 O284 K284 J0_284 (fun j hj => (Nat.lt_succ_iff_lt_or_eq.mp hj).elim (fun q => hall j q) (fun q => q ▸ hc286)) hhe
  exact loop (cs.length) 0 s₁ _ h0 (by omega) X0 e0 N0 O0 (Keep.refl h0 []) V_t (fun j hj => absurd hj (Nat.not_lt_zero _)) rfl

def QHn (cs : List Int32) (h0 : Heap) (n0 : Nat) (v : Option Value) (h : Heap) (L : List Loc) : Prop := ∃ r : Int32, v = some (.int r) ∧ Fr n0 L ∧ h = h0 ∧ (r = 0 → ∀ c ∈ cs, ¬ StrChars.lo8 c < 0)
abbrev k123_2 := jdk_123_method_2_code
theorem d123_2_0:Dk k123_2 0 (.aload_n 0) 1:=kk
theorem d123_2_1:Dk k123_2 1 (.iload_n 1) 1:=kk
theorem d123_2_2:Dk k123_2 2 (.iload_n 2) 1:=kk
theorem d123_2_3:Dk k123_2 3 (.invokestatic 7) 3:=kk
theorem pd_24 : parseMethodDescriptor "([BII)I" = some ⟨[(.array .byte), .int, .int], some .int⟩ := by decide +kernel
theorem d123_2_6:Dk k123_2 6 (.iload_n 2) 1:=kk
theorem d123_2_7:Dk k123_2 7 (.if_icmp .eq 7) 3:=kk
theorem d123_2_14:Dk k123_2 14 (.iconst 0) 1:=kk
theorem d123_2_15:Dk k123_2 15 (.ireturn) 1:=kk
theorem d123_2_10:Dk k123_2 10 (.iconst 1) 1:=kk
theorem d123_2_11:Dk k123_2 11 (.goto 4) 3:=kk
set_option maxRecDepth 65536 in
set_option maxHeartbeats 40000000 in
theorem rm_hng (l : Launch) (Z : State) (a0 : Array Value) (hw : ∀ d ∈ tables_1, d.before a0 Z = true) (ws : List Jvm.Cond) (t : Addr) (kt : ClassId) (cs : List Int32) (h0 : Heap) (n0 : Nat) (O0 : Old Z n0 h0) (V_t : Arv Z h0 t kt .byte (Int32.ofNat cs.length) (own_lat cs) (.int (0 : Int32))) (hok : own_Ok cs) :
    own_TN l Z ws h0 (⟨"java/lang/StringCoding", "hasNegatives", "([BII)Z"⟩ : MethodName) jdk_123_method_2_code 3 (some .boolean) ⟨1, 0, 0, 16⟩ #[(.ref t), (.int (0 : Int32)), (.int (Int32.ofNat cs.length))] (QHn cs h0 n0) 0 0 := by
  refine own_bN "java/lang/StringCoding" #[rv t, iv (0 : Int32), iv (Int32.ofNat cs.length)] (pf pn_9 rfl) rfl O0 (fun m => own_e) ?_
  intro p e s m below meth cC s₁ hZ hh hx hby hml hown hnm hrt hlk X0 e0 N0 Z0
  have hlen : cs.length ≤ 4000 := hok.2
  refine wa X0 hx hby 0 d123_2_0 rfl rfl ?_
  refine wl X0 hx hby 1 d123_2_1 rfl ?_
  refine wl X0 hx hby 2 d123_2_2 rfl ?_
  obtain ⟨v287, _, ⟨T287, L287, k287, n287⟩, -, X287, ⟨Lc287, hQ287, l287, y287, z287⟩, st287⟩ := Jvm.LawKit.callS X0 hx (y := (⟨"java/lang/StringCoding", "countPositives", "([BII)I"⟩ : MethodName)) hown (mvT hZ (tw hw 165 rfl)) (mvT hZ (tw hw 166 rfl)) (mvT hZ (tw hw 163 rfl)) (mvT hZ (tw hw 167 rfl)) (by decide) (backOf (W := 0) (rm_cps l Z a0 hw [] t kt cs h0 n0 O0 V_t hok) hZ (tw hw 167 rfl) (tw hw 163 rfl) (by decide) (by decide)) (g := (mkF m 3 #[rv t, iv (0 : Int32), iv (Int32.ofNat cs.length)] [(.int (Int32.ofNat cs.length)), (.int (0 : Int32)), (.ref t)])) rfl (by rw [hml]; rfl) (argsL := [(.ref t), (.int (0 : Int32)), (.int (Int32.ofNat cs.length))]) (rest := []) (lenOf pd_24 rfl) rfl (by show 2 * 0 + _ ≤ _; exact Nat.le_of_eq rfl) (hb hby d123_2_3) (fun _ _ => ⟨rfl, e0, (by decide : 0 + 0 ≤ _), (by decide : 0 + 0 ≤ _)⟩)
  dsimp only [Pt.U, Pt.locs, Pt.cells, Pt.slots] at X287 l287 y287 z287 st287 hQ287
  subst l287 y287 z287
  refine own_go st287 ?_
  obtain ⟨r287, rfl, Nq287, e287, hr287⟩ := hQ287
  have N287 := Fr.app N0 Nq287
  try dsimp only [mkF]
  refine wl X287 hx hby 6 d123_2_6 rfl ?_
  by_cases hc288 : (Int32.ofNat r287) = (Int32.ofNat cs.length)
  · skip
    refine wy X287 hx hby 7 14 d123_2_7 (teq hc288).1 ?_
    refine wc X287 hx hby 14 d123_2_14 ?_
    refine own_fin (v := (some (.int (nar .boolean (0 : Int32))))) X287 (fun h => by rw [hrt] at h; cases h) hlk (fun fs hr => retN X287 hx (t := .boolean) hrt (by simp) (hb hby d123_2_15) hr) (QQ := QHn cs h0 n0) ?_ (by decide) (by decide)
    rw [e287]
    exact ⟨0, rfl, N287, rfl, fun _ => hr287.elim (fun q => q.2) (fun q => absurd hc288 (own_ne_n q hlen))⟩
  · skip
    refine wn X287 hx hby 7 d123_2_7 (feq hc288).1 ?_
    refine wc X287 hx hby 10 d123_2_10 ?_
    refine wg X287 hx hby 11 15 d123_2_11 ?_
    refine own_fin (v := (some (.int (nar .boolean (1 : Int32))))) X287 (fun h => by rw [hrt] at h; cases h) hlk (fun fs hr => retN X287 hx (t := .boolean) hrt (by simp) (hb hby d123_2_15) hr) (QQ := QHn cs h0 n0) ?_ (by decide) (by decide)
    rw [e287]
    exact ⟨1, rfl, N287, rfl, fun q => absurd q (by decide)⟩

abbrev k89_16 := jdk_89_method_16_code
theorem d89_16_0:Dk k89_16 0 (.iload_n 0) 1:=kk
theorem d89_16_1:Dk k89_16 1 (.ldc 75) 2:=kk
theorem d89_16_3:Dk k89_16 3 (.if_icmp .lt 13) 3:=kk
theorem d89_16_16:Dk k89_16 16 (.iconst 0) 1:=kk
theorem d89_16_17:Dk k89_16 17 (.ireturn) 1:=kk
theorem d89_16_6:Dk k89_16 6 (.iload_n 0) 1:=kk
theorem d89_16_7:Dk k89_16 7 (.ldc 77) 2:=kk
theorem d89_16_9:Dk k89_16 9 (.if_icmp .ge 7) 3:=kk
theorem d89_16_12:Dk k89_16 12 (.iconst 1) 1:=kk
theorem d89_16_13:Dk k89_16 13 (.goto 4) 3:=kk
theorem pn_10 : plainName "java/lang/Character" = true := by first | (simp [plainName, overriddenIn]; done) | decide +kernel
set_option maxRecDepth 65536 in
set_option maxHeartbeats 40000000 in
theorem rm_sur (l : Launch) (Z : State) (a0 : Array Value) (hw : ∀ d ∈ tables_1, d.before a0 Z = true) (ws : List Jvm.Cond) (c : Int32) (h0 : Heap) (n0 : Nat) (O0 : Old Z n0 h0) :
    own_TN l Z ws h0 (⟨"java/lang/Character", "isSurrogate", "(C)Z"⟩ : MethodName) jdk_89_method_16_code 1 (some .boolean) ⟨0, 0, 0, 0⟩ #[(.int c)] (QPure (some (.int (own_sur c))) h0 n0) 0 0 := by
  refine own_bN "java/lang/Character" #[iv c] (pf pn_10 rfl) rfl O0 (fun m => own_e) ?_
  intro p e s m below meth cC s₁ hZ hh hx hby hml hown hnm hrt hlk X0 e0 N0 Z0
  refine wl X0 hx hby 0 d89_16_0 rfl ?_
  refine og (fun _ k => X0.ldcInt hx hown (mvT hZ (tw hw 268 rfl)) (g := (mkF m 1 #[iv c] [(.int c)])) rfl (hb hby d89_16_1) _ k) ?_
  by_cases hc289 : c < (55296 : Int32)
  · skip
    refine wy X0 hx hby 3 16 d89_16_3 (tlt hc289).1 ?_
    refine wc X0 hx hby 16 d89_16_16 ?_
    try dsimp only [mkF]
    refine own_fin (v := (some (.int (nar .boolean (0 : Int32))))) X0 (fun h => by rw [hrt] at h; cases h) hlk (fun fs hr => retN X0 hx (t := .boolean) hrt (by simp) (hb hby d89_16_17) hr) (QQ := QPure (some (.int (own_sur c))) h0 n0) ?_ (by decide) (by decide)
    rw [e0]
    exact ⟨by unfold own_sur; rw [if_pos hc289] <;> rfl, N0, rfl⟩
  · skip
    refine wn X0 hx hby 3 d89_16_3 (flt hc289).1 ?_
    refine wl X0 hx hby 6 d89_16_6 rfl ?_
    try dsimp only [mkF]
    refine og (fun _ k => X0.ldcInt hx hown (mvT hZ (tw hw 301 rfl)) (g := (mkF m 7 #[iv c] [(.int c)])) rfl (hb hby d89_16_7) _ k) ?_
    by_cases hc290 : c < (57344 : Int32)
    · skip
      refine wn X0 hx hby 9 d89_16_9 (tlt hc290).2.1 ?_
      refine wc X0 hx hby 12 d89_16_12 ?_
      refine wg X0 hx hby 13 17 d89_16_13 ?_
      refine own_fin (v := (some (.int (nar .boolean (1 : Int32))))) X0 (fun h => by rw [hrt] at h; cases h) hlk (fun fs hr => retN X0 hx (t := .boolean) hrt (by simp) (hb hby d89_16_17) hr) (QQ := QPure (some (.int (own_sur c))) h0 n0) ?_ (by decide) (by decide)
      rw [e0]
      exact ⟨by unfold own_sur; rw [if_neg hc289, if_pos hc290] <;> rfl, N0, rfl⟩
    · skip
      refine wy X0 hx hby 9 16 d89_16_9 (flt hc290).2.1 ?_
      refine wc X0 hx hby 16 d89_16_16 ?_
      refine own_fin (v := (some (.int (nar .boolean (0 : Int32))))) X0 (fun h => by rw [hrt] at h; cases h) hlk (fun fs hr => retN X0 hx (t := .boolean) hrt (by simp) (hb hby d89_16_17) hr) (QQ := QPure (some (.int (own_sur c))) h0 n0) ?_ (by decide) (by decide)
      rw [e0]
      exact ⟨by unfold own_sur; rw [if_neg hc289, if_neg hc290] <;> rfl, N0, rfl⟩

abbrev k42_47 := jdk_42_method_47_code
theorem d42_47_0:Dk k42_47 0 (.iconst 0) 1:=kk
theorem d42_47_1:Dk k42_47 1 (.istore_n 2) 1:=kk
theorem d42_47_2:Dk k42_47 2 (.iconst 0) 1:=kk
theorem d42_47_3:Dk k42_47 3 (.istore_n 3) 1:=kk
theorem d42_47_4:Dk k42_47 4 (.aload_n 0) 1:=kk
theorem d42_47_5:Dk k42_47 5 (.arraylength) 1:=kk
theorem d42_47_6:Dk k42_47 6 (.iconst 1) 1:=kk
theorem d42_47_7:Dk k42_47 7 (.ishr) 1:=kk
theorem d42_47_8:Dk k42_47 8 (.istore 4) 2:=kk
theorem d42_47_10:Dk k42_47 10 (.iload 4) 2:=kk
theorem d42_47_12:Dk k42_47 12 (.iconst 3) 1:=kk
theorem d42_47_13:Dk k42_47 13 (.imul) 1:=kk
theorem d42_47_14:Dk k42_47 14 (.newarray .byte) 2:=kk
theorem d42_47_16:Dk k42_47 16 (.astore 5) 2:=kk
theorem d42_47_58:Dk k42_47 58 (.iload_n 3) 1:=kk
theorem d42_47_59:Dk k42_47 59 (.iload 4) 2:=kk
theorem d42_47_61:Dk k42_47 61 (.if_icmp .ge 294) 3:=kk
theorem d42_47_355:Dk k42_47 355 (.iload_n 2) 1:=kk
theorem d42_47_356:Dk k42_47 356 (.aload 5) 2:=kk
theorem d42_47_358:Dk k42_47 358 (.arraylength) 1:=kk
theorem d42_47_359:Dk k42_47 359 (.if_icmp .ne 6) 3:=kk
theorem d42_47_362:Dk k42_47 362 (.aload 5) 2:=kk
theorem d42_47_364:Dk k42_47 364 (.areturn) 1:=kk
theorem d42_47_365:Dk k42_47 365 (.aload 5) 2:=kk
theorem d42_47_367:Dk k42_47 367 (.iload_n 2) 1:=kk
theorem d42_47_368:Dk k42_47 368 (.invokestatic 102) 3:=kk
theorem d42_47_371:Dk k42_47 371 (.areturn) 1:=kk
theorem d42_47_64:Dk k42_47 64 (.aload_n 0) 1:=kk
theorem d42_47_65:Dk k42_47 65 (.iload_n 3) 1:=kk
theorem d42_47_66:Dk k42_47 66 (.iinc 3 1) 3:=kk
theorem d42_47_69:Dk k42_47 69 (.invokestatic 360) 3:=kk
theorem d42_47_72:Dk k42_47 72 (.istore 6) 2:=kk
theorem d42_47_74:Dk k42_47 74 (.iload 6) 2:=kk
theorem d42_47_76:Dk k42_47 76 (.sipush 128) 3:=kk
theorem d42_47_79:Dk k42_47 79 (.if_icmp .ge 16) 3:=kk
theorem d42_47_82:Dk k42_47 82 (.aload 5) 2:=kk
theorem d42_47_84:Dk k42_47 84 (.iload_n 2) 1:=kk
theorem d42_47_85:Dk k42_47 85 (.iinc 2 1) 3:=kk
theorem d42_47_88:Dk k42_47 88 (.iload 6) 2:=kk
theorem d42_47_90:Dk k42_47 90 (.i2b) 1:=kk
theorem d42_47_91:Dk k42_47 91 (.bastore) 1:=kk
theorem d42_47_92:Dk k42_47 92 (.goto 260) 3:=kk
theorem d42_47_352:Dk k42_47 352 (.goto (-294)) 3:=kk
theorem d42_47_95:Dk k42_47 95 (.iload 6) 2:=kk
theorem d42_47_97:Dk k42_47 97 (.sipush 2048) 3:=kk
theorem d42_47_100:Dk k42_47 100 (.if_icmp .ge 40) 3:=kk
theorem d42_47_103:Dk k42_47 103 (.aload 5) 2:=kk
theorem d42_47_105:Dk k42_47 105 (.iload_n 2) 1:=kk
theorem d42_47_106:Dk k42_47 106 (.iinc 2 1) 3:=kk
theorem d42_47_109:Dk k42_47 109 (.sipush 192) 3:=kk
theorem d42_47_112:Dk k42_47 112 (.iload 6) 2:=kk
theorem d42_47_114:Dk k42_47 114 (.bipush 6) 2:=kk
theorem d42_47_116:Dk k42_47 116 (.ishr) 1:=kk
theorem d42_47_117:Dk k42_47 117 (.ior) 1:=kk
theorem d42_47_118:Dk k42_47 118 (.i2b) 1:=kk
theorem d42_47_119:Dk k42_47 119 (.bastore) 1:=kk
theorem d42_47_120:Dk k42_47 120 (.aload 5) 2:=kk
theorem d42_47_122:Dk k42_47 122 (.iload_n 2) 1:=kk
theorem d42_47_123:Dk k42_47 123 (.iinc 2 1) 3:=kk
theorem d42_47_126:Dk k42_47 126 (.sipush 128) 3:=kk
theorem d42_47_129:Dk k42_47 129 (.iload 6) 2:=kk
theorem d42_47_131:Dk k42_47 131 (.bipush 63) 2:=kk
theorem d42_47_133:Dk k42_47 133 (.iand) 1:=kk
theorem d42_47_134:Dk k42_47 134 (.ior) 1:=kk
theorem d42_47_135:Dk k42_47 135 (.i2b) 1:=kk
theorem d42_47_136:Dk k42_47 136 (.bastore) 1:=kk
theorem d42_47_137:Dk k42_47 137 (.goto 215) 3:=kk
theorem d42_47_140:Dk k42_47 140 (.iload 6) 2:=kk
theorem d42_47_142:Dk k42_47 142 (.invokestatic 404) 3:=kk
theorem d42_47_145:Dk k42_47 145 (.ifCond .eq 153) 3:=kk
theorem d42_47_298:Dk k42_47 298 (.aload 5) 2:=kk
theorem d42_47_300:Dk k42_47 300 (.iload_n 2) 1:=kk
theorem d42_47_301:Dk k42_47 301 (.iinc 2 1) 3:=kk
theorem d42_47_304:Dk k42_47 304 (.sipush 224) 3:=kk
theorem d42_47_307:Dk k42_47 307 (.iload 6) 2:=kk
theorem d42_47_309:Dk k42_47 309 (.bipush 12) 2:=kk
theorem d42_47_311:Dk k42_47 311 (.ishr) 1:=kk
theorem d42_47_312:Dk k42_47 312 (.ior) 1:=kk
theorem d42_47_313:Dk k42_47 313 (.i2b) 1:=kk
theorem d42_47_314:Dk k42_47 314 (.bastore) 1:=kk
theorem d42_47_315:Dk k42_47 315 (.aload 5) 2:=kk
theorem d42_47_317:Dk k42_47 317 (.iload_n 2) 1:=kk
theorem d42_47_318:Dk k42_47 318 (.iinc 2 1) 3:=kk
theorem d42_47_321:Dk k42_47 321 (.sipush 128) 3:=kk
theorem d42_47_324:Dk k42_47 324 (.iload 6) 2:=kk
theorem d42_47_326:Dk k42_47 326 (.bipush 6) 2:=kk
theorem d42_47_328:Dk k42_47 328 (.ishr) 1:=kk
theorem d42_47_329:Dk k42_47 329 (.bipush 63) 2:=kk
theorem d42_47_331:Dk k42_47 331 (.iand) 1:=kk
theorem d42_47_332:Dk k42_47 332 (.ior) 1:=kk
theorem d42_47_333:Dk k42_47 333 (.i2b) 1:=kk
theorem d42_47_334:Dk k42_47 334 (.bastore) 1:=kk
theorem d42_47_335:Dk k42_47 335 (.aload 5) 2:=kk
theorem d42_47_337:Dk k42_47 337 (.iload_n 2) 1:=kk
theorem d42_47_338:Dk k42_47 338 (.iinc 2 1) 3:=kk
theorem d42_47_341:Dk k42_47 341 (.sipush 128) 3:=kk
theorem d42_47_344:Dk k42_47 344 (.iload 6) 2:=kk
theorem d42_47_346:Dk k42_47 346 (.bipush 63) 2:=kk
theorem d42_47_348:Dk k42_47 348 (.iand) 1:=kk
theorem d42_47_349:Dk k42_47 349 (.ior) 1:=kk
theorem d42_47_350:Dk k42_47 350 (.i2b) 1:=kk
theorem d42_47_351:Dk k42_47 351 (.bastore) 1:=kk
theorem d42_47_18:Dk k42_47 18 (.iload_n 3) 1:=kk
theorem d42_47_19:Dk k42_47 19 (.iload 4) 2:=kk
theorem d42_47_21:Dk k42_47 21 (.if_icmp .ge 37) 3:=kk
theorem d42_47_24:Dk k42_47 24 (.aload_n 0) 1:=kk
theorem d42_47_25:Dk k42_47 25 (.iload_n 3) 1:=kk
theorem d42_47_26:Dk k42_47 26 (.invokestatic 360) 3:=kk
theorem d42_47_29:Dk k42_47 29 (.istore 6) 2:=kk
theorem d42_47_31:Dk k42_47 31 (.iload 6) 2:=kk
theorem d42_47_33:Dk k42_47 33 (.sipush 128) 3:=kk
theorem d42_47_36:Dk k42_47 36 (.if_icmp .lt 6) 3:=kk
theorem d42_47_42:Dk k42_47 42 (.aload 5) 2:=kk
theorem d42_47_44:Dk k42_47 44 (.iload_n 2) 1:=kk
theorem d42_47_45:Dk k42_47 45 (.iinc 2 1) 3:=kk
theorem d42_47_48:Dk k42_47 48 (.iload 6) 2:=kk
theorem d42_47_50:Dk k42_47 50 (.i2b) 1:=kk
theorem d42_47_51:Dk k42_47 51 (.bastore) 1:=kk
theorem d42_47_52:Dk k42_47 52 (.iinc 3 1) 3:=kk
theorem d42_47_55:Dk k42_47 55 (.goto (-37)) 3:=kk
theorem d42_47_39:Dk k42_47 39 (.goto 19) 3:=kk
set_option maxRecDepth 65536 in
set_option maxHeartbeats 40000000 in
theorem rm_ew (l : Launch) (Z : State) (a0 : Array Value) (hw : ∀ d ∈ tables_1, d.before a0 Z = true) (ws : List Jvm.Cond) (t : Addr) (kt : ClassId) (cs : List Int32) (h0 : Heap) (n0 : Nat) (O0 : Old Z n0 h0) (OA : Sta Z Z.heap "java/lang/StringUTF16" "$assertionsDisabled" "Z" (.int (1 : Int32))) (OH : Sta Z Z.heap "java/lang/StringUTF16" "HI_BYTE_SHIFT" "I" (.int (0 : Int32))) (OL : Sta Z Z.heap "java/lang/StringUTF16" "LO_BYTE_SHIFT" "I" (.int (8 : Int32))) (V_t : Arv Z h0 t kt .byte (Int32.ofNat (2 * cs.length)) (StrChars.Road.wideBytes cs) (.int (0 : Int32))) (hok : own_Ok cs) (h2 : cs.length ≤ 2) (hns : ∀ c ∈ cs, c < (55296 : Int32) ∨ (57343 : Int32) < c) :
    own_TN l Z ws h0 (⟨"java/lang/String", "encodeUTF8_UTF16", "([BZ)[B"⟩ : MethodName) jdk_42_method_47_code 9 (some (.array .byte)) ⟨2, 2, 12, 32⟩ #[(.ref t), (.int (1 : Int32))] (QNew Z (Int32.ofNat (own_u8s cs).length) ((own_u8s cs).map Value.int) h0 n0) 2 12 := by
  refine own_bN "java/lang/String" #[rv t, iv (1 : Int32), .unset, .unset, .unset, .unset, .unset, .unset, .unset] (pf pn_3 rfl) rfl O0 (fun m => own_e) ?_
  intro p e s m below meth cC s₁ hZ hh hx hby hml hown hnm hrt hlk X0 e0 N0 Z0
  have hlen : cs.length ≤ 4000 := hok.2
  refine wc X0 hx hby 0 d42_47_0 ?_
  refine wt X0 hx hby 1 #[rv t, iv (1 : Int32), iv (0 : Int32), .unset, .unset, .unset, .unset, .unset, .unset] d42_47_1 rfl ?_
  refine wc X0 hx hby 2 d42_47_2 ?_
  refine wt X0 hx hby 3 #[rv t, iv (1 : Int32), iv (0 : Int32), iv (0 : Int32), .unset, .unset, .unset, .unset, .unset] d42_47_3 rfl ?_
  try dsimp only [mkF]
  refine wa X0 hx hby 4 d42_47_4 rfl rfl ?_
  obtain ⟨c291, A291, q291, S291, M291, Hs291, Gs291⟩ := id V_t
  refine og (fun _ k => X0.arraylength hx (by rw [e0]; exact A291.1) (State.isArrayOf_alike hZ.alike A291.2.1) (g := (mkF m 5 #[rv t, iv (1 : Int32), iv (0 : Int32), iv (0 : Int32), .unset, .unset, .unset, .unset, .unset] [(.ref t)])) rfl rfl (hb hby d42_47_5) _ k) ?_
  rw [len_of S291 M291]
  refine wc X0 hx hby 6 d42_47_6 ?_
  refine og (fun _ k => XS.ishr X0.here hx rfl (hb hby d42_47_7) rfl k) ?_
  show own_Go p e below (s₁.setTop (mkF m 8 #[rv t, iv (1 : Int32), iv (0 : Int32), iv (0 : Int32), .unset, .unset, .unset, .unset, .unset] [(.int ((Int32.ofNat (2 * cs.length)) >>> ((1 : Int32) &&& 31)))])) _
  rw [StrChars.shr1 (by omega : 2 * cs.length < 2 ^ 31)]
  try dsimp only [mkF]
  refine wz X0 hx hby 8 #[rv t, iv (1 : Int32), iv (0 : Int32), iv (0 : Int32), iv (Int32.ofNat cs.length), .unset, .unset, .unset, .unset] d42_47_8 rfl ?_
  refine wm X0 hx hby 10 d42_47_10 rfl ?_
  refine wc X0 hx hby 12 d42_47_12 ?_
  refine og (fun _ k => XS.imul X0.here hx rfl (hb hby d42_47_13) rfl k) ?_
  show own_Go p e below (s₁.setTop (mkF m 14 #[rv t, iv (1 : Int32), iv (0 : Int32), iv (0 : Int32), iv (Int32.ofNat cs.length), .unset, .unset, .unset, .unset] [(.int ((Int32.ofNat cs.length) * (3 : Int32)))])) _
  rw [own_mul3]
  try dsimp only [mkF]
  obtain ⟨T292, h292, k292, X292, e292, E292, A292, Q292, st292⟩ := newPE X0 hx hZ (tw hw 24 rfl) e0 (g := (mkF m 14 #[rv t, iv (1 : Int32), iv (0 : Int32), iv (0 : Int32), iv (Int32.ofNat cs.length), .unset, .unset, .unset, .unset] [(.int (Int32.ofNat (cs.length * 3)))])) rfl (hb hby d42_47_14) rfl (own_nn0 (by omega)) (cap := 6) (by rw [own_tn (by omega)]; omega) (by decide) (by decide) (by decide) rfl
  obtain ⟨b292, g292⟩ : ∃ z, z = h0.size := ⟨_, rfl⟩
  rw [← g292] at A292 Q292 st292
  refine own_go st292 ?_
  have V292 : Arv Z h292 b292 k292 .byte (Int32.ofNat (cs.length * 3)) (List.replicate ((Int32.ofNat (cs.length * 3))).toNatClampNeg (.int (0 : Int32))) (.int (0 : Int32)) := (Arv.new A292 (own_nn0 (by omega))).pad (pad_rep [] (.int (0 : Int32)) _)
  have Vb0 : Arv Z h292 b292 k292 .byte (Int32.ofNat (cs.length * 3)) (own_uP (cs.length * 3) (own_u8s (cs.take 0))) (.int (0 : Int32)) := by have q := V292; rw [own_tn (by omega)] at q; exact q
  refine wu X292 hx hby 16 #[rv t, iv (1 : Int32), iv (0 : Int32), iv (0 : Int32), iv (Int32.ofNat cs.length), rv b292, .unset, .unset, .unset] d42_47_16 rfl rfl ?_
  have ne293 : t ≠ b292 := Nat.ne_of_lt (Nat.lt_of_lt_of_le V_t.lt (Nat.le_of_eq g292.symm))
  have loopB : ∀ (kT iloopB : Nat) (s6 : Slot) (s7 : Slot) (s8 : Slot) (T : State) (locs : List Loc) (h : Heap), iloopB + kT = cs.length → Stand p l e ⟨2, 2, 12, 32⟩ s m #[(.ref t), (.int (1 : Int32))] below meth cC T locs 1 6 → T.heap = h → Fr n0 locs → Old Z n0 h → Keep h0 h [] → Arv Z h t kt .byte (Int32.ofNat (2 * cs.length)) (StrChars.Road.wideBytes cs) (.int (0 : Int32)) → Arv Z h b292 k292 .byte (Int32.ofNat (cs.length * 3)) (own_uP (cs.length * 3) (own_u8s (cs.take iloopB))) (.int (0 : Int32)) → Exa Z h b292 "[B" → ((s6 = .unset ∨ ∃ w, s6 = .val w ∧ w.category = 1)) → ((s7 = .unset ∨ ∃ w, s7 = .val w ∧ w.category = 1)) → ((s8 = .unset ∨ ∃ w, s8 = .val w ∧ w.category = 1)) → own_Go p e below (T.setTop (mkF m 58 #[rv t, iv (1 : Int32), iv (Int32.ofNat (own_u8s (cs.take iloopB)).length), iv (Int32.ofNat iloopB), iv (Int32.ofNat cs.length), rv b292, s6, s7, s8] [])) (fun oO U' => ∃ rV rL, oO = .returned rV ∧ QNew Z (Int32.ofNat (own_u8s cs).length) ((own_u8s cs).map Value.int) h0 n0 rV U'.heap rL ∧ FrameEnd s oO U' rL 2 12) := by
    intro kT
    induction kT with
    | zero =>
      intro iloopB s6 s7 s8 T294 L294 h294 hik X294 e294 N294 O294 K294 J0_294 J1_294 J2_294 hs6 hs7 hs8
      have Z0_294 : n0 ≤ h294.size := O294.1 ▸ O294.2.1
      have hel := own_u8l3 (cs.take iloopB)
      rw [own_tkl (by omega)] at hel
      have hin : iloopB = cs.length := by omega
      have hlt : ¬ ((Int32.ofNat iloopB) < (Int32.ofNat cs.length)) := by rw [own_lti (by omega) (by omega)]; omega
      refine wl X294 hx hby 58 d42_47_58 rfl ?_
      refine wm X294 hx hby 59 d42_47_59 rfl ?_
      try dsimp only [mkF]
      refine wy X294 hx hby 61 355 d42_47_61 (flt hlt).2.1 ?_
      refine wl X294 hx hby 355 d42_47_355 rfl ?_
      refine wb X294 hx hby 356 d42_47_356 rfl rfl ?_
      obtain ⟨c295, A295, q295, S295, M295, Hs295, Gs295⟩ := id J1_294
      refine og (fun _ k => X294.arraylength hx (by rw [e294]; exact A295.1) (State.isArrayOf_alike hZ.alike A295.2.1) (g := (mkF m 358 #[rv t, iv (1 : Int32), iv (Int32.ofNat (own_u8s (cs.take iloopB)).length), iv (Int32.ofNat iloopB), iv (Int32.ofNat cs.length), rv b292, s6, s7, s8] [(.ref b292), (.int (Int32.ofNat (own_u8s (cs.take iloopB)).length))])) rfl rfl (hb hby d42_47_358) _ k) ?_
      rw [len_of S295 M295]
      by_cases hc296 : (Int32.ofNat (own_u8s (cs.take iloopB)).length) = (Int32.ofNat (cs.length * 3))
      · skip
        have hfl : (own_u8s (cs.take iloopB)).length = (cs.length * 3) := own_eqN hc296 (by omega) (by omega)
        have Vf : Arv Z h294 b292 k292 .byte (Int32.ofNat (own_u8s (cs.take iloopB)).length) ((own_u8s (cs.take iloopB)).map Value.int) (.int (0 : Int32)) := by have q := J1_294; unfold own_uP at q; rw [hfl, Nat.sub_self] at q; rw [hfl]; simpa [own_z] using q
        refine wn X294 hx hby 359 d42_47_359 (teq hc296).2 ?_
        try dsimp only [mkF]
        refine wb X294 hx hby 362 d42_47_362 rfl rfl ?_
        refine own_fin (v := (some (.ref b292))) X294 (fun h => by rw [hrt] at h; cases h) hlk (fun fs hr => retR X294 hx hrt (by rfl) rfl rfl (hb hby d42_47_364) hr) (QQ := QNew Z (Int32.ofNat (own_u8s cs).length) ((own_u8s cs).map Value.int) h0 n0) ?_ (by decide) (by decide)
        rw [e294]
        exact ⟨b292, _, rfl, N294, K294, (Nat.le_of_eq g292.symm), (by have q := Vf; rw [hin, own_u8n] at q; exact q), J2_294⟩
      · skip
        have hfl : ¬ (own_u8s (cs.take iloopB)).length = (cs.length * 3) := fun q => hc296 (by rw [q])
        refine wy X294 hx hby 359 365 d42_47_359 (feq hc296).2 ?_
        try dsimp only [mkF]
        refine wb X294 hx hby 365 d42_47_365 rfl rfl ?_
        refine wl X294 hx hby 367 d42_47_367 rfl ?_
        obtain ⟨v297, _, ⟨T297, L297, k297, n297⟩, -, X297, ⟨Lc297, hQ297, l297, y297, z297⟩, st297⟩ := Jvm.LawKit.callS X294 hx (y := (⟨"java/util/Arrays", "copyOf", "([BI)[B"⟩ : MethodName)) hown (mvT hZ (tw hw 298 rfl)) (mvT hZ (tw hw 284 rfl)) (mvT hZ (tw hw 89 rfl)) (mvT hZ (tw hw 285 rfl)) (by decide) (backOf (W := 0) (rm_cpU l Z a0 hw [] b292 k292 (cs.length * 3) (own_u8s (cs.take iloopB)) h294 n0 O294 J1_294 (by have := hfl; omega) (by omega)) hZ (tw hw 285 rfl) (tw hw 89 rfl) (by decide) (by decide)) (g := (mkF m 368 #[rv t, iv (1 : Int32), iv (Int32.ofNat (own_u8s (cs.take iloopB)).length), iv (Int32.ofNat iloopB), iv (Int32.ofNat cs.length), rv b292, s6, s7, s8] [(.int (Int32.ofNat (own_u8s (cs.take iloopB)).length)), (.ref b292)])) rfl (by rw [hml]; rfl) (argsL := [(.ref b292), (.int (Int32.ofNat (own_u8s (cs.take iloopB)).length))]) (rest := []) (lenOf pd_14 rfl) rfl (by show 2 * 0 + _ ≤ _; exact Nat.le_of_eq rfl) (hb hby d42_47_368) (fun _ _ => ⟨rfl, e294, (by decide : 1 + 1 ≤ _), (by decide : 6 + 6 ≤ _)⟩)
        dsimp only [Pt.U, Pt.locs, Pt.cells, Pt.slots] at X297 l297 y297 z297 st297 hQ297
        subst l297 y297 z297
        refine own_go st297 ?_
        obtain ⟨t297, kt297, rfl, Nq297, K297, tg297, Vt297, Xt297⟩ := hQ297
        have N297 := Fr.app N294 Nq297
        refine own_fin (v := (some (.ref t297))) X297 (fun h => by rw [hrt] at h; cases h) hlk (fun fs hr => retR X297 hx hrt (by rfl) rfl rfl (hb hby d42_47_371) hr) (QQ := QNew Z (Int32.ofNat (own_u8s cs).length) ((own_u8s cs).map Value.int) h0 n0) ?_ (by decide) (by decide)
        exact ⟨t297, _, rfl, N297, (K294.trans K297 all0), (Nat.le_trans K294.1 tg297), (by have q := Vt297; rw [hin, own_u8n] at q; exact q), Xt297⟩
    | succ kT ih =>
      intro iloopB s6 s7 s8 T298 L298 h298 hik X298 e298 N298 O298 K298 J0_298 J1_298 J2_298 hs6 hs7 hs8
      have Z0_298 : n0 ≤ h298.size := O298.1 ▸ O298.2.1
      have hel := own_u8l3 (cs.take iloopB)
      rw [own_tkl (by omega)] at hel
      have hi : iloopB < cs.length := by omega
      have hlt : (Int32.ofNat iloopB) < (Int32.ofNat cs.length) := (own_lti (by omega) (by omega)).mpr hi
      refine wl X298 hx hby 58 d42_47_58 rfl ?_
      refine wm X298 hx hby 59 d42_47_59 rfl ?_
      try dsimp only [mkF]
      refine wn X298 hx hby 61 d42_47_61 (tlt hlt).2.1 ?_
      refine wa X298 hx hby 64 d42_47_64 rfl rfl ?_
      refine wl X298 hx hby 65 d42_47_65 rfl ?_
      refine wi X298 hx hby 66 #[rv t, iv (1 : Int32), iv (Int32.ofNat (own_u8s (cs.take iloopB)).length), iv ((Int32.ofNat iloopB) + (1 : Int32)), iv (Int32.ofNat cs.length), rv b292, s6, s7, s8] d42_47_66 rfl rfl ?_
      obtain ⟨v299, _, ⟨T299, L299, k299, n299⟩, -, X299, ⟨Lc299, hQ299, l299, y299, z299⟩, st299⟩ := Jvm.LawKit.callS X298 hx (y := (⟨"java/lang/StringUTF16", "getChar", "([BI)C"⟩ : MethodName)) hown (mvT hZ (tw hw 263 rfl)) (mvT hZ (tw hw 255 rfl)) (mvT hZ (tw hw 179 rfl)) (mvT hZ (tw hw 256 rfl)) (by decide) (backOf (W := 0) (rm_get l Z a0 hw [] t kt (2 * cs.length) (StrChars.Road.wideBytes cs) iloopB (cs.getD iloopB 0) h298 n0 O298 OA OH OL J0_298 (StrChars.Road.wide_lo _ cs _ hi) (StrChars.Road.wide_hi _ cs _ hi) (by omega) (by omega) (hok.at hi)) hZ (tw hw 256 rfl) (tw hw 179 rfl) (by decide) (by decide)) (g := (mkF m 69 #[rv t, iv (1 : Int32), iv (Int32.ofNat (own_u8s (cs.take iloopB)).length), iv ((Int32.ofNat iloopB) + (1 : Int32)), iv (Int32.ofNat cs.length), rv b292, s6, s7, s8] [(.int (Int32.ofNat iloopB)), (.ref t)])) rfl (by rw [hml]; rfl) (argsL := [(.ref t), (.int (Int32.ofNat iloopB))]) (rest := []) (lenOf pd_5 rfl) rfl (by show 2 * 0 + _ ≤ _; exact Nat.le_of_eq rfl) (hb hby d42_47_69) (fun _ _ => ⟨rfl, e298, (by decide : 1 + 0 ≤ _), (by decide : 6 + 0 ≤ _)⟩)
      dsimp only [Pt.U, Pt.locs, Pt.cells, Pt.slots] at X299 l299 y299 z299 st299 hQ299
      subst l299 y299 z299
      refine own_go st299 ?_
      obtain ⟨rfl, Nq299, e299⟩ := hQ299
      have N299 := Fr.app N298 Nq299
      try dsimp only [mkF]
      refine og (fun _ k => XS.istoreS X299.here hx rfl (hb hby d42_47_72) rfl rfl hs6 k) ?_
      refine wm X299 hx hby 74 d42_47_74 rfl ?_
      refine og (fun _ k => XS.sipush X299.here hx rfl (hb hby d42_47_76) k) ?_
      by_cases hc300 : (cs.getD iloopB 0) < (128 : Int32)
      · skip
        refine wn X299 hx hby 79 d42_47_79 (tlt hc300).2.1 ?_
        refine wb X299 hx hby 82 d42_47_82 rfl rfl ?_
        try dsimp only [mkF]
        refine wl X299 hx hby 84 d42_47_84 rfl ?_
        refine wi X299 hx hby 85 #[rv t, iv (1 : Int32), iv ((Int32.ofNat (own_u8s (cs.take iloopB)).length) + (1 : Int32)), iv ((Int32.ofNat iloopB) + (1 : Int32)), iv (Int32.ofNat cs.length), rv b292, iv (cs.getD iloopB 0), s7, s8] d42_47_85 rfl rfl ?_
        refine wm X299 hx hby 88 d42_47_88 rfl ?_
        refine og (fun _ k => XS.i2b X299.here hx rfl (hb hby d42_47_90) rfl k) ?_
        obtain ⟨c301, A301, q301, S301, M301, Hs301, Gs301⟩ := id J1_298
        obtain ⟨T302, h302, X302, e302, W302, st302⟩ := stB X299 hx hZ e299 A301 (j := (Int32.ofNat (own_u8s (cs.take iloopB)).length)) (inb_of S301 (own_inb (i := (own_u8s (cs.take iloopB)).length) (j := (cs.length * 3)) (by omega) (by omega))) (g := (mkF m 91 #[rv t, iv (1 : Int32), iv ((Int32.ofNat (own_u8s (cs.take iloopB)).length) + (1 : Int32)), iv ((Int32.ofNat iloopB) + (1 : Int32)), iv (Int32.ofNat cs.length), rv b292, iv (cs.getD iloopB 0), s7, s8] [(.int ((cs.getD iloopB 0).toInt8.toInt32)), (.int (Int32.ofNat (own_u8s (cs.take iloopB)).length)), (.ref b292)])) rfl rfl (hb hby d42_47_91)
        refine own_go st302 ?_
        have N302 := Fr.snoc X302 N299 (Nat.le_trans Z0 (Nat.le_of_eq g292.symm))
        have V302 : Arv Z h302 b292 k292 .byte (Int32.ofNat (cs.length * 3)) (own_uP (cs.length * 3) ((own_u8s (cs.take iloopB)) ++ [(cs.getD iloopB 0)])) (.int (0 : Int32)) := Eq.mp (congrArg (fun LL => Arv Z h302 b292 k292 .byte (Int32.ofNat (cs.length * 3)) LL (.int (0 : Int32))) (show ((own_uP (cs.length * 3) (own_u8s (cs.take iloopB))) : List Value).set (own_u8s (cs.take iloopB)).length (.int (nar .byte ((cs.getD iloopB 0).toInt8.toInt32))) = (own_uP (cs.length * 3) ((own_u8s (cs.take iloopB)) ++ [(cs.getD iloopB 0)])) from ((congrArg (fun z => (own_uP (cs.length * 3) (own_u8s (cs.take iloopB))).set (own_u8s (cs.take iloopB)).length (Value.int z)) (own_n8 (own_l128 (hok.at hi).1 hc300))).trans (own_apU (by omega))))) (Arv.set A301 q301 S301 M301 Hs301 Gs301 (fits_nar_byte _) W302 (own_u8s (cs.take iloopB)).length (own_tn (by first | omega | (simp only [List.length_append, List.length_cons, List.length_nil]; omega))) (by rw [own_uPl (Nat.le_of_lt (by omega))]; exact (by omega)))
        try dsimp only [mkF]
        show own_Go p e below (T302.setTop (mkF m 92 #[rv t, iv (1 : Int32), iv ((Int32.ofNat (own_u8s (cs.take iloopB)).length) + (1 : Int32)), iv ((Int32.ofNat iloopB) + (1 : Int32)), iv (Int32.ofNat cs.length), rv b292, iv (cs.getD iloopB 0), s7, s8] [])) _
        rw [own_len1 (own_u8s (cs.take iloopB)) (cs.getD iloopB 0)]
        refine wg X302 hx hby 92 352 d42_47_92 ?_
        refine wg X302 hx hby 352 58 d42_47_352 ?_
        show own_Go p e below (T302.setTop (mkF m 58 #[rv t, iv (1 : Int32), iv (Int32.ofNat ((own_u8s (cs.take iloopB)) ++ [(cs.getD iloopB 0)]).length), iv ((Int32.ofNat iloopB) + (1 : Int32)), iv (Int32.ofNat cs.length), rv b292, iv (cs.getD iloopB 0), s7, s8] [])) _
        have eqn : ((own_u8s (cs.take iloopB)) ++ [(cs.getD iloopB 0)]) = own_u8s (cs.take (iloopB + 1)) := by rw [own_u8t hi]; unfold own_u8; rw [if_pos hc300]
        rw [own_inc, eqn]
        have f303 := (J0_298.other W302 ne293)
        have f304 := (O298.wr W302 (Nat.le_trans Z0 (Nat.le_of_eq g292.symm)))
        have f305 := (K298.wr W302 (Or.inr (Nat.le_of_eq g292.symm)))
        exact ih (iloopB + 1) (iv (cs.getD iloopB 0)) s7 s8 T302 _ h302 (by omega) X302 e302 N302 f304 f305 f303 (eqn ▸ V302) (J2_298.wr W302) (Or.inr ⟨_, rfl, rfl⟩) hs7 hs8
      · skip
        refine wy X299 hx hby 79 95 d42_47_79 (flt hc300).2.1 ?_
        refine wm X299 hx hby 95 d42_47_95 rfl ?_
        try dsimp only [mkF]
        refine og (fun _ k => XS.sipush X299.here hx rfl (hb hby d42_47_97) k) ?_
        by_cases hc306 : (cs.getD iloopB 0) < (2048 : Int32)
        · skip
          refine wn X299 hx hby 100 d42_47_100 (tlt hc306).2.1 ?_
          refine wb X299 hx hby 103 d42_47_103 rfl rfl ?_
          refine wl X299 hx hby 105 d42_47_105 rfl ?_
          refine wi X299 hx hby 106 #[rv t, iv (1 : Int32), iv ((Int32.ofNat (own_u8s (cs.take iloopB)).length) + (1 : Int32)), iv ((Int32.ofNat iloopB) + (1 : Int32)), iv (Int32.ofNat cs.length), rv b292, iv (cs.getD iloopB 0), s7, s8] d42_47_106 rfl rfl ?_
          try dsimp only [mkF]
          refine og (fun _ k => XS.sipush X299.here hx rfl (hb hby d42_47_109) k) ?_
          refine wm X299 hx hby 112 d42_47_112 rfl ?_
          refine wp X299 hx hby 114 d42_47_114 ?_
          refine og (fun _ k => XS.ishr X299.here hx rfl (hb hby d42_47_116) rfl k) ?_
          refine og (fun _ k => XS.ior X299.here hx rfl (hb hby d42_47_117) rfl k) ?_
          try dsimp only [mkF]
          refine og (fun _ k => XS.i2b X299.here hx rfl (hb hby d42_47_118) rfl k) ?_
          obtain ⟨c307, A307, q307, S307, M307, Hs307, Gs307⟩ := id J1_298
          obtain ⟨T308, h308, X308, e308, W308, st308⟩ := stB X299 hx hZ e299 A307 (j := (Int32.ofNat (own_u8s (cs.take iloopB)).length)) (inb_of S307 (own_inb (i := (own_u8s (cs.take iloopB)).length) (j := (cs.length * 3)) (by omega) (by omega))) (g := (mkF m 119 #[rv t, iv (1 : Int32), iv ((Int32.ofNat (own_u8s (cs.take iloopB)).length) + (1 : Int32)), iv ((Int32.ofNat iloopB) + (1 : Int32)), iv (Int32.ofNat cs.length), rv b292, iv (cs.getD iloopB 0), s7, s8] [(.int (((192 : Int32) ||| ((cs.getD iloopB 0) >>> ((6 : Int32) &&& 31))).toInt8.toInt32)), (.int (Int32.ofNat (own_u8s (cs.take iloopB)).length)), (.ref b292)])) rfl rfl (hb hby d42_47_119)
          refine own_go st308 ?_
          have N308 := Fr.snoc X308 N299 (Nat.le_trans Z0 (Nat.le_of_eq g292.symm))
          have V308 : Arv Z h308 b292 k292 .byte (Int32.ofNat (cs.length * 3)) (own_uP (cs.length * 3) ((own_u8s (cs.take iloopB)) ++ [(StrChars.lo8 (own_b2 (cs.getD iloopB 0)))])) (.int (0 : Int32)) := Eq.mp (congrArg (fun LL => Arv Z h308 b292 k292 .byte (Int32.ofNat (cs.length * 3)) LL (.int (0 : Int32))) (show ((own_uP (cs.length * 3) (own_u8s (cs.take iloopB))) : List Value).set (own_u8s (cs.take iloopB)).length (.int (nar .byte (((192 : Int32) ||| ((cs.getD iloopB 0) >>> ((6 : Int32) &&& 31))).toInt8.toInt32))) = (own_uP (cs.length * 3) ((own_u8s (cs.take iloopB)) ++ [(StrChars.lo8 (own_b2 (cs.getD iloopB 0)))])) from ((congrArg (fun z => (own_uP (cs.length * 3) (own_u8s (cs.take iloopB))).set (own_u8s (cs.take iloopB)).length (Value.int z)) (own_nb (own_b2 (cs.getD iloopB 0)))).trans (own_apU (by omega))))) (Arv.set A307 q307 S307 M307 Hs307 Gs307 (fits_nar_byte _) W308 (own_u8s (cs.take iloopB)).length (own_tn (by first | omega | (simp only [List.length_append, List.length_cons, List.length_nil]; omega))) (by rw [own_uPl (Nat.le_of_lt (by omega))]; exact (by omega)))
          show own_Go p e below (T308.setTop (mkF m 120 #[rv t, iv (1 : Int32), iv ((Int32.ofNat (own_u8s (cs.take iloopB)).length) + (1 : Int32)), iv ((Int32.ofNat iloopB) + (1 : Int32)), iv (Int32.ofNat cs.length), rv b292, iv (cs.getD iloopB 0), s7, s8] [])) _
          rw [own_len1 (own_u8s (cs.take iloopB)) (StrChars.lo8 (own_b2 (cs.getD iloopB 0)))]
          refine wb X308 hx hby 120 d42_47_120 rfl rfl ?_
          refine wl X308 hx hby 122 d42_47_122 rfl ?_
          try dsimp only [mkF]
          refine wi X308 hx hby 123 #[rv t, iv (1 : Int32), iv ((Int32.ofNat ((own_u8s (cs.take iloopB)) ++ [(StrChars.lo8 (own_b2 (cs.getD iloopB 0)))]).length) + (1 : Int32)), iv ((Int32.ofNat iloopB) + (1 : Int32)), iv (Int32.ofNat cs.length), rv b292, iv (cs.getD iloopB 0), s7, s8] d42_47_123 rfl rfl ?_
          refine og (fun _ k => XS.sipush X308.here hx rfl (hb hby d42_47_126) k) ?_
          refine wm X308 hx hby 129 d42_47_129 rfl ?_
          refine wp X308 hx hby 131 d42_47_131 ?_
          refine og (fun _ k => XS.iand X308.here hx rfl (hb hby d42_47_133) rfl k) ?_
          try dsimp only [mkF]
          refine og (fun _ k => XS.ior X308.here hx rfl (hb hby d42_47_134) rfl k) ?_
          refine og (fun _ k => XS.i2b X308.here hx rfl (hb hby d42_47_135) rfl k) ?_
          obtain ⟨c309, A309, q309, S309, M309, Hs309, Gs309⟩ := id V308
          obtain ⟨T310, h310, X310, e310, W310, st310⟩ := stB X308 hx hZ e308 A309 (j := (Int32.ofNat ((own_u8s (cs.take iloopB)) ++ [(StrChars.lo8 (own_b2 (cs.getD iloopB 0)))]).length)) (inb_of S309 (own_inb (i := ((own_u8s (cs.take iloopB)) ++ [(StrChars.lo8 (own_b2 (cs.getD iloopB 0)))]).length) (j := (cs.length * 3)) (by rw [List.length_append]; show _ + 1 < _; omega) (by omega))) (g := (mkF m 136 #[rv t, iv (1 : Int32), iv ((Int32.ofNat ((own_u8s (cs.take iloopB)) ++ [(StrChars.lo8 (own_b2 (cs.getD iloopB 0)))]).length) + (1 : Int32)), iv ((Int32.ofNat iloopB) + (1 : Int32)), iv (Int32.ofNat cs.length), rv b292, iv (cs.getD iloopB 0), s7, s8] [(.int (((128 : Int32) ||| ((cs.getD iloopB 0) &&& (63 : Int32))).toInt8.toInt32)), (.int (Int32.ofNat ((own_u8s (cs.take iloopB)) ++ [(StrChars.lo8 (own_b2 (cs.getD iloopB 0)))]).length)), (.ref b292)])) rfl rfl (hb hby d42_47_136)
          refine own_go st310 ?_
          have N310 := Fr.snoc X310 N308 (Nat.le_trans Z0 (Nat.le_of_eq g292.symm))
          have V310 : Arv Z h310 b292 k292 .byte (Int32.ofNat (cs.length * 3)) (own_uP (cs.length * 3) (((own_u8s (cs.take iloopB)) ++ [(StrChars.lo8 (own_b2 (cs.getD iloopB 0)))]) ++ [(StrChars.lo8 (own_bl (cs.getD iloopB 0)))])) (.int (0 : Int32)) := Eq.mp (congrArg (fun LL => Arv Z h310 b292 k292 .byte (Int32.ofNat (cs.length * 3)) LL (.int (0 : Int32))) (show ((own_uP (cs.length * 3) ((own_u8s (cs.take iloopB)) ++ [(StrChars.lo8 (own_b2 (cs.getD iloopB 0)))])) : List Value).set ((own_u8s (cs.take iloopB)) ++ [(StrChars.lo8 (own_b2 (cs.getD iloopB 0)))]).length (.int (nar .byte (((128 : Int32) ||| ((cs.getD iloopB 0) &&& (63 : Int32))).toInt8.toInt32))) = (own_uP (cs.length * 3) (((own_u8s (cs.take iloopB)) ++ [(StrChars.lo8 (own_b2 (cs.getD iloopB 0)))]) ++ [(StrChars.lo8 (own_bl (cs.getD iloopB 0)))])) from ((congrArg (fun z => (own_uP (cs.length * 3) ((own_u8s (cs.take iloopB)) ++ [(StrChars.lo8 (own_b2 (cs.getD iloopB 0)))])).set ((own_u8s (cs.take iloopB)) ++ [(StrChars.lo8 (own_b2 (cs.getD iloopB 0)))]).length (Value.int z)) (own_nb (own_bl (cs.getD iloopB 0)))).trans (own_apU (by rw [List.length_append]; show _ + 1 < _; omega))))) (Arv.set A309 q309 S309 M309 Hs309 Gs309 (fits_nar_byte _) W310 ((own_u8s (cs.take iloopB)) ++ [(StrChars.lo8 (own_b2 (cs.getD iloopB 0)))]).length (own_tn (by first | omega | (simp only [List.length_append, List.length_cons, List.length_nil]; omega))) (by rw [own_uPl (Nat.le_of_lt (by rw [List.length_append]; show _ + 1 < _; omega))]; exact (by rw [List.length_append]; show _ + 1 < _; omega)))
          show own_Go p e below (T310.setTop (mkF m 137 #[rv t, iv (1 : Int32), iv ((Int32.ofNat ((own_u8s (cs.take iloopB)) ++ [(StrChars.lo8 (own_b2 (cs.getD iloopB 0)))]).length) + (1 : Int32)), iv ((Int32.ofNat iloopB) + (1 : Int32)), iv (Int32.ofNat cs.length), rv b292, iv (cs.getD iloopB 0), s7, s8] [])) _
          rw [own_len1 ((own_u8s (cs.take iloopB)) ++ [(StrChars.lo8 (own_b2 (cs.getD iloopB 0)))]) (StrChars.lo8 (own_bl (cs.getD iloopB 0)))]
          refine wg X310 hx hby 137 352 d42_47_137 ?_
          try dsimp only [mkF]
          refine wg X310 hx hby 352 58 d42_47_352 ?_
          show own_Go p e below (T310.setTop (mkF m 58 #[rv t, iv (1 : Int32), iv (Int32.ofNat (((own_u8s (cs.take iloopB)) ++ [(StrChars.lo8 (own_b2 (cs.getD iloopB 0)))]) ++ [(StrChars.lo8 (own_bl (cs.getD iloopB 0)))]).length), iv ((Int32.ofNat iloopB) + (1 : Int32)), iv (Int32.ofNat cs.length), rv b292, iv (cs.getD iloopB 0), s7, s8] [])) _
          have eqn : (((own_u8s (cs.take iloopB)) ++ [(StrChars.lo8 (own_b2 (cs.getD iloopB 0)))]) ++ [(StrChars.lo8 (own_bl (cs.getD iloopB 0)))]) = own_u8s (cs.take (iloopB + 1)) := by rw [own_u8t hi]; unfold own_u8; rw [if_neg hc300, if_pos hc306]; simp
          rw [own_inc, eqn]
          have f311 := ((J0_298.other W308 ne293).other W310 ne293)
          have f312 := ((J2_298.wr W308).wr W310)
          have f313 := ((O298.wr W308 (Nat.le_trans Z0 (Nat.le_of_eq g292.symm))).wr W310 (Nat.le_trans Z0 (Nat.le_of_eq g292.symm)))
          have f314 := ((K298.wr W308 (Or.inr (Nat.le_of_eq g292.symm))).wr W310 (Or.inr (Nat.le_of_eq g292.symm)))
          exact ih (iloopB + 1) (iv (cs.getD iloopB 0)) s7 s8 T310 _ h310 (by omega) X310 e310 N310 f313 f314 f311 (eqn ▸ V310) f312 (Or.inr ⟨_, rfl, rfl⟩) hs7 hs8
        · skip
          refine wy X299 hx hby 100 140 d42_47_100 (flt hc306).2.1 ?_
          refine wm X299 hx hby 140 d42_47_140 rfl ?_
          obtain ⟨v315, _, ⟨T315, L315, k315, n315⟩, -, X315, ⟨Lc315, hQ315, l315, y315, z315⟩, st315⟩ := Jvm.LawKit.callS X299 hx (y := (⟨"java/lang/Character", "isSurrogate", "(C)Z"⟩ : MethodName)) hown (mvT hZ (tw hw 264 rfl)) (mvT hZ (tw hw 265 rfl)) (mvT hZ (tw hw 266 rfl)) (mvT hZ (tw hw 267 rfl)) (by decide) (backOf (W := 0) (rm_sur l Z a0 hw [] (cs.getD iloopB 0) h298 n0 O298 ) hZ (tw hw 267 rfl) (tw hw 266 rfl) (by decide) (by decide)) (g := (mkF m 142 #[rv t, iv (1 : Int32), iv (Int32.ofNat (own_u8s (cs.take iloopB)).length), iv ((Int32.ofNat iloopB) + (1 : Int32)), iv (Int32.ofNat cs.length), rv b292, iv (cs.getD iloopB 0), s7, s8] [(.int (cs.getD iloopB 0))])) rfl (by rw [hml]; rfl) (argsL := [(.int (cs.getD iloopB 0))]) (rest := []) (lenOf pd_9 rfl) rfl (by show 2 * 0 + _ ≤ _; exact Nat.le_of_eq rfl) (hb hby d42_47_142) (fun _ _ => ⟨rfl, e299, (by decide : 1 + 0 ≤ _), (by decide : 6 + 0 ≤ _)⟩)
          dsimp only [Pt.U, Pt.locs, Pt.cells, Pt.slots] at X315 l315 y315 z315 st315 hQ315
          subst l315 y315 z315
          refine own_go st315 ?_
          obtain ⟨rfl, Nq315, e315⟩ := hQ315
          have N315 := Fr.app N299 Nq315
          refine wf X315 hx hby 145 298 d42_47_145 ((if0 _ _).trans (teq (own_sur0 (hns _ (own_getm hi)))).1) ?_
          try dsimp only [mkF]
          refine wb X315 hx hby 298 d42_47_298 rfl rfl ?_
          refine wl X315 hx hby 300 d42_47_300 rfl ?_
          refine wi X315 hx hby 301 #[rv t, iv (1 : Int32), iv ((Int32.ofNat (own_u8s (cs.take iloopB)).length) + (1 : Int32)), iv ((Int32.ofNat iloopB) + (1 : Int32)), iv (Int32.ofNat cs.length), rv b292, iv (cs.getD iloopB 0), s7, s8] d42_47_301 rfl rfl ?_
          refine og (fun _ k => XS.sipush X315.here hx rfl (hb hby d42_47_304) k) ?_
          refine wm X315 hx hby 307 d42_47_307 rfl ?_
          try dsimp only [mkF]
          refine wp X315 hx hby 309 d42_47_309 ?_
          refine og (fun _ k => XS.ishr X315.here hx rfl (hb hby d42_47_311) rfl k) ?_
          refine og (fun _ k => XS.ior X315.here hx rfl (hb hby d42_47_312) rfl k) ?_
          refine og (fun _ k => XS.i2b X315.here hx rfl (hb hby d42_47_313) rfl k) ?_
          obtain ⟨c316, A316, q316, S316, M316, Hs316, Gs316⟩ := id J1_298
          obtain ⟨T317, h317, X317, e317, W317, st317⟩ := stB X315 hx hZ e315 A316 (j := (Int32.ofNat (own_u8s (cs.take iloopB)).length)) (inb_of S316 (own_inb (i := (own_u8s (cs.take iloopB)).length) (j := (cs.length * 3)) (by omega) (by omega))) (g := (mkF m 314 #[rv t, iv (1 : Int32), iv ((Int32.ofNat (own_u8s (cs.take iloopB)).length) + (1 : Int32)), iv ((Int32.ofNat iloopB) + (1 : Int32)), iv (Int32.ofNat cs.length), rv b292, iv (cs.getD iloopB 0), s7, s8] [(.int (((224 : Int32) ||| ((cs.getD iloopB 0) >>> ((12 : Int32) &&& 31))).toInt8.toInt32)), (.int (Int32.ofNat (own_u8s (cs.take iloopB)).length)), (.ref b292)])) rfl rfl (hb hby d42_47_314)
          refine own_go st317 ?_
          have N317 := Fr.snoc X317 N315 (Nat.le_trans Z0 (Nat.le_of_eq g292.symm))
          have V317 : Arv Z h317 b292 k292 .byte (Int32.ofNat (cs.length * 3)) (own_uP (cs.length * 3) ((own_u8s (cs.take iloopB)) ++ [(StrChars.lo8 (own_b3 (cs.getD iloopB 0)))])) (.int (0 : Int32)) := Eq.mp (congrArg (fun LL => Arv Z h317 b292 k292 .byte (Int32.ofNat (cs.length * 3)) LL (.int (0 : Int32))) (show ((own_uP (cs.length * 3) (own_u8s (cs.take iloopB))) : List Value).set (own_u8s (cs.take iloopB)).length (.int (nar .byte (((224 : Int32) ||| ((cs.getD iloopB 0) >>> ((12 : Int32) &&& 31))).toInt8.toInt32))) = (own_uP (cs.length * 3) ((own_u8s (cs.take iloopB)) ++ [(StrChars.lo8 (own_b3 (cs.getD iloopB 0)))])) from ((congrArg (fun z => (own_uP (cs.length * 3) (own_u8s (cs.take iloopB))).set (own_u8s (cs.take iloopB)).length (Value.int z)) (own_nb (own_b3 (cs.getD iloopB 0)))).trans (own_apU (by omega))))) (Arv.set A316 q316 S316 M316 Hs316 Gs316 (fits_nar_byte _) W317 (own_u8s (cs.take iloopB)).length (own_tn (by first | omega | (simp only [List.length_append, List.length_cons, List.length_nil]; omega))) (by rw [own_uPl (Nat.le_of_lt (by omega))]; exact (by omega)))
          try dsimp only [mkF]
          show own_Go p e below (T317.setTop (mkF m 315 #[rv t, iv (1 : Int32), iv ((Int32.ofNat (own_u8s (cs.take iloopB)).length) + (1 : Int32)), iv ((Int32.ofNat iloopB) + (1 : Int32)), iv (Int32.ofNat cs.length), rv b292, iv (cs.getD iloopB 0), s7, s8] [])) _
          rw [own_len1 (own_u8s (cs.take iloopB)) (StrChars.lo8 (own_b3 (cs.getD iloopB 0)))]
          refine wb X317 hx hby 315 d42_47_315 rfl rfl ?_
          refine wl X317 hx hby 317 d42_47_317 rfl ?_
          refine wi X317 hx hby 318 #[rv t, iv (1 : Int32), iv ((Int32.ofNat ((own_u8s (cs.take iloopB)) ++ [(StrChars.lo8 (own_b3 (cs.getD iloopB 0)))]).length) + (1 : Int32)), iv ((Int32.ofNat iloopB) + (1 : Int32)), iv (Int32.ofNat cs.length), rv b292, iv (cs.getD iloopB 0), s7, s8] d42_47_318 rfl rfl ?_
          refine og (fun _ k => XS.sipush X317.here hx rfl (hb hby d42_47_321) k) ?_
          try dsimp only [mkF]
          refine wm X317 hx hby 324 d42_47_324 rfl ?_
          refine wp X317 hx hby 326 d42_47_326 ?_
          refine og (fun _ k => XS.ishr X317.here hx rfl (hb hby d42_47_328) rfl k) ?_
          refine wp X317 hx hby 329 d42_47_329 ?_
          refine og (fun _ k => XS.iand X317.here hx rfl (hb hby d42_47_331) rfl k) ?_
          try dsimp only [mkF]
          refine og (fun _ k => XS.ior X317.here hx rfl (hb hby d42_47_332) rfl k) ?_
          refine og (fun _ k => XS.i2b X317.here hx rfl (hb hby d42_47_333) rfl k) ?_
          obtain ⟨c318, A318, q318, S318, M318, Hs318, Gs318⟩ := id V317
          obtain ⟨T319, h319, X319, e319, W319, st319⟩ := stB X317 hx hZ e317 A318 (j := (Int32.ofNat ((own_u8s (cs.take iloopB)) ++ [(StrChars.lo8 (own_b3 (cs.getD iloopB 0)))]).length)) (inb_of S318 (own_inb (i := ((own_u8s (cs.take iloopB)) ++ [(StrChars.lo8 (own_b3 (cs.getD iloopB 0)))]).length) (j := (cs.length * 3)) (by rw [List.length_append]; show _ + 1 < _; omega) (by omega))) (g := (mkF m 334 #[rv t, iv (1 : Int32), iv ((Int32.ofNat ((own_u8s (cs.take iloopB)) ++ [(StrChars.lo8 (own_b3 (cs.getD iloopB 0)))]).length) + (1 : Int32)), iv ((Int32.ofNat iloopB) + (1 : Int32)), iv (Int32.ofNat cs.length), rv b292, iv (cs.getD iloopB 0), s7, s8] [(.int (((128 : Int32) ||| (((cs.getD iloopB 0) >>> ((6 : Int32) &&& 31)) &&& (63 : Int32))).toInt8.toInt32)), (.int (Int32.ofNat ((own_u8s (cs.take iloopB)) ++ [(StrChars.lo8 (own_b3 (cs.getD iloopB 0)))]).length)), (.ref b292)])) rfl rfl (hb hby d42_47_334)
          refine own_go st319 ?_
          have N319 := Fr.snoc X319 N317 (Nat.le_trans Z0 (Nat.le_of_eq g292.symm))
          have V319 : Arv Z h319 b292 k292 .byte (Int32.ofNat (cs.length * 3)) (own_uP (cs.length * 3) (((own_u8s (cs.take iloopB)) ++ [(StrChars.lo8 (own_b3 (cs.getD iloopB 0)))]) ++ [(StrChars.lo8 (own_bm (cs.getD iloopB 0)))])) (.int (0 : Int32)) := Eq.mp (congrArg (fun LL => Arv Z h319 b292 k292 .byte (Int32.ofNat (cs.length * 3)) LL (.int (0 : Int32))) (show ((own_uP (cs.length * 3) ((own_u8s (cs.take iloopB)) ++ [(StrChars.lo8 (own_b3 (cs.getD iloopB 0)))])) : List Value).set ((own_u8s (cs.take iloopB)) ++ [(StrChars.lo8 (own_b3 (cs.getD iloopB 0)))]).length (.int (nar .byte (((128 : Int32) ||| (((cs.getD iloopB 0) >>> ((6 : Int32) &&& 31)) &&& (63 : Int32))).toInt8.toInt32))) = (own_uP (cs.length * 3) (((own_u8s (cs.take iloopB)) ++ [(StrChars.lo8 (own_b3 (cs.getD iloopB 0)))]) ++ [(StrChars.lo8 (own_bm (cs.getD iloopB 0)))])) from ((congrArg (fun z => (own_uP (cs.length * 3) ((own_u8s (cs.take iloopB)) ++ [(StrChars.lo8 (own_b3 (cs.getD iloopB 0)))])).set ((own_u8s (cs.take iloopB)) ++ [(StrChars.lo8 (own_b3 (cs.getD iloopB 0)))]).length (Value.int z)) (own_nb (own_bm (cs.getD iloopB 0)))).trans (own_apU (by rw [List.length_append]; show _ + 1 < _; omega))))) (Arv.set A318 q318 S318 M318 Hs318 Gs318 (fits_nar_byte _) W319 ((own_u8s (cs.take iloopB)) ++ [(StrChars.lo8 (own_b3 (cs.getD iloopB 0)))]).length (own_tn (by first | omega | (simp only [List.length_append, List.length_cons, List.length_nil]; omega))) (by rw [own_uPl (Nat.le_of_lt (by rw [List.length_append]; show _ + 1 < _; omega))]; exact (by rw [List.length_append]; show _ + 1 < _; omega)))
          show own_Go p e below (T319.setTop (mkF m 335 #[rv t, iv (1 : Int32), iv ((Int32.ofNat ((own_u8s (cs.take iloopB)) ++ [(StrChars.lo8 (own_b3 (cs.getD iloopB 0)))]).length) + (1 : Int32)), iv ((Int32.ofNat iloopB) + (1 : Int32)), iv (Int32.ofNat cs.length), rv b292, iv (cs.getD iloopB 0), s7, s8] [])) _
          rw [own_len1 ((own_u8s (cs.take iloopB)) ++ [(StrChars.lo8 (own_b3 (cs.getD iloopB 0)))]) (StrChars.lo8 (own_bm (cs.getD iloopB 0)))]
          refine wb X319 hx hby 335 d42_47_335 rfl rfl ?_
          try dsimp only [mkF]
          refine wl X319 hx hby 337 d42_47_337 rfl ?_
          refine wi X319 hx hby 338 #[rv t, iv (1 : Int32), iv ((Int32.ofNat (((own_u8s (cs.take iloopB)) ++ [(StrChars.lo8 (own_b3 (cs.getD iloopB 0)))]) ++ [(StrChars.lo8 (own_bm (cs.getD iloopB 0)))]).length) + (1 : Int32)), iv ((Int32.ofNat iloopB) + (1 : Int32)), iv (Int32.ofNat cs.length), rv b292, iv (cs.getD iloopB 0), s7, s8] d42_47_338 rfl rfl ?_
          refine og (fun _ k => XS.sipush X319.here hx rfl (hb hby d42_47_341) k) ?_
          refine wm X319 hx hby 344 d42_47_344 rfl ?_
          refine wp X319 hx hby 346 d42_47_346 ?_
          try dsimp only [mkF]
          refine og (fun _ k => XS.iand X319.here hx rfl (hb hby d42_47_348) rfl k) ?_
          refine og (fun _ k => XS.ior X319.here hx rfl (hb hby d42_47_349) rfl k) ?_
          refine og (fun _ k => XS.i2b X319.here hx rfl (hb hby d42_47_350) rfl k) ?_
          obtain ⟨c320, A320, q320, S320, M320, Hs320, Gs320⟩ := id V319
          obtain ⟨T321, h321, X321, e321, W321, st321⟩ := stB X319 hx hZ e319 A320 (j := (Int32.ofNat (((own_u8s (cs.take iloopB)) ++ [(StrChars.lo8 (own_b3 (cs.getD iloopB 0)))]) ++ [(StrChars.lo8 (own_bm (cs.getD iloopB 0)))]).length)) (inb_of S320 (own_inb (i := (((own_u8s (cs.take iloopB)) ++ [(StrChars.lo8 (own_b3 (cs.getD iloopB 0)))]) ++ [(StrChars.lo8 (own_bm (cs.getD iloopB 0)))]).length) (j := (cs.length * 3)) (by rw [List.length_append, List.length_append]; show _ + 1 + 1 < _; omega) (by omega))) (g := (mkF m 351 #[rv t, iv (1 : Int32), iv ((Int32.ofNat (((own_u8s (cs.take iloopB)) ++ [(StrChars.lo8 (own_b3 (cs.getD iloopB 0)))]) ++ [(StrChars.lo8 (own_bm (cs.getD iloopB 0)))]).length) + (1 : Int32)), iv ((Int32.ofNat iloopB) + (1 : Int32)), iv (Int32.ofNat cs.length), rv b292, iv (cs.getD iloopB 0), s7, s8] [(.int (((128 : Int32) ||| ((cs.getD iloopB 0) &&& (63 : Int32))).toInt8.toInt32)), (.int (Int32.ofNat (((own_u8s (cs.take iloopB)) ++ [(StrChars.lo8 (own_b3 (cs.getD iloopB 0)))]) ++ [(StrChars.lo8 (own_bm (cs.getD iloopB 0)))]).length)), (.ref b292)])) rfl rfl (hb hby d42_47_351)
          refine own_go st321 ?_
          have N321 := Fr.snoc X321 N319 (Nat.le_trans Z0 (Nat.le_of_eq g292.symm))
          have V321 : Arv Z h321 b292 k292 .byte (Int32.ofNat (cs.length * 3)) (own_uP (cs.length * 3) ((((own_u8s (cs.take iloopB)) ++ [(StrChars.lo8 (own_b3 (cs.getD iloopB 0)))]) ++ [(StrChars.lo8 (own_bm (cs.getD iloopB 0)))]) ++ [(StrChars.lo8 (own_bl (cs.getD iloopB 0)))])) (.int (0 : Int32)) := Eq.mp (congrArg (fun LL => Arv Z h321 b292 k292 .byte (Int32.ofNat (cs.length * 3)) LL (.int (0 : Int32))) (show ((own_uP (cs.length * 3) (((own_u8s (cs.take iloopB)) ++ [(StrChars.lo8 (own_b3 (cs.getD iloopB 0)))]) ++ [(StrChars.lo8 (own_bm (cs.getD iloopB 0)))])) : List Value).set (((own_u8s (cs.take iloopB)) ++ [(StrChars.lo8 (own_b3 (cs.getD iloopB 0)))]) ++ [(StrChars.lo8 (own_bm (cs.getD iloopB 0)))]).length (.int (nar .byte (((128 : Int32) ||| ((cs.getD iloopB 0) &&& (63 : Int32))).toInt8.toInt32))) = (own_uP (cs.length * 3) ((((own_u8s (cs.take iloopB)) ++ [(StrChars.lo8 (own_b3 (cs.getD iloopB 0)))]) ++ [(StrChars.lo8 (own_bm (cs.getD iloopB 0)))]) ++ [(StrChars.lo8 (own_bl (cs.getD iloopB 0)))])) from ((congrArg (fun z => (own_uP (cs.length * 3) (((own_u8s (cs.take iloopB)) ++ [(StrChars.lo8 (own_b3 (cs.getD iloopB 0)))]) ++ [(StrChars.lo8 (own_bm (cs.getD iloopB 0)))])).set (((own_u8s (cs.take iloopB)) ++ [(StrChars.lo8 (own_b3 (cs.getD iloopB 0)))]) ++ [(StrChars.lo8 (own_bm (cs.getD iloopB 0)))]).length (Value.int z)) (own_nb (own_bl (cs.getD iloopB 0)))).trans (own_apU (by rw [List.length_append, List.length_append]; show _ + 1 + 1 < _; omega))))) (Arv.set A320 q320 S320 M320 Hs320 Gs320 (fits_nar_byte _) W321 (((own_u8s (cs.take iloopB)) ++ [(StrChars.lo8 (own_b3 (cs.getD iloopB 0)))]) ++ [(StrChars.lo8 (own_bm (cs.getD iloopB 0)))]).length (own_tn (by first | omega | (simp only [List.length_append, List.length_cons, List.length_nil]; omega))) (by rw [own_uPl (Nat.le_of_lt (by rw [List.length_append, List.length_append]; show _ + 1 + 1 < _; omega))]; exact (by rw [List.length_append, List.length_append]; show _ + 1 + 1 < _; omega)))
          show own_Go p e below (T321.setTop (mkF m 352 #[rv t, iv (1 : Int32), iv ((Int32.ofNat (((own_u8s (cs.take iloopB)) ++ [(StrChars.lo8 (own_b3 (cs.getD iloopB 0)))]) ++ [(StrChars.lo8 (own_bm (cs.getD iloopB 0)))]).length) + (1 : Int32)), iv ((Int32.ofNat iloopB) + (1 : Int32)), iv (Int32.ofNat cs.length), rv b292, iv (cs.getD iloopB 0), s7, s8] [])) _
          rw [own_len1 (((own_u8s (cs.take iloopB)) ++ [(StrChars.lo8 (own_b3 (cs.getD iloopB 0)))]) ++ [(StrChars.lo8 (own_bm (cs.getD iloopB 0)))]) (StrChars.lo8 (own_bl (cs.getD iloopB 0)))]
          try dsimp only [mkF]
          refine wg X321 hx hby 352 58 d42_47_352 ?_
          show own_Go p e below (T321.setTop (mkF m 58 #[rv t, iv (1 : Int32), iv (Int32.ofNat ((((own_u8s (cs.take iloopB)) ++ [(StrChars.lo8 (own_b3 (cs.getD iloopB 0)))]) ++ [(StrChars.lo8 (own_bm (cs.getD iloopB 0)))]) ++ [(StrChars.lo8 (own_bl (cs.getD iloopB 0)))]).length), iv ((Int32.ofNat iloopB) + (1 : Int32)), iv (Int32.ofNat cs.length), rv b292, iv (cs.getD iloopB 0), s7, s8] [])) _
          have eqn : ((((own_u8s (cs.take iloopB)) ++ [(StrChars.lo8 (own_b3 (cs.getD iloopB 0)))]) ++ [(StrChars.lo8 (own_bm (cs.getD iloopB 0)))]) ++ [(StrChars.lo8 (own_bl (cs.getD iloopB 0)))]) = own_u8s (cs.take (iloopB + 1)) := by rw [own_u8t hi]; unfold own_u8; rw [if_neg hc300, if_neg hc306]; simp
          rw [own_inc, eqn]
          have f322 := (((J0_298.other W317 ne293).other W319 ne293).other W321 ne293)
          have f323 := (((J2_298.wr W317).wr W319).wr W321)
          have f324 := (((O298.wr W317 (Nat.le_trans Z0 (Nat.le_of_eq g292.symm))).wr W319 (Nat.le_trans Z0 (Nat.le_of_eq g292.symm))).wr W321 (Nat.le_trans Z0 (Nat.le_of_eq g292.symm)))
          have f325 := (((K298.wr W317 (Or.inr (Nat.le_of_eq g292.symm))).wr W319 (Or.inr (Nat.le_of_eq g292.symm))).wr W321 (Or.inr (Nat.le_of_eq g292.symm)))
          exact ih (iloopB + 1) (iv (cs.getD iloopB 0)) s7 s8 T321 _ h321 (by omega) X321 e321 N321 f324 f325 f322 (eqn ▸ V321) f323 (Or.inr ⟨_, rfl, rfl⟩) hs7 hs8
  have loopA : ∀ (kT iloopA : Nat) (s6 : Slot) (T : State) (locs : List Loc) (h : Heap), iloopA + kT = cs.length → Stand p l e ⟨2, 2, 12, 32⟩ s m #[(.ref t), (.int (1 : Int32))] below meth cC T locs 1 6 → T.heap = h → Fr n0 locs → Old Z n0 h → Keep h0 h [] → Arv Z h t kt .byte (Int32.ofNat (2 * cs.length)) (StrChars.Road.wideBytes cs) (.int (0 : Int32)) → Arv Z h b292 k292 .byte (Int32.ofNat (cs.length * 3)) (own_uP (cs.length * 3) (own_u8s (cs.take iloopA))) (.int (0 : Int32)) → Exa Z h b292 "[B" → ((s6 = .unset ∨ ∃ w, s6 = .val w ∧ w.category = 1)) → own_Go p e below (T.setTop (mkF m 18 #[rv t, iv (1 : Int32), iv (Int32.ofNat (own_u8s (cs.take iloopA)).length), iv (Int32.ofNat iloopA), iv (Int32.ofNat cs.length), rv b292, s6, .unset, .unset] [])) (fun oO U' => ∃ rV rL, oO = .returned rV ∧ QNew Z (Int32.ofNat (own_u8s cs).length) ((own_u8s cs).map Value.int) h0 n0 rV U'.heap rL ∧ FrameEnd s oO U' rL 2 12) := by
    intro kT
    induction kT with
    | zero =>
      intro iloopA s6 T326 L326 h326 hik X326 e326 N326 O326 K326 J0_326 J1_326 J2_326 hs6
      have Z0_326 : n0 ≤ h326.size := O326.1 ▸ O326.2.1
      have hel := own_u8l3 (cs.take iloopA)
      rw [own_tkl (by omega)] at hel
      have hin : iloopA = cs.length := by omega
      have hlt : ¬ ((Int32.ofNat iloopA) < (Int32.ofNat cs.length)) := by rw [own_lti (by omega) (by omega)]; omega
      refine wl X326 hx hby 18 d42_47_18 rfl ?_
      refine wm X326 hx hby 19 d42_47_19 rfl ?_
      try dsimp only [mkF]
      refine wy X326 hx hby 21 58 d42_47_21 (flt hlt).2.1 ?_
      show own_Go p e below (T326.setTop (mkF m 58 #[rv t, iv (1 : Int32), iv (Int32.ofNat (own_u8s (cs.take iloopA)).length), iv (Int32.ofNat iloopA), iv (Int32.ofNat cs.length), rv b292, s6, .unset, .unset] [])) _
      exact loopB (0) (iloopA) s6 (.unset) (.unset) T326 _ h326 (by omega) X326 e326 N326 O326 K326 J0_326 J1_326 J2_326 hs6 (Or.inl rfl) (Or.inl rfl)
    | succ kT ih =>
      intro iloopA s6 T327 L327 h327 hik X327 e327 N327 O327 K327 J0_327 J1_327 J2_327 hs6
      have Z0_327 : n0 ≤ h327.size := O327.1 ▸ O327.2.1
      have hel := own_u8l3 (cs.take iloopA)
      rw [own_tkl (by omega)] at hel
      have hi : iloopA < cs.length := by omega
      have hlt : (Int32.ofNat iloopA) < (Int32.ofNat cs.length) := (own_lti (by omega) (by omega)).mpr hi
      refine wl X327 hx hby 18 d42_47_18 rfl ?_
      refine wm X327 hx hby 19 d42_47_19 rfl ?_
      try dsimp only [mkF]
      refine wn X327 hx hby 21 d42_47_21 (tlt hlt).2.1 ?_
      refine wa X327 hx hby 24 d42_47_24 rfl rfl ?_
      refine wl X327 hx hby 25 d42_47_25 rfl ?_
      obtain ⟨v328, _, ⟨T328, L328, k328, n328⟩, -, X328, ⟨Lc328, hQ328, l328, y328, z328⟩, st328⟩ := Jvm.LawKit.callS X327 hx (y := (⟨"java/lang/StringUTF16", "getChar", "([BI)C"⟩ : MethodName)) hown (mvT hZ (tw hw 263 rfl)) (mvT hZ (tw hw 255 rfl)) (mvT hZ (tw hw 179 rfl)) (mvT hZ (tw hw 256 rfl)) (by decide) (backOf (W := 0) (rm_get l Z a0 hw [] t kt (2 * cs.length) (StrChars.Road.wideBytes cs) iloopA (cs.getD iloopA 0) h327 n0 O327 OA OH OL J0_327 (StrChars.Road.wide_lo _ cs _ hi) (StrChars.Road.wide_hi _ cs _ hi) (by omega) (by omega) (hok.at hi)) hZ (tw hw 256 rfl) (tw hw 179 rfl) (by decide) (by decide)) (g := (mkF m 26 #[rv t, iv (1 : Int32), iv (Int32.ofNat (own_u8s (cs.take iloopA)).length), iv (Int32.ofNat iloopA), iv (Int32.ofNat cs.length), rv b292, s6, .unset, .unset] [(.int (Int32.ofNat iloopA)), (.ref t)])) rfl (by rw [hml]; rfl) (argsL := [(.ref t), (.int (Int32.ofNat iloopA))]) (rest := []) (lenOf pd_5 rfl) rfl (by show 2 * 0 + _ ≤ _; exact Nat.le_of_eq rfl) (hb hby d42_47_26) (fun _ _ => ⟨rfl, e327, (by decide : 1 + 0 ≤ _), (by decide : 6 + 0 ≤ _)⟩)
      dsimp only [Pt.U, Pt.locs, Pt.cells, Pt.slots] at X328 l328 y328 z328 st328 hQ328
      subst l328 y328 z328
      refine own_go st328 ?_
      obtain ⟨rfl, Nq328, e328⟩ := hQ328
      have N328 := Fr.app N327 Nq328
      refine og (fun _ k => XS.istoreS X328.here hx rfl (hb hby d42_47_29) rfl rfl hs6 k) ?_
      try dsimp only [mkF]
      refine wm X328 hx hby 31 d42_47_31 rfl ?_
      refine og (fun _ k => XS.sipush X328.here hx rfl (hb hby d42_47_33) k) ?_
      by_cases hc329 : (cs.getD iloopA 0) < (128 : Int32)
      · skip
        refine wy X328 hx hby 36 42 d42_47_36 (tlt hc329).1 ?_
        refine wb X328 hx hby 42 d42_47_42 rfl rfl ?_
        refine wl X328 hx hby 44 d42_47_44 rfl ?_
        try dsimp only [mkF]
        refine wi X328 hx hby 45 #[rv t, iv (1 : Int32), iv ((Int32.ofNat (own_u8s (cs.take iloopA)).length) + (1 : Int32)), iv (Int32.ofNat iloopA), iv (Int32.ofNat cs.length), rv b292, iv (cs.getD iloopA 0), .unset, .unset] d42_47_45 rfl rfl ?_
        refine wm X328 hx hby 48 d42_47_48 rfl ?_
        refine og (fun _ k => XS.i2b X328.here hx rfl (hb hby d42_47_50) rfl k) ?_
        obtain ⟨c330, A330, q330, S330, M330, Hs330, Gs330⟩ := id J1_327
        obtain ⟨T331, h331, X331, e331, W331, st331⟩ := stB X328 hx hZ e328 A330 (j := (Int32.ofNat (own_u8s (cs.take iloopA)).length)) (inb_of S330 (own_inb (i := (own_u8s (cs.take iloopA)).length) (j := (cs.length * 3)) (by omega) (by omega))) (g := (mkF m 51 #[rv t, iv (1 : Int32), iv ((Int32.ofNat (own_u8s (cs.take iloopA)).length) + (1 : Int32)), iv (Int32.ofNat iloopA), iv (Int32.ofNat cs.length), rv b292, iv (cs.getD iloopA 0), .unset, .unset] [(.int ((cs.getD iloopA 0).toInt8.toInt32)), (.int (Int32.ofNat (own_u8s (cs.take iloopA)).length)), (.ref b292)])) rfl rfl (hb hby d42_47_51)
        refine own_go st331 ?_
        have N331 := Fr.snoc X331 N328 (Nat.le_trans Z0 (Nat.le_of_eq g292.symm))
        have V331 : Arv Z h331 b292 k292 .byte (Int32.ofNat (cs.length * 3)) (own_uP (cs.length * 3) ((own_u8s (cs.take iloopA)) ++ [(cs.getD iloopA 0)])) (.int (0 : Int32)) := Eq.mp (congrArg (fun LL => Arv Z h331 b292 k292 .byte (Int32.ofNat (cs.length * 3)) LL (.int (0 : Int32))) (show ((own_uP (cs.length * 3) (own_u8s (cs.take iloopA))) : List Value).set (own_u8s (cs.take iloopA)).length (.int (nar .byte ((cs.getD iloopA 0).toInt8.toInt32))) = (own_uP (cs.length * 3) ((own_u8s (cs.take iloopA)) ++ [(cs.getD iloopA 0)])) from ((congrArg (fun z => (own_uP (cs.length * 3) (own_u8s (cs.take iloopA))).set (own_u8s (cs.take iloopA)).length (Value.int z)) (own_n8 (own_l128 (hok.at hi).1 hc329))).trans (own_apU (by omega))))) (Arv.set A330 q330 S330 M330 Hs330 Gs330 (fits_nar_byte _) W331 (own_u8s (cs.take iloopA)).length (own_tn (by first | omega | (simp only [List.length_append, List.length_cons, List.length_nil]; omega))) (by rw [own_uPl (Nat.le_of_lt (by omega))]; exact (by omega)))
        show own_Go p e below (T331.setTop (mkF m 52 #[rv t, iv (1 : Int32), iv ((Int32.ofNat (own_u8s (cs.take iloopA)).length) + (1 : Int32)), iv (Int32.ofNat iloopA), iv (Int32.ofNat cs.length), rv b292, iv (cs.getD iloopA 0), .unset, .unset] [])) _
        rw [own_len1 (own_u8s (cs.take iloopA)) (cs.getD iloopA 0)]
        try dsimp only [mkF]
        refine wi X331 hx hby 52 #[rv t, iv (1 : Int32), iv (Int32.ofNat ((own_u8s (cs.take iloopA)) ++ [(cs.getD iloopA 0)]).length), iv ((Int32.ofNat iloopA) + (1 : Int32)), iv (Int32.ofNat cs.length), rv b292, iv (cs.getD iloopA 0), .unset, .unset] d42_47_52 rfl rfl ?_
        refine wg X331 hx hby 55 18 d42_47_55 ?_
        show own_Go p e below (T331.setTop (mkF m 18 #[rv t, iv (1 : Int32), iv (Int32.ofNat ((own_u8s (cs.take iloopA)) ++ [(cs.getD iloopA 0)]).length), iv ((Int32.ofNat iloopA) + (1 : Int32)), iv (Int32.ofNat cs.length), rv b292, iv (cs.getD iloopA 0), .unset, .unset] [])) _
        have eqn : ((own_u8s (cs.take iloopA)) ++ [(cs.getD iloopA 0)]) = own_u8s (cs.take (iloopA + 1)) := by rw [own_u8t hi]; unfold own_u8; rw [if_pos hc329]
        rw [own_inc, eqn]
        have f332 := (J0_327.other W331 ne293)
        have f333 := (O327.wr W331 (Nat.le_trans Z0 (Nat.le_of_eq g292.symm)))
        have f334 := (K327.wr W331 (Or.inr (Nat.le_of_eq g292.symm)))
        exact ih (iloopA + 1) (iv (cs.getD iloopA 0)) T331 _ h331 (by omega) X331 e331 N331 f333 f334 f332 (eqn ▸ V331) (J2_327.wr W331) (Or.inr ⟨_, rfl, rfl⟩)
      · skip
        refine wn X328 hx hby 36 d42_47_36 (flt hc329).1 ?_
        refine wg X328 hx hby 39 58 d42_47_39 ?_
        show own_Go p e below (T328.setTop (mkF m 58 #[rv t, iv (1 : Int32), iv (Int32.ofNat (own_u8s (cs.take iloopA)).length), iv (Int32.ofNat iloopA), iv (Int32.ofNat cs.length), rv b292, iv (cs.getD iloopA 0), .unset, .unset] [])) _
        exact loopB (cs.length - iloopA) (iloopA) (iv (cs.getD iloopA 0)) (.unset) (.unset) T328 _ h327 (by omega) X328 e328 N328 O327 K327 J0_327 J1_327 J2_327 (Or.inr ⟨_, rfl, rfl⟩) (Or.inl rfl) (Or.inl rfl)
  have f335 := ((Keep.refl h0 []).ext E292)
  exact loopA (cs.length) 0 .unset T292 _ h292 (by omega) X292 e292 N0 (O0.ext E292) f335 (V_t.ext E292) Vb0 Q292 (Or.inl rfl)

abbrev k42_46 := jdk_42_method_46_code
theorem d42_46_0:Dk k42_46 0 (.iload_n 0) 1:=kk
theorem d42_46_1:Dk k42_46 1 (.iconst 1) 1:=kk
theorem d42_46_2:Dk k42_46 2 (.if_icmp .ne 9) 3:=kk
theorem d42_46_11:Dk k42_46 11 (.aload_n 1) 1:=kk
theorem d42_46_12:Dk k42_46 12 (.iconst 0) 1:=kk
theorem d42_46_13:Dk k42_46 13 (.aload_n 1) 1:=kk
theorem d42_46_14:Dk k42_46 14 (.arraylength) 1:=kk
theorem d42_46_15:Dk k42_46 15 (.invokestatic 128) 3:=kk
theorem pd_25 : parseMethodDescriptor "([BII)Z" = some ⟨[(.array .byte), .int, .int], some .boolean⟩ := by decide +kernel
theorem d42_46_18:Dk k42_46 18 (.ifCond .ne 11) 3:=kk
theorem d42_46_21:Dk k42_46 21 (.aload_n 1) 1:=kk
theorem d42_46_22:Dk k42_46 22 (.invokevirtual 279) 3:=kk
theorem d42_46_25:Dk k42_46 25 (.checkcast 280) 3:=kk
theorem d42_46_28:Dk k42_46 28 (.areturn) 1:=kk
theorem d42_46_29:Dk k42_46 29 (.iconst 0) 1:=kk
theorem d42_46_30:Dk k42_46 30 (.istore_n 3) 1:=kk
theorem d42_46_31:Dk k42_46 31 (.aload_n 1) 1:=kk
theorem d42_46_32:Dk k42_46 32 (.arraylength) 1:=kk
theorem d42_46_33:Dk k42_46 33 (.invokestatic 60) 3:=kk
theorem d42_46_36:Dk k42_46 36 (.astore 4) 2:=kk
theorem d42_46_38:Dk k42_46 38 (.aload_n 1) 1:=kk
theorem d42_46_39:Dk k42_46 39 (.astore 5) 2:=kk
theorem d42_46_41:Dk k42_46 41 (.aload 5) 2:=kk
theorem d42_46_43:Dk k42_46 43 (.arraylength) 1:=kk
theorem d42_46_44:Dk k42_46 44 (.istore 6) 2:=kk
theorem d42_46_46:Dk k42_46 46 (.iconst 0) 1:=kk
theorem d42_46_47:Dk k42_46 47 (.istore 7) 2:=kk
theorem d42_46_49:Dk k42_46 49 (.iload 7) 2:=kk
theorem d42_46_51:Dk k42_46 51 (.iload 6) 2:=kk
theorem d42_46_53:Dk k42_46 53 (.if_icmp .ge 71) 3:=kk
theorem d42_46_124:Dk k42_46 124 (.iload_n 3) 1:=kk
theorem d42_46_125:Dk k42_46 125 (.aload 4) 2:=kk
theorem d42_46_127:Dk k42_46 127 (.arraylength) 1:=kk
theorem d42_46_128:Dk k42_46 128 (.if_icmp .ne 6) 3:=kk
theorem d42_46_131:Dk k42_46 131 (.aload 4) 2:=kk
theorem d42_46_133:Dk k42_46 133 (.areturn) 1:=kk
theorem d42_46_134:Dk k42_46 134 (.aload 4) 2:=kk
theorem d42_46_136:Dk k42_46 136 (.iload_n 3) 1:=kk
theorem d42_46_137:Dk k42_46 137 (.invokestatic 102) 3:=kk
theorem d42_46_140:Dk k42_46 140 (.areturn) 1:=kk
theorem d42_46_56:Dk k42_46 56 (.aload 5) 2:=kk
theorem d42_46_58:Dk k42_46 58 (.iload 7) 2:=kk
theorem d42_46_60:Dk k42_46 60 (.baload) 1:=kk
theorem d42_46_61:Dk k42_46 61 (.istore 8) 2:=kk
theorem d42_46_63:Dk k42_46 63 (.iload 8) 2:=kk
theorem d42_46_65:Dk k42_46 65 (.ifCond .ge 44) 3:=kk
theorem d42_46_68:Dk k42_46 68 (.aload 4) 2:=kk
theorem d42_46_70:Dk k42_46 70 (.iload_n 3) 1:=kk
theorem d42_46_71:Dk k42_46 71 (.iinc 3 1) 3:=kk
theorem d42_46_74:Dk k42_46 74 (.sipush 192) 3:=kk
theorem d42_46_77:Dk k42_46 77 (.iload 8) 2:=kk
theorem d42_46_79:Dk k42_46 79 (.sipush 255) 3:=kk
theorem d42_46_82:Dk k42_46 82 (.iand) 1:=kk
theorem d42_46_83:Dk k42_46 83 (.bipush 6) 2:=kk
theorem d42_46_85:Dk k42_46 85 (.ishr) 1:=kk
theorem d42_46_86:Dk k42_46 86 (.ior) 1:=kk
theorem d42_46_87:Dk k42_46 87 (.i2b) 1:=kk
theorem d42_46_88:Dk k42_46 88 (.bastore) 1:=kk
theorem d42_46_89:Dk k42_46 89 (.aload 4) 2:=kk
theorem d42_46_91:Dk k42_46 91 (.iload_n 3) 1:=kk
theorem d42_46_92:Dk k42_46 92 (.iinc 3 1) 3:=kk
theorem d42_46_95:Dk k42_46 95 (.sipush 128) 3:=kk
theorem d42_46_98:Dk k42_46 98 (.iload 8) 2:=kk
theorem d42_46_100:Dk k42_46 100 (.bipush 63) 2:=kk
theorem d42_46_102:Dk k42_46 102 (.iand) 1:=kk
theorem d42_46_103:Dk k42_46 103 (.ior) 1:=kk
theorem d42_46_104:Dk k42_46 104 (.i2b) 1:=kk
theorem d42_46_105:Dk k42_46 105 (.bastore) 1:=kk
theorem d42_46_106:Dk k42_46 106 (.goto 12) 3:=kk
theorem d42_46_118:Dk k42_46 118 (.iinc 7 1) 3:=kk
theorem d42_46_121:Dk k42_46 121 (.goto (-72)) 3:=kk
theorem d42_46_109:Dk k42_46 109 (.aload 4) 2:=kk
theorem d42_46_111:Dk k42_46 111 (.iload_n 3) 1:=kk
theorem d42_46_112:Dk k42_46 112 (.iinc 3 1) 3:=kk
theorem d42_46_115:Dk k42_46 115 (.iload 8) 2:=kk
theorem d42_46_117:Dk k42_46 117 (.bastore) 1:=kk
theorem d42_46_5:Dk k42_46 5 (.aload_n 1) 1:=kk
theorem d42_46_6:Dk k42_46 6 (.iload_n 2) 1:=kk
theorem d42_46_7:Dk k42_46 7 (.invokestatic 473) 3:=kk
theorem pd_26 : parseMethodDescriptor "([BZ)[B" = some ⟨[(.array .byte), .boolean], some (.array .byte)⟩ := by decide +kernel
theorem d42_46_10:Dk k42_46 10 (.areturn) 1:=kk
set_option maxRecDepth 65536 in
set_option maxHeartbeats 40000000 in
theorem rm_eu8 (l : Launch) (Z : State) (a0 : Array Value) (hw : ∀ d ∈ tables_1, d.before a0 Z = true) (ws : List Jvm.Cond) (t : Addr) (kt : ClassId) (cs : List Int32) (cx Nx : Int32) (vx : List Value) (h0 : Heap) (n0 : Nat) (O0 : Old Z n0 h0) (OA : Sta Z Z.heap "java/lang/StringUTF16" "$assertionsDisabled" "Z" (.int (1 : Int32))) (OH : Sta Z Z.heap "java/lang/StringUTF16" "HI_BYTE_SHIFT" "I" (.int (0 : Int32))) (OL : Sta Z Z.heap "java/lang/StringUTF16" "LO_BYTE_SHIFT" "I" (.int (8 : Int32))) (V_t : Arv Z h0 t kt .byte Nx vx (.int (0 : Int32))) (X_t : Exa Z h0 t "[B") (hCx : StrChars.Road.CodA cs cx Nx vx) (hok : own_Ok cs) (h2 : cs.length ≤ 2) (hns : ∀ c ∈ cs, c < (55296 : Int32) ∨ (57343 : Int32) < c) :
    own_TN l Z ws h0 (⟨"java/lang/String", "encodeUTF8", "(B[BZ)[B"⟩ : MethodName) jdk_42_method_46_code 9 (some (.array .byte)) ⟨3, 2, 12, 52⟩ #[(.int cx), (.ref t), (.int (1 : Int32))] (QNew Z (Int32.ofNat (own_u8s cs).length) ((own_u8s cs).map Value.int) h0 n0) 2 12 := by
  refine own_bN "java/lang/String" #[iv cx, rv t, iv (1 : Int32), .unset, .unset, .unset, .unset, .unset, .unset] (pf pn_3 rfl) rfl O0 (fun m => own_e) ?_
  intro p e s m below meth cC s₁ hZ hh hx hby hml hown hnm hrt hlk X0 e0 N0 Z0
  have hlen : cs.length ≤ 4000 := hok.2
  rcases id hCx with ⟨c1, c2, c3, ha⟩ | ⟨c1, c2, c3, hex⟩
  · subst c1 c2 c3
    refine wl X0 hx hby 0 d42_46_0 rfl ?_
    refine wc X0 hx hby 1 d42_46_1 ?_
    refine wy X0 hx hby 2 11 d42_46_2 (feq (by decide : ¬ ((0 : Int32) = (1 : Int32)))).2 ?_
    try dsimp only [mkF]
    refine wa X0 hx hby 11 d42_46_11 rfl rfl ?_
    refine wc X0 hx hby 12 d42_46_12 ?_
    refine wa X0 hx hby 13 d42_46_13 rfl rfl ?_
    obtain ⟨c336, A336, q336, S336, M336, Hs336, Gs336⟩ := id V_t
    refine og (fun _ k => X0.arraylength hx (by rw [e0]; exact A336.1) (State.isArrayOf_alike hZ.alike A336.2.1) (g := (mkF m 14 #[iv (0 : Int32), rv t, iv (1 : Int32), .unset, .unset, .unset, .unset, .unset, .unset] [(.ref t), (.int (0 : Int32)), (.ref t)])) rfl rfl (hb hby d42_46_14) _ k) ?_
    rw [len_of S336 M336]
    obtain ⟨v337, _, ⟨T337, L337, k337, n337⟩, -, X337, ⟨Lc337, hQ337, l337, y337, z337⟩, st337⟩ := Jvm.LawKit.callS X0 hx (y := (⟨"java/lang/StringCoding", "hasNegatives", "([BII)Z"⟩ : MethodName)) hown (mvT hZ (tw hw 161 rfl)) (mvT hZ (tw hw 162 rfl)) (mvT hZ (tw hw 163 rfl)) (mvT hZ (tw hw 164 rfl)) (by decide) (backOf (W := 0) (rm_hng l Z a0 hw [] t kt cs h0 n0 O0 V_t hok) hZ (tw hw 164 rfl) (tw hw 163 rfl) (by decide) (by decide)) (g := (mkF m 15 #[iv (0 : Int32), rv t, iv (1 : Int32), .unset, .unset, .unset, .unset, .unset, .unset] [(.int (Int32.ofNat cs.length)), (.int (0 : Int32)), (.ref t)])) rfl (by rw [hml]; rfl) (argsL := [(.ref t), (.int (0 : Int32)), (.int (Int32.ofNat cs.length))]) (rest := []) (lenOf pd_25 rfl) rfl (by show 2 * 0 + _ ≤ _; exact Nat.le_of_eq rfl) (hb hby d42_46_15) (fun _ _ => ⟨rfl, e0, (by decide : 0 + 0 ≤ _), (by decide : 0 + 0 ≤ _)⟩)
    dsimp only [Pt.U, Pt.locs, Pt.cells, Pt.slots] at X337 l337 y337 z337 st337 hQ337
    subst l337 y337 z337
    refine own_go st337 ?_
    obtain ⟨r337, rfl, Nq337, e337, hr337⟩ := hQ337
    have N337 := Fr.app N0 Nq337
    try dsimp only [mkF]
    by_cases hc338 : r337 = (0 : Int32)
    · skip
      refine we X337 hx hby 18 d42_46_18 ((if0 _ _).trans (teq hc338).2) ?_
      refine wa X337 hx hby 21 d42_46_21 rfl rfl ?_
      obtain ⟨T339, h339, X339, e339, E339, A339, Q339, st339⟩ := cloneH X337 hx hZ hown (tw hw 168 rfl) (tw hw 169 rfl) (tw hw 173 rfl) (tw hw 171 rfl) (tw hw 172 rfl) (tw hw 174 rfl) e337 (Arv.arh V_t) X_t (g := (mkF m 22 #[iv (0 : Int32), rv t, iv (1 : Int32), .unset, .unset, .unset, .unset, .unset, .unset] [(.ref t)])) rfl (by rw [hml]; rfl) rfl (hb hby d42_46_22) (by decide) (W := 0) (by show 2 * 0 + _ ≤ _; exact Nat.le_of_eq rfl) (by decide) (cap := 2) (by rw [own_tn (by omega)]; exact h2) (by decide) (by decide)
      obtain ⟨b339, g339⟩ : ∃ z, z = h0.size := ⟨_, rfl⟩
      rw [← g339] at A339 Q339 st339
      refine own_go st339 ?_
      have V339 : Arv Z h339 b339 kt .byte (Int32.ofNat cs.length) (own_lat cs) (.int (0 : Int32)) := A339
      obtain ⟨T340, X340, e340, st340⟩ := castY X339 hx hZ hown (tw hw 175 rfl) e339 (Ins.self Q339) (g := (mkF m 25 #[iv (0 : Int32), rv t, iv (1 : Int32), .unset, .unset, .unset, .unset, .unset, .unset] [(.ref b339)])) rfl rfl (hb hby d42_46_25)
      refine own_go st340 ?_
      have hsm := own_u8same hok.1 ha (hr337 hc338)
      have f341 := ((Keep.refl h0 []).ext E339)
      refine own_fin (v := (some (.ref b339))) X340 (fun h => by rw [hrt] at h; cases h) hlk (fun fs hr => retR X340 hx hrt (by rfl) rfl rfl (hb hby d42_46_28) hr) (QQ := QNew Z (Int32.ofNat (own_u8s cs).length) ((own_u8s cs).map Value.int) h0 n0) ?_ (by decide) (by decide)
      rw [e340]
      exact ⟨b339, _, rfl, N337, f341, (Nat.le_of_eq g339.symm), (by rw [hsm.1, ← hsm.2]; exact V339), Q339⟩
    · skip
      refine wf X337 hx hby 18 29 d42_46_18 ((if0 _ _).trans (feq hc338).2) ?_
      refine wc X337 hx hby 29 d42_46_29 ?_
      refine wt X337 hx hby 30 #[iv (0 : Int32), rv t, iv (1 : Int32), iv (0 : Int32), .unset, .unset, .unset, .unset, .unset] d42_46_30 rfl ?_
      refine wa X337 hx hby 31 d42_46_31 rfl rfl ?_
      obtain ⟨c342, A342, q342, S342, M342, Hs342, Gs342⟩ := id V_t
      refine og (fun _ k => X337.arraylength hx (by rw [e337]; exact A342.1) (State.isArrayOf_alike hZ.alike A342.2.1) (g := (mkF m 32 #[iv (0 : Int32), rv t, iv (1 : Int32), iv (0 : Int32), .unset, .unset, .unset, .unset, .unset] [(.ref t)])) rfl rfl (hb hby d42_46_32) _ k) ?_
      rw [len_of S342 M342]
      try dsimp only [mkF]
      obtain ⟨v343, _, ⟨T343, L343, k343, n343⟩, -, X343, ⟨Lc343, hQ343, l343, y343, z343⟩, st343⟩ := Jvm.LawKit.callS X337 hx (y := (⟨"java/lang/StringUTF16", "newBytesFor", "(I)[B"⟩ : MethodName)) hown (mvT hZ (tw hw 177 rfl)) (mvT hZ (tw hw 178 rfl)) (mvT hZ (tw hw 179 rfl)) (mvT hZ (tw hw 180 rfl)) (by decide) (backOf (W := 0) (rm_nbf l Z a0 hw [] cs.length h0 n0 O0 h2) hZ (tw hw 180 rfl) (tw hw 179 rfl) (by decide) (by decide)) (g := (mkF m 33 #[iv (0 : Int32), rv t, iv (1 : Int32), iv (0 : Int32), .unset, .unset, .unset, .unset, .unset] [(.int (Int32.ofNat cs.length))])) rfl (by rw [hml]; rfl) (argsL := [(.int (Int32.ofNat cs.length))]) (rest := []) (lenOf pd_16 rfl) rfl (by show 2 * 0 + _ ≤ _; exact Nat.le_of_eq rfl) (hb hby d42_46_33) (fun _ _ => ⟨rfl, e337, (by decide : 0 + 1 ≤ _), (by decide : 0 + 4 ≤ _)⟩)
      dsimp only [Pt.U, Pt.locs, Pt.cells, Pt.slots] at X343 l343 y343 z343 st343 hQ343
      subst l343 y343 z343
      refine own_go st343 ?_
      obtain ⟨t343, kt343, rfl, Nq343, K343, tg343, Vt343, Xt343⟩ := hQ343
      have N343 := Fr.app N337 Nq343
      have Vb0 : Arv Z T343.heap t343 kt343 .byte (Int32.ofNat (2 * cs.length)) (own_uP (2 * cs.length) (own_u8s (cs.take 0))) (.int (0 : Int32)) := Vt343
      refine wu X343 hx hby 36 #[iv (0 : Int32), rv t, iv (1 : Int32), iv (0 : Int32), rv t343, .unset, .unset, .unset, .unset] d42_46_36 rfl rfl ?_
      refine wa X343 hx hby 38 d42_46_38 rfl rfl ?_
      refine wu X343 hx hby 39 #[iv (0 : Int32), rv t, iv (1 : Int32), iv (0 : Int32), rv t343, rv t, .unset, .unset, .unset] d42_46_39 rfl rfl ?_
      refine wb X343 hx hby 41 d42_46_41 rfl rfl ?_
      try dsimp only [mkF]
      obtain ⟨c344, A344, q344, S344, M344, Hs344, Gs344⟩ := id (V_t.keep K343 nin0)
      refine og (fun _ k => X343.arraylength hx (by rw [(rfl : T343.heap = T343.heap)]; exact A344.1) (State.isArrayOf_alike hZ.alike A344.2.1) (g := (mkF m 43 #[iv (0 : Int32), rv t, iv (1 : Int32), iv (0 : Int32), rv t343, rv t, .unset, .unset, .unset] [(.ref t)])) rfl rfl (hb hby d42_46_43) _ k) ?_
      rw [len_of S344 M344]
      refine wz X343 hx hby 44 #[iv (0 : Int32), rv t, iv (1 : Int32), iv (0 : Int32), rv t343, rv t, iv (Int32.ofNat cs.length), .unset, .unset] d42_46_44 rfl ?_
      refine wc X343 hx hby 46 d42_46_46 ?_
      refine wz X343 hx hby 47 #[iv (0 : Int32), rv t, iv (1 : Int32), iv (0 : Int32), rv t343, rv t, iv (Int32.ofNat cs.length), iv (0 : Int32), .unset] d42_46_47 rfl ?_
      have ne345 : t ≠ t343 := Nat.ne_of_lt (Nat.lt_of_lt_of_le X_t.lt tg343)
      have loop : ∀ (kT iloop : Nat) (s8 : Slot) (T : State) (locs : List Loc) (h : Heap), iloop + kT = cs.length → Stand p l e ⟨3, 2, 12, 52⟩ s m #[(.int (0 : Int32)), (.ref t), (.int (1 : Int32))] below meth cC T locs 1 4 → T.heap = h → Fr n0 locs → Old Z n0 h → Keep h0 h [] → Arv Z h t kt .byte (Int32.ofNat cs.length) (own_lat cs) (.int (0 : Int32)) → Arv Z h t343 kt343 .byte (Int32.ofNat (2 * cs.length)) (own_uP (2 * cs.length) (own_u8s (cs.take iloop))) (.int (0 : Int32)) → Exa Z h t343 "[B" → ((s8 = .unset ∨ ∃ w, s8 = .val w ∧ w.category = 1)) → own_Go p e below (T.setTop (mkF m 49 #[iv (0 : Int32), rv t, iv (1 : Int32), iv (Int32.ofNat (own_u8s (cs.take iloop)).length), rv t343, rv t, iv (Int32.ofNat cs.length), iv (Int32.ofNat iloop), s8] [])) (fun oO U' => ∃ rV rL, oO = .returned rV ∧ QNew Z (Int32.ofNat (own_u8s cs).length) ((own_u8s cs).map Value.int) h0 n0 rV U'.heap rL ∧ FrameEnd s oO U' rL 2 12) := by
        intro kT
        induction kT with
        | zero =>
          intro iloop s8 T346 L346 h346 hik X346 e346 N346 O346 K346 J0_346 J1_346 J2_346 hs8
          have Z0_346 : n0 ≤ h346.size := O346.1 ▸ O346.2.1
          have hel := own_u8l2 (cs.take iloop) (fun c hc => hok.1 c (List.mem_of_mem_take hc)) (fun c hc => ha c (List.mem_of_mem_take hc))
          rw [own_tkl (by omega)] at hel
          have hin : iloop = cs.length := by omega
          have hlt : ¬ ((Int32.ofNat iloop) < (Int32.ofNat cs.length)) := by rw [own_lti (by omega) (by omega)]; omega
          try dsimp only [mkF]
          refine wm X346 hx hby 49 d42_46_49 rfl ?_
          refine wm X346 hx hby 51 d42_46_51 rfl ?_
          refine wy X346 hx hby 53 124 d42_46_53 (flt hlt).2.1 ?_
          refine wl X346 hx hby 124 d42_46_124 rfl ?_
          refine wb X346 hx hby 125 d42_46_125 rfl rfl ?_
          try dsimp only [mkF]
          obtain ⟨c347, A347, q347, S347, M347, Hs347, Gs347⟩ := id J1_346
          refine og (fun _ k => X346.arraylength hx (by rw [e346]; exact A347.1) (State.isArrayOf_alike hZ.alike A347.2.1) (g := (mkF m 127 #[iv (0 : Int32), rv t, iv (1 : Int32), iv (Int32.ofNat (own_u8s (cs.take iloop)).length), rv t343, rv t, iv (Int32.ofNat cs.length), iv (Int32.ofNat iloop), s8] [(.ref t343), (.int (Int32.ofNat (own_u8s (cs.take iloop)).length))])) rfl rfl (hb hby d42_46_127) _ k) ?_
          rw [len_of S347 M347]
          by_cases hc348 : (Int32.ofNat (own_u8s (cs.take iloop)).length) = (Int32.ofNat (2 * cs.length))
          · skip
            have hfl : (own_u8s (cs.take iloop)).length = (2 * cs.length) := own_eqN hc348 (by omega) (by omega)
            have Vf : Arv Z h346 t343 kt343 .byte (Int32.ofNat (own_u8s (cs.take iloop)).length) ((own_u8s (cs.take iloop)).map Value.int) (.int (0 : Int32)) := by have q := J1_346; unfold own_uP at q; rw [hfl, Nat.sub_self] at q; rw [hfl]; simpa [own_z] using q
            refine wn X346 hx hby 128 d42_46_128 (teq hc348).2 ?_
            refine wb X346 hx hby 131 d42_46_131 rfl rfl ?_
            refine own_fin (v := (some (.ref t343))) X346 (fun h => by rw [hrt] at h; cases h) hlk (fun fs hr => retR X346 hx hrt (by rfl) rfl rfl (hb hby d42_46_133) hr) (QQ := QNew Z (Int32.ofNat (own_u8s cs).length) ((own_u8s cs).map Value.int) h0 n0) ?_ (by decide) (by decide)
            rw [e346]
            exact ⟨t343, _, rfl, N346, K346, tg343, (by have q := Vf; rw [hin, own_u8n] at q; exact q), J2_346⟩
          · skip
            have hfl : ¬ (own_u8s (cs.take iloop)).length = (2 * cs.length) := fun q => hc348 (by rw [q])
            refine wy X346 hx hby 128 134 d42_46_128 (feq hc348).2 ?_
            refine wb X346 hx hby 134 d42_46_134 rfl rfl ?_
            refine wl X346 hx hby 136 d42_46_136 rfl ?_
            obtain ⟨v349, _, ⟨T349, L349, k349, n349⟩, -, X349, ⟨Lc349, hQ349, l349, y349, z349⟩, st349⟩ := Jvm.LawKit.callS X346 hx (y := (⟨"java/util/Arrays", "copyOf", "([BI)[B"⟩ : MethodName)) hown (mvT hZ (tw hw 298 rfl)) (mvT hZ (tw hw 284 rfl)) (mvT hZ (tw hw 89 rfl)) (mvT hZ (tw hw 285 rfl)) (by decide) (backOf (W := 0) (rm_cpU l Z a0 hw [] t343 kt343 (2 * cs.length) (own_u8s (cs.take iloop)) h346 n0 O346 J1_346 (by have := hfl; omega) (by omega)) hZ (tw hw 285 rfl) (tw hw 89 rfl) (by decide) (by decide)) (g := (mkF m 137 #[iv (0 : Int32), rv t, iv (1 : Int32), iv (Int32.ofNat (own_u8s (cs.take iloop)).length), rv t343, rv t, iv (Int32.ofNat cs.length), iv (Int32.ofNat iloop), s8] [(.int (Int32.ofNat (own_u8s (cs.take iloop)).length)), (.ref t343)])) rfl (by rw [hml]; rfl) (argsL := [(.ref t343), (.int (Int32.ofNat (own_u8s (cs.take iloop)).length))]) (rest := []) (lenOf pd_14 rfl) rfl (by show 2 * 0 + _ ≤ _; exact Nat.le_of_eq rfl) (hb hby d42_46_137) (fun _ _ => ⟨rfl, e346, (by decide : 1 + 1 ≤ _), (by decide : 4 + 6 ≤ _)⟩)
            dsimp only [Pt.U, Pt.locs, Pt.cells, Pt.slots] at X349 l349 y349 z349 st349 hQ349
            subst l349 y349 z349
            refine own_go st349 ?_
            obtain ⟨t349, kt349, rfl, Nq349, K349, tg349, Vt349, Xt349⟩ := hQ349
            have N349 := Fr.app N346 Nq349
            try dsimp only [mkF]
            refine own_fin (v := (some (.ref t349))) X349 (fun h => by rw [hrt] at h; cases h) hlk (fun fs hr => retR X349 hx hrt (by rfl) rfl rfl (hb hby d42_46_140) hr) (QQ := QNew Z (Int32.ofNat (own_u8s cs).length) ((own_u8s cs).map Value.int) h0 n0) ?_ (by decide) (by decide)
            exact ⟨t349, _, rfl, N349, (K346.trans K349 all0), (Nat.le_trans K346.1 tg349), (by have q := Vt349; rw [hin, own_u8n] at q; exact q), Xt349⟩
        | succ kT ih =>
          intro iloop s8 T350 L350 h350 hik X350 e350 N350 O350 K350 J0_350 J1_350 J2_350 hs8
          have Z0_350 : n0 ≤ h350.size := O350.1 ▸ O350.2.1
          have hel := own_u8l2 (cs.take iloop) (fun c hc => hok.1 c (List.mem_of_mem_take hc)) (fun c hc => ha c (List.mem_of_mem_take hc))
          rw [own_tkl (by omega)] at hel
          have hi : iloop < cs.length := by omega
          have hlt : (Int32.ofNat iloop) < (Int32.ofNat cs.length) := (own_lti (by omega) (by omega)).mpr hi
          have hln := own_lneg (hok.at hi).1 (ha _ (own_getm hi))
          try dsimp only [mkF]
          refine wm X350 hx hby 49 d42_46_49 rfl ?_
          refine wm X350 hx hby 51 d42_46_51 rfl ?_
          refine wn X350 hx hby 53 d42_46_53 (tlt hlt).2.1 ?_
          refine wb X350 hx hby 56 d42_46_56 rfl rfl ?_
          refine wm X350 hx hby 58 d42_46_58 rfl ?_
          try dsimp only [mkF]
          obtain ⟨c351, A351, q351, S351, M351, Hs351, Gs351⟩ := id J0_350
          have hi351 := inb_of (j := (Int32.ofNat iloop)) S351 (own_inb hi (by omega))
          refine og (fun _ k => X350.baloadBytes hx (j := (Int32.ofNat iloop)) (v := (.int (StrChars.lo8 (cs.getD iloop 0)))) (by rw [e350]; exact A351.1) (State.isArrayOf_alike hZ.alike A351.2.1) A351.2.2 hi351 (Has.at Hs351 hi351 (by rw [own_tn (by omega)]; exact own_lgd2 hi)) (g := (mkF m 60 #[iv (0 : Int32), rv t, iv (1 : Int32), iv (Int32.ofNat (own_u8s (cs.take iloop)).length), rv t343, rv t, iv (Int32.ofNat cs.length), iv (Int32.ofNat iloop), s8] [(.int (Int32.ofNat iloop)), (.ref t)])) rfl rfl (hb hby d42_46_60) _ k) ?_
          refine og (fun _ k => XS.istoreS X350.here hx rfl (hb hby d42_46_61) rfl rfl hs8 k) ?_
          refine wm X350 hx hby 63 d42_46_63 rfl ?_
          by_cases hc352 : (StrChars.lo8 (cs.getD iloop 0)) < (0 : Int32)
          · skip
            refine we X350 hx hby 65 d42_46_65 ((if0 _ _).trans (tlt hc352).2.1) ?_
            refine wb X350 hx hby 68 d42_46_68 rfl rfl ?_
            try dsimp only [mkF]
            refine wl X350 hx hby 70 d42_46_70 rfl ?_
            refine wi X350 hx hby 71 #[iv (0 : Int32), rv t, iv (1 : Int32), iv ((Int32.ofNat (own_u8s (cs.take iloop)).length) + (1 : Int32)), rv t343, rv t, iv (Int32.ofNat cs.length), iv (Int32.ofNat iloop), iv (StrChars.lo8 (cs.getD iloop 0))] d42_46_71 rfl rfl ?_
            refine og (fun _ k => XS.sipush X350.here hx rfl (hb hby d42_46_74) k) ?_
            refine wm X350 hx hby 77 d42_46_77 rfl ?_
            refine og (fun _ k => XS.sipush X350.here hx rfl (hb hby d42_46_79) k) ?_
            try dsimp only [mkF]
            refine og (fun _ k => XS.iand X350.here hx rfl (hb hby d42_46_82) rfl k) ?_
            refine wp X350 hx hby 83 d42_46_83 ?_
            refine og (fun _ k => XS.ishr X350.here hx rfl (hb hby d42_46_85) rfl k) ?_
            refine og (fun _ k => XS.ior X350.here hx rfl (hb hby d42_46_86) rfl k) ?_
            refine og (fun _ k => XS.i2b X350.here hx rfl (hb hby d42_46_87) rfl k) ?_
            try dsimp only [mkF]
            obtain ⟨c353, A353, q353, S353, M353, Hs353, Gs353⟩ := id J1_350
            obtain ⟨T354, h354, X354, e354, W354, st354⟩ := stB X350 hx hZ e350 A353 (j := (Int32.ofNat (own_u8s (cs.take iloop)).length)) (inb_of S353 (own_inb (i := (own_u8s (cs.take iloop)).length) (j := (2 * cs.length)) (by omega) (by omega))) (g := (mkF m 88 #[iv (0 : Int32), rv t, iv (1 : Int32), iv ((Int32.ofNat (own_u8s (cs.take iloop)).length) + (1 : Int32)), rv t343, rv t, iv (Int32.ofNat cs.length), iv (Int32.ofNat iloop), iv (StrChars.lo8 (cs.getD iloop 0))] [(.int (((192 : Int32) ||| (((StrChars.lo8 (cs.getD iloop 0)) &&& (255 : Int32)) >>> ((6 : Int32) &&& 31))).toInt8.toInt32)), (.int (Int32.ofNat (own_u8s (cs.take iloop)).length)), (.ref t343)])) rfl rfl (hb hby d42_46_88)
            refine own_go st354 ?_
            have N354 := Fr.snoc X354 N350 (Nat.le_trans Z0 tg343)
            have V354 : Arv Z h354 t343 kt343 .byte (Int32.ofNat (2 * cs.length)) (own_uP (2 * cs.length) ((own_u8s (cs.take iloop)) ++ [(StrChars.lo8 (own_b2 (cs.getD iloop 0)))])) (.int (0 : Int32)) := Eq.mp (congrArg (fun LL => Arv Z h354 t343 kt343 .byte (Int32.ofNat (2 * cs.length)) LL (.int (0 : Int32))) (show ((own_uP (2 * cs.length) (own_u8s (cs.take iloop))) : List Value).set (own_u8s (cs.take iloop)).length (.int (nar .byte (((192 : Int32) ||| (((StrChars.lo8 (cs.getD iloop 0)) &&& (255 : Int32)) >>> ((6 : Int32) &&& 31))).toInt8.toInt32))) = (own_uP (2 * cs.length) ((own_u8s (cs.take iloop)) ++ [(StrChars.lo8 (own_b2 (cs.getD iloop 0)))])) from ((congrArg (fun z => (own_uP (2 * cs.length) (own_u8s (cs.take iloop))).set (own_u8s (cs.take iloop)).length (Value.int z)) (by rw [StrChars.lo8_mask (hok.at hi).1 (ha _ (own_getm hi))]; exact own_nb (own_b2 (cs.getD iloop 0)))).trans (own_apU (by omega))))) (Arv.set A353 q353 S353 M353 Hs353 Gs353 (fits_nar_byte _) W354 (own_u8s (cs.take iloop)).length (own_tn (by first | omega | (simp only [List.length_append, List.length_cons, List.length_nil]; omega))) (by rw [own_uPl (Nat.le_of_lt (by omega))]; exact (by omega)))
            show own_Go p e below (T354.setTop (mkF m 89 #[iv (0 : Int32), rv t, iv (1 : Int32), iv ((Int32.ofNat (own_u8s (cs.take iloop)).length) + (1 : Int32)), rv t343, rv t, iv (Int32.ofNat cs.length), iv (Int32.ofNat iloop), iv (StrChars.lo8 (cs.getD iloop 0))] [])) _
            rw [own_len1 (own_u8s (cs.take iloop)) (StrChars.lo8 (own_b2 (cs.getD iloop 0)))]
            refine wb X354 hx hby 89 d42_46_89 rfl rfl ?_
            refine wl X354 hx hby 91 d42_46_91 rfl ?_
            refine wi X354 hx hby 92 #[iv (0 : Int32), rv t, iv (1 : Int32), iv ((Int32.ofNat ((own_u8s (cs.take iloop)) ++ [(StrChars.lo8 (own_b2 (cs.getD iloop 0)))]).length) + (1 : Int32)), rv t343, rv t, iv (Int32.ofNat cs.length), iv (Int32.ofNat iloop), iv (StrChars.lo8 (cs.getD iloop 0))] d42_46_92 rfl rfl ?_
            try dsimp only [mkF]
            refine og (fun _ k => XS.sipush X354.here hx rfl (hb hby d42_46_95) k) ?_
            refine wm X354 hx hby 98 d42_46_98 rfl ?_
            refine wp X354 hx hby 100 d42_46_100 ?_
            refine og (fun _ k => XS.iand X354.here hx rfl (hb hby d42_46_102) rfl k) ?_
            refine og (fun _ k => XS.ior X354.here hx rfl (hb hby d42_46_103) rfl k) ?_
            try dsimp only [mkF]
            refine og (fun _ k => XS.i2b X354.here hx rfl (hb hby d42_46_104) rfl k) ?_
            obtain ⟨c355, A355, q355, S355, M355, Hs355, Gs355⟩ := id V354
            obtain ⟨T356, h356, X356, e356, W356, st356⟩ := stB X354 hx hZ e354 A355 (j := (Int32.ofNat ((own_u8s (cs.take iloop)) ++ [(StrChars.lo8 (own_b2 (cs.getD iloop 0)))]).length)) (inb_of S355 (own_inb (i := ((own_u8s (cs.take iloop)) ++ [(StrChars.lo8 (own_b2 (cs.getD iloop 0)))]).length) (j := (2 * cs.length)) (by rw [List.length_append]; show _ + 1 < _; omega) (by omega))) (g := (mkF m 105 #[iv (0 : Int32), rv t, iv (1 : Int32), iv ((Int32.ofNat ((own_u8s (cs.take iloop)) ++ [(StrChars.lo8 (own_b2 (cs.getD iloop 0)))]).length) + (1 : Int32)), rv t343, rv t, iv (Int32.ofNat cs.length), iv (Int32.ofNat iloop), iv (StrChars.lo8 (cs.getD iloop 0))] [(.int (((128 : Int32) ||| ((StrChars.lo8 (cs.getD iloop 0)) &&& (63 : Int32))).toInt8.toInt32)), (.int (Int32.ofNat ((own_u8s (cs.take iloop)) ++ [(StrChars.lo8 (own_b2 (cs.getD iloop 0)))]).length)), (.ref t343)])) rfl rfl (hb hby d42_46_105)
            refine own_go st356 ?_
            have N356 := Fr.snoc X356 N354 (Nat.le_trans Z0 tg343)
            have V356 : Arv Z h356 t343 kt343 .byte (Int32.ofNat (2 * cs.length)) (own_uP (2 * cs.length) (((own_u8s (cs.take iloop)) ++ [(StrChars.lo8 (own_b2 (cs.getD iloop 0)))]) ++ [(StrChars.lo8 (own_bl (cs.getD iloop 0)))])) (.int (0 : Int32)) := Eq.mp (congrArg (fun LL => Arv Z h356 t343 kt343 .byte (Int32.ofNat (2 * cs.length)) LL (.int (0 : Int32))) (show ((own_uP (2 * cs.length) ((own_u8s (cs.take iloop)) ++ [(StrChars.lo8 (own_b2 (cs.getD iloop 0)))])) : List Value).set ((own_u8s (cs.take iloop)) ++ [(StrChars.lo8 (own_b2 (cs.getD iloop 0)))]).length (.int (nar .byte (((128 : Int32) ||| ((StrChars.lo8 (cs.getD iloop 0)) &&& (63 : Int32))).toInt8.toInt32))) = (own_uP (2 * cs.length) (((own_u8s (cs.take iloop)) ++ [(StrChars.lo8 (own_b2 (cs.getD iloop 0)))]) ++ [(StrChars.lo8 (own_bl (cs.getD iloop 0)))])) from ((congrArg (fun z => (own_uP (2 * cs.length) ((own_u8s (cs.take iloop)) ++ [(StrChars.lo8 (own_b2 (cs.getD iloop 0)))])).set ((own_u8s (cs.take iloop)) ++ [(StrChars.lo8 (own_b2 (cs.getD iloop 0)))]).length (Value.int z)) (by rw [own_l63 (hok.at hi).1 (ha _ (own_getm hi))]; exact own_nb (own_bl (cs.getD iloop 0)))).trans (own_apU (by rw [List.length_append]; show _ + 1 < _; omega))))) (Arv.set A355 q355 S355 M355 Hs355 Gs355 (fits_nar_byte _) W356 ((own_u8s (cs.take iloop)) ++ [(StrChars.lo8 (own_b2 (cs.getD iloop 0)))]).length (own_tn (by first | omega | (simp only [List.length_append, List.length_cons, List.length_nil]; omega))) (by rw [own_uPl (Nat.le_of_lt (by rw [List.length_append]; show _ + 1 < _; omega))]; exact (by rw [List.length_append]; show _ + 1 < _; omega)))
            show own_Go p e below (T356.setTop (mkF m 106 #[iv (0 : Int32), rv t, iv (1 : Int32), iv ((Int32.ofNat ((own_u8s (cs.take iloop)) ++ [(StrChars.lo8 (own_b2 (cs.getD iloop 0)))]).length) + (1 : Int32)), rv t343, rv t, iv (Int32.ofNat cs.length), iv (Int32.ofNat iloop), iv (StrChars.lo8 (cs.getD iloop 0))] [])) _
            rw [own_len1 ((own_u8s (cs.take iloop)) ++ [(StrChars.lo8 (own_b2 (cs.getD iloop 0)))]) (StrChars.lo8 (own_bl (cs.getD iloop 0)))]
            refine wg X356 hx hby 106 118 d42_46_106 ?_
            refine wi X356 hx hby 118 #[iv (0 : Int32), rv t, iv (1 : Int32), iv (Int32.ofNat (((own_u8s (cs.take iloop)) ++ [(StrChars.lo8 (own_b2 (cs.getD iloop 0)))]) ++ [(StrChars.lo8 (own_bl (cs.getD iloop 0)))]).length), rv t343, rv t, iv (Int32.ofNat cs.length), iv ((Int32.ofNat iloop) + (1 : Int32)), iv (StrChars.lo8 (cs.getD iloop 0))] d42_46_118 rfl rfl ?_
            try dsimp only [mkF]
            refine wg X356 hx hby 121 49 d42_46_121 ?_
            show own_Go p e below (T356.setTop (mkF m 49 #[iv (0 : Int32), rv t, iv (1 : Int32), iv (Int32.ofNat (((own_u8s (cs.take iloop)) ++ [(StrChars.lo8 (own_b2 (cs.getD iloop 0)))]) ++ [(StrChars.lo8 (own_bl (cs.getD iloop 0)))]).length), rv t343, rv t, iv (Int32.ofNat cs.length), iv ((Int32.ofNat iloop) + (1 : Int32)), iv (StrChars.lo8 (cs.getD iloop 0))] [])) _
            have eqn : (((own_u8s (cs.take iloop)) ++ [(StrChars.lo8 (own_b2 (cs.getD iloop 0)))]) ++ [(StrChars.lo8 (own_bl (cs.getD iloop 0)))]) = own_u8s (cs.take (iloop + 1)) := by rw [own_u8t hi]; unfold own_u8; rw [if_neg (hln.1.mp hc352), if_pos hln.2.2]; simp
            rw [own_inc, eqn]
            have f357 := ((J0_350.other W354 ne345).other W356 ne345)
            have f358 := ((J2_350.wr W354).wr W356)
            have f359 := ((O350.wr W354 (Nat.le_trans Z0 tg343)).wr W356 (Nat.le_trans Z0 tg343))
            have f360 := ((K350.wr W354 (Or.inr tg343)).wr W356 (Or.inr tg343))
            exact ih (iloop + 1) (iv (StrChars.lo8 (cs.getD iloop 0))) T356 _ h356 (by omega) X356 e356 N356 f359 f360 f357 (eqn ▸ V356) f358 (Or.inr ⟨_, rfl, rfl⟩)
          · skip
            refine wf X350 hx hby 65 109 d42_46_65 ((if0 _ _).trans (flt hc352).2.1) ?_
            refine wb X350 hx hby 109 d42_46_109 rfl rfl ?_
            try dsimp only [mkF]
            refine wl X350 hx hby 111 d42_46_111 rfl ?_
            refine wi X350 hx hby 112 #[iv (0 : Int32), rv t, iv (1 : Int32), iv ((Int32.ofNat (own_u8s (cs.take iloop)).length) + (1 : Int32)), rv t343, rv t, iv (Int32.ofNat cs.length), iv (Int32.ofNat iloop), iv (StrChars.lo8 (cs.getD iloop 0))] d42_46_112 rfl rfl ?_
            refine wm X350 hx hby 115 d42_46_115 rfl ?_
            obtain ⟨c361, A361, q361, S361, M361, Hs361, Gs361⟩ := id J1_350
            obtain ⟨T362, h362, X362, e362, W362, st362⟩ := stB X350 hx hZ e350 A361 (j := (Int32.ofNat (own_u8s (cs.take iloop)).length)) (inb_of S361 (own_inb (i := (own_u8s (cs.take iloop)).length) (j := (2 * cs.length)) (by omega) (by omega))) (g := (mkF m 117 #[iv (0 : Int32), rv t, iv (1 : Int32), iv ((Int32.ofNat (own_u8s (cs.take iloop)).length) + (1 : Int32)), rv t343, rv t, iv (Int32.ofNat cs.length), iv (Int32.ofNat iloop), iv (StrChars.lo8 (cs.getD iloop 0))] [(.int (StrChars.lo8 (cs.getD iloop 0))), (.int (Int32.ofNat (own_u8s (cs.take iloop)).length)), (.ref t343)])) rfl rfl (hb hby d42_46_117)
            refine own_go st362 ?_
            have N362 := Fr.snoc X362 N350 (Nat.le_trans Z0 tg343)
            have V362 : Arv Z h362 t343 kt343 .byte (Int32.ofNat (2 * cs.length)) (own_uP (2 * cs.length) ((own_u8s (cs.take iloop)) ++ [(cs.getD iloop 0)])) (.int (0 : Int32)) := Eq.mp (congrArg (fun LL => Arv Z h362 t343 kt343 .byte (Int32.ofNat (2 * cs.length)) LL (.int (0 : Int32))) (show ((own_uP (2 * cs.length) (own_u8s (cs.take iloop))) : List Value).set (own_u8s (cs.take iloop)).length (.int (nar .byte (StrChars.lo8 (cs.getD iloop 0)))) = (own_uP (2 * cs.length) ((own_u8s (cs.take iloop)) ++ [(cs.getD iloop 0)])) from ((congrArg (fun z => (own_uP (2 * cs.length) (own_u8s (cs.take iloop))).set (own_u8s (cs.take iloop)).length (Value.int z)) (own_n8l (hln.2.1 hc352))).trans (own_apU (by omega))))) (Arv.set A361 q361 S361 M361 Hs361 Gs361 (fits_nar_byte _) W362 (own_u8s (cs.take iloop)).length (own_tn (by first | omega | (simp only [List.length_append, List.length_cons, List.length_nil]; omega))) (by rw [own_uPl (Nat.le_of_lt (by omega))]; exact (by omega)))
            show own_Go p e below (T362.setTop (mkF m 118 #[iv (0 : Int32), rv t, iv (1 : Int32), iv ((Int32.ofNat (own_u8s (cs.take iloop)).length) + (1 : Int32)), rv t343, rv t, iv (Int32.ofNat cs.length), iv (Int32.ofNat iloop), iv (StrChars.lo8 (cs.getD iloop 0))] [])) _
            rw [own_len1 (own_u8s (cs.take iloop)) (cs.getD iloop 0)]
            try dsimp only [mkF]
            refine wi X362 hx hby 118 #[iv (0 : Int32), rv t, iv (1 : Int32), iv (Int32.ofNat ((own_u8s (cs.take iloop)) ++ [(cs.getD iloop 0)]).length), rv t343, rv t, iv (Int32.ofNat cs.length), iv ((Int32.ofNat iloop) + (1 : Int32)), iv (StrChars.lo8 (cs.getD iloop 0))] d42_46_118 rfl rfl ?_
            refine wg X362 hx hby 121 49 d42_46_121 ?_
            show own_Go p e below (T362.setTop (mkF m 49 #[iv (0 : Int32), rv t, iv (1 : Int32), iv (Int32.ofNat ((own_u8s (cs.take iloop)) ++ [(cs.getD iloop 0)]).length), rv t343, rv t, iv (Int32.ofNat cs.length), iv ((Int32.ofNat iloop) + (1 : Int32)), iv (StrChars.lo8 (cs.getD iloop 0))] [])) _
            have h8 : (cs.getD iloop 0) < (128 : Int32) := Decidable.byContradiction (fun q => hc352 (hln.1.mpr q))
            have eqn : ((own_u8s (cs.take iloop)) ++ [(cs.getD iloop 0)]) = own_u8s (cs.take (iloop + 1)) := by rw [own_u8t hi]; unfold own_u8; rw [if_pos h8]
            rw [own_inc, eqn]
            have f363 := (J0_350.other W362 ne345)
            have f364 := (O350.wr W362 (Nat.le_trans Z0 tg343))
            have f365 := (K350.wr W362 (Or.inr tg343))
            exact ih (iloop + 1) (iv (StrChars.lo8 (cs.getD iloop 0))) T362 _ h362 (by omega) X362 e362 N362 f364 f365 f363 (eqn ▸ V362) (J2_350.wr W362) (Or.inr ⟨_, rfl, rfl⟩)
      have f366 := ((Keep.refl h0 []).trans K343 all0)
      exact loop (cs.length) 0 .unset T343 _ T343.heap (by omega) X343 (rfl : T343.heap = T343.heap) N343 (O0.keep K343 all0) f366 (V_t.keep K343 nin0) Vb0 Xt343 (Or.inl rfl)
  · subst c1 c2 c3
    refine wl X0 hx hby 0 d42_46_0 rfl ?_
    refine wc X0 hx hby 1 d42_46_1 ?_
    refine wn X0 hx hby 2 d42_46_2 (teq (by decide : (1 : Int32) = (1 : Int32))).2 ?_
    try dsimp only [mkF]
    refine wa X0 hx hby 5 d42_46_5 rfl rfl ?_
    refine wl X0 hx hby 6 d42_46_6 rfl ?_
    obtain ⟨v367, _, ⟨T367, L367, k367, n367⟩, -, X367, ⟨Lc367, hQ367, l367, y367, z367⟩, st367⟩ := Jvm.LawKit.callS X0 hx (y := (⟨"java/lang/String", "encodeUTF8_UTF16", "([BZ)[B"⟩ : MethodName)) hown (mvT hZ (tw hw 260 rfl)) (mvT hZ (tw hw 261 rfl)) (mvT hZ (tw hw 11 rfl)) (mvT hZ (tw hw 262 rfl)) (by decide) (backOf (W := 0) (rm_ew l Z a0 hw [] t kt cs h0 n0 O0 OA OH OL V_t hok h2 hns) hZ (tw hw 262 rfl) (tw hw 11 rfl) (by decide) (by decide)) (g := (mkF m 7 #[iv (1 : Int32), rv t, iv (1 : Int32), .unset, .unset, .unset, .unset, .unset, .unset] [(.int (1 : Int32)), (.ref t)])) rfl (by rw [hml]; rfl) (argsL := [(.ref t), (.int (1 : Int32))]) (rest := []) (lenOf pd_26 rfl) rfl (by show 2 * 0 + _ ≤ _; exact Nat.le_of_eq rfl) (hb hby d42_46_7) (fun _ _ => ⟨rfl, e0, (by decide : 0 + 2 ≤ _), (by decide : 0 + 12 ≤ _)⟩)
    dsimp only [Pt.U, Pt.locs, Pt.cells, Pt.slots] at X367 l367 y367 z367 st367 hQ367
    subst l367 y367 z367
    refine own_go st367 ?_
    obtain ⟨t367, kt367, rfl, Nq367, K367, tg367, Vt367, Xt367⟩ := hQ367
    have N367 := Fr.app N0 Nq367
    have f368 := ((Keep.refl h0 []).trans K367 all0)
    refine own_fin (v := (some (.ref t367))) X367 (fun h => by rw [hrt] at h; cases h) hlk (fun fs hr => retR X367 hx hrt (by rfl) rfl rfl (hb hby d42_46_10) hr) (QQ := QNew Z (Int32.ofNat (own_u8s cs).length) ((own_u8s cs).map Value.int) h0 n0) ?_ (by decide) (by decide)
    exact ⟨t367, _, rfl, N367, f368, tg367, Vt367, Xt367⟩

abbrev k42_18 := jdk_42_method_18_code
theorem d42_18_0:Dk k42_18 0 (.aload_n 0) 1:=kk
theorem d42_18_1:Dk k42_18 1 (.getstatic 86) 3:=kk
theorem d42_18_4:Dk k42_18 4 (.if_acmp .ne 10) 3:=kk
theorem d42_18_7:Dk k42_18 7 (.iload_n 1) 1:=kk
theorem d42_18_8:Dk k42_18 8 (.aload_n 2) 1:=kk
theorem d42_18_9:Dk k42_18 9 (.iconst 1) 1:=kk
theorem d42_18_10:Dk k42_18 10 (.invokestatic 252) 3:=kk
theorem pd_27 : parseMethodDescriptor "(B[BZ)[B" = some ⟨[.byte, (.array .byte), .boolean], some (.array .byte)⟩ := by decide +kernel
theorem d42_18_13:Dk k42_18 13 (.areturn) 1:=kk
set_option maxRecDepth 65536 in
set_option maxHeartbeats 40000000 in
theorem rm_enc (l : Launch) (Z : State) (a0 : Array Value) (hw : ∀ d ∈ tables_1, d.before a0 Z = true) (ws : List Jvm.Cond) (t : Addr) (kt : ClassId) (cs : List Int32) (cx Nx : Int32) (vx : List Value) (u8 : Addr) (h0 : Heap) (n0 : Nat) (O0 : Old Z n0 h0) (OA : Sta Z Z.heap "java/lang/StringUTF16" "$assertionsDisabled" "Z" (.int (1 : Int32))) (OH : Sta Z Z.heap "java/lang/StringUTF16" "HI_BYTE_SHIFT" "I" (.int (0 : Int32))) (OL : Sta Z Z.heap "java/lang/StringUTF16" "LO_BYTE_SHIFT" "I" (.int (8 : Int32))) (OU : Sta Z Z.heap "sun/nio/cs/UTF_8" "INSTANCE" "Lsun/nio/cs/UTF_8;" (.ref u8)) (V_t : Arv Z h0 t kt .byte Nx vx (.int (0 : Int32))) (X_t : Exa Z h0 t "[B") (hCx : StrChars.Road.CodA cs cx Nx vx) (hok : own_Ok cs) (h2 : cs.length ≤ 2) (hns : ∀ c ∈ cs, c < (55296 : Int32) ∨ (57343 : Int32) < c) :
    own_TN l Z ws h0 (⟨"java/lang/String", "encode", "(Ljava/nio/charset/Charset;B[B)[B"⟩ : MethodName) jdk_42_method_18_code 3 (some (.array .byte)) ⟨4, 2, 12, 72⟩ #[(.ref u8), (.int cx), (.ref t)] (QNew Z (Int32.ofNat (own_u8s cs).length) ((own_u8s cs).map Value.int) h0 n0) 2 12 := by
  refine own_bN "java/lang/String" #[rv u8, iv cx, rv t] (pf pn_3 rfl) rfl O0 (fun m => own_e) ?_
  intro p e s m below meth cC s₁ hZ hh hx hby hml hown hnm hrt hlk X0 e0 N0 Z0
  refine wa X0 hx hby 0 d42_18_0 rfl rfl ?_
  obtain ⟨T369, X369, e369, st369⟩ := getS2 X0 hx hZ hown (host := "") (Or.inl (tw hw 156 rfl)) Via.refl e0 (OU.ext O0.2) (g := (mkF m 1 #[rv u8, iv cx, rv t] [(.ref u8)])) rfl (hb hby d42_18_1)
  refine own_go st369 ?_
  refine og (fun _ k => Jvm.RoadKit.acmp (g := (mkF m 4 #[rv u8, iv cx, rv t] [(.ref u8), (.ref u8)])) X369 hx rfl rfl rfl (pc0 := 4) (pc' := 7) (same := true) rfl (hb hby d42_18_4) rfl (decide_eq_true rfl) (by decide) (by decide) k) ?_
  refine wl X369 hx hby 7 d42_18_7 rfl ?_
  try dsimp only [mkF]
  refine wa X369 hx hby 8 d42_18_8 rfl rfl ?_
  refine wc X369 hx hby 9 d42_18_9 ?_
  obtain ⟨v370, _, ⟨T370, L370, k370, n370⟩, -, X370, ⟨Lc370, hQ370, l370, y370, z370⟩, st370⟩ := Jvm.LawKit.callS X369 hx (y := (⟨"java/lang/String", "encodeUTF8", "(B[BZ)[B"⟩ : MethodName)) hown (mvT hZ (tw hw 158 rfl)) (mvT hZ (tw hw 159 rfl)) (mvT hZ (tw hw 11 rfl)) (mvT hZ (tw hw 160 rfl)) (by decide) (backOf (W := 0) (rm_eu8 l Z a0 hw [] t kt cs cx Nx vx h0 n0 O0 OA OH OL V_t X_t hCx hok h2 hns) hZ (tw hw 160 rfl) (tw hw 11 rfl) (by decide) (by decide)) (g := (mkF m 10 #[rv u8, iv cx, rv t] [(.int (1 : Int32)), (.ref t), (.int cx)])) rfl (by rw [hml]; rfl) (argsL := [(.int cx), (.ref t), (.int (1 : Int32))]) (rest := []) (lenOf pd_27 rfl) rfl (by show 2 * 0 + _ ≤ _; exact Nat.le_of_eq rfl) (hb hby d42_18_10) (fun _ _ => ⟨rfl, e369, (by decide : 0 + 2 ≤ _), (by decide : 0 + 12 ≤ _)⟩)
  dsimp only [Pt.U, Pt.locs, Pt.cells, Pt.slots] at X370 l370 y370 z370 st370 hQ370
  subst l370 y370 z370
  refine own_go st370 ?_
  obtain ⟨t370, kt370, rfl, Nq370, K370, tg370, Vt370, Xt370⟩ := hQ370
  have N370 := Fr.app N0 Nq370
  have f371 := ((Keep.refl h0 []).trans K370 all0)
  refine own_fin (v := (some (.ref t370))) X370 (fun h => by rw [hrt] at h; cases h) hlk (fun fs hr => retR X370 hx hrt (by rfl) rfl rfl (hb hby d42_18_13) hr) (QQ := QNew Z (Int32.ofNat (own_u8s cs).length) ((own_u8s cs).map Value.int) h0 n0) ?_ (by decide) (by decide)
  exact ⟨t370, _, rfl, N370, f371, tg370, Vt370, Xt370⟩

abbrev k42_152 := jdk_42_method_152_code
theorem d42_152_0:Dk k42_152 0 (.getstatic 38) 3:=kk
theorem d42_152_3:Dk k42_152 3 (.ifCond .eq 10) 3:=kk
theorem d42_152_6:Dk k42_152 6 (.aload_n 0) 1:=kk
theorem d42_152_7:Dk k42_152 7 (.getfield 15) 3:=kk
theorem d42_152_10:Dk k42_152 10 (.goto 4) 3:=kk
theorem d42_152_14:Dk k42_152 14 (.ireturn) 1:=kk
set_option maxRecDepth 65536 in
set_option maxHeartbeats 40000000 in
theorem rm_cod (l : Launch) (Z : State) (a0 : Array Value) (hw : ∀ d ∈ tables_1, d.before a0 Z = true) (ws : List Jvm.Cond) (x : Addr) (cx G1 : Int32) (h0 : Heap) (n0 : Nat) (O0 : Old Z n0 h0) (E_x : Exa Z h0 x "java/lang/String") (Fc_x : Fld Z h0 x "java/lang/String" "coder" "B" (.int cx)) (O2 : Sta Z Z.heap "java/lang/String" "COMPACT_STRINGS" "Z" (.int G1)) (P5 : ¬ (G1 = (0 : Int32))) (hcx : nar .byte cx = cx) :
    own_TN l Z ws h0 (⟨"java/lang/String", "coder", "()B"⟩ : MethodName) jdk_42_method_152_code 1 (some .byte) ⟨0, 0, 0, 0⟩ #[(.ref x)] (QPure (some (.int cx)) h0 n0) 0 0 := by
  refine own_bN "java/lang/String" #[rv x] (pf pn_3 rfl) rfl O0 (fun m => own_e) ?_
  intro p e s m below meth cC s₁ hZ hh hx hby hml hown hnm hrt hlk X0 e0 N0 Z0
  obtain ⟨T372, X372, e372, st372⟩ := getS2 X0 hx hZ hown (host := "") (Or.inl (tw hw 115 rfl)) Via.refl e0 (O2.ext O0.2) (g := (mkF m 0 #[rv x] [])) rfl (hb hby d42_152_0)
  refine own_go st372 ?_
  refine we X372 hx hby 3 d42_152_3 ((if0 _ _).trans (feq P5).1) ?_
  refine wa X372 hx hby 6 d42_152_6 rfl rfl ?_
  obtain ⟨T373, X373, e373, st373⟩ := getF X372 hx hZ hown (host := "") (Or.inl (tw hw 30 rfl)) Via.refl e372 Fc_x (g := (mkF m 7 #[rv x] [(.ref x)])) rfl rfl (hb hby d42_152_7)
  refine own_go st373 ?_
  try dsimp only [mkF]
  refine wg X373 hx hby 10 14 d42_152_10 ?_
  refine own_fin (v := (some (.int (nar .byte cx)))) X373 (fun h => by rw [hrt] at h; cases h) hlk (fun fs hr => retN X373 hx (t := .byte) hrt (by simp) (hb hby d42_152_14) hr) (QQ := QPure (some (.int cx)) h0 n0) ?_ (by decide) (by decide)
  rw [e373]
  exact ⟨congrArg (fun z => some (Value.int z)) hcx, N0, rfl⟩

abbrev k42_64 := jdk_42_method_64_code
theorem d42_64_0:Dk k42_64 0 (.aload_n 1) 1:=kk
theorem d42_64_1:Dk k42_64 1 (.ifnonnull 11) 3:=kk
theorem d42_64_12:Dk k42_64 12 (.aload_n 1) 1:=kk
theorem d42_64_13:Dk k42_64 13 (.aload_n 0) 1:=kk
theorem d42_64_14:Dk k42_64 14 (.invokevirtual 335) 3:=kk
theorem pd_28 : parseMethodDescriptor "()B" = some ⟨[], some .byte⟩ := by decide +kernel
theorem d42_64_17:Dk k42_64 17 (.aload_n 0) 1:=kk
theorem d42_64_18:Dk k42_64 18 (.getfield 9) 3:=kk
theorem d42_64_21:Dk k42_64 21 (.invokestatic 535) 3:=kk
theorem pd_29 : parseMethodDescriptor "(Ljava/nio/charset/Charset;B[B)[B" = some ⟨[(.object "java/nio/charset/Charset"), .byte, (.array .byte)], some (.array .byte)⟩ := by decide +kernel
theorem d42_64_24:Dk k42_64 24 (.areturn) 1:=kk
set_option maxRecDepth 65536 in
set_option maxHeartbeats 40000000 in
theorem rm_gby (l : Launch) (Z : State) (a0 : Array Value) (hw : ∀ d ∈ tables_1, d.before a0 Z = true) (ws : List Jvm.Cond) (x t : Addr) (kt : ClassId) (cs : List Int32) (cx Nx : Int32) (vx : List Value) (G1 : Int32) (u8 : Addr) (h0 : Heap) (n0 : Nat) (O0 : Old Z n0 h0) (OA : Sta Z Z.heap "java/lang/StringUTF16" "$assertionsDisabled" "Z" (.int (1 : Int32))) (OH : Sta Z Z.heap "java/lang/StringUTF16" "HI_BYTE_SHIFT" "I" (.int (0 : Int32))) (OL : Sta Z Z.heap "java/lang/StringUTF16" "LO_BYTE_SHIFT" "I" (.int (8 : Int32))) (OU : Sta Z Z.heap "sun/nio/cs/UTF_8" "INSTANCE" "Lsun/nio/cs/UTF_8;" (.ref u8)) (O2 : Sta Z Z.heap "java/lang/String" "COMPACT_STRINGS" "Z" (.int G1)) (P5 : ¬ (G1 = (0 : Int32))) (E_x : Exa Z h0 x "java/lang/String") (Fv_x : Fld Z h0 x "java/lang/String" "value" "[B" (.ref t)) (Fc_x : Fld Z h0 x "java/lang/String" "coder" "B" (.int cx)) (V_t : Arv Z h0 t kt .byte Nx vx (.int (0 : Int32))) (X_t : Exa Z h0 t "[B") (hCx : StrChars.Road.CodA cs cx Nx vx) (hok : own_Ok cs) (h2 : cs.length ≤ 2) (hns : ∀ c ∈ cs, c < (55296 : Int32) ∨ (57343 : Int32) < c) :
    own_TN l Z ws h0 (⟨"java/lang/String", "getBytes", "(Ljava/nio/charset/Charset;)[B"⟩ : MethodName) jdk_42_method_64_code 2 (some (.array .byte)) ⟨5, 2, 12, 86⟩ #[(.ref x), (.ref u8)] (QNew Z (Int32.ofNat (own_u8s cs).length) ((own_u8s cs).map Value.int) h0 n0) 2 12 := by
  refine own_bN "java/lang/String" #[rv x, rv u8] (pf pn_3 rfl) rfl O0 (fun m => own_e) ?_
  intro p e s m below meth cC s₁ hZ hh hx hby hml hown hnm hrt hlk X0 e0 N0 Z0
  refine wa X0 hx hby 0 d42_64_0 rfl rfl ?_
  refine og (fun _ k => XS.ifnonnullYes X0.here hx rfl (pc0 := 1) (pc' := 12) rfl (hb hby d42_64_1) rfl (by decide) (by decide) k) ?_
  refine wa X0 hx hby 12 d42_64_12 rfl rfl ?_
  refine wa X0 hx hby 13 d42_64_13 rfl rfl ?_
  try dsimp only [mkF]
  obtain ⟨cq374, kq374, q374a, q374b, q374c⟩ := isOf hZ e0 E_x
  obtain ⟨v374, _, ⟨T374, L374, k374, n374⟩, -, X374, ⟨Lc374, hQ374, l374, y374, z374⟩, st374⟩ := X0.virtualBack hx (y := (⟨"java/lang/String", "coder", "()B"⟩ : MethodName)) (z := (⟨"java/lang/String", "coder", "()B"⟩ : MethodName)) hown (mvT hZ (tw hw 110 rfl)) (mvT hZ (tw hw 111 rfl)) (notFace_of_selects (args := #[]) (mvT hZ (tw hw 113 rfl))) (mvT hZ (tw hw 113 rfl)) (mvT hZ (tw hw 112 rfl)) (by decide) (backOf (W := 1) (rm_cod l Z a0 hw [] x cx G1 h0 n0 O0 E_x Fc_x O2 P5 (own_ncd hCx)) hZ (tw hw 114 rfl) (tw hw 11 rfl) (by decide) (by decide)) q374a q374c (g := (mkF m 14 #[rv x, rv u8] [(.ref x), (.ref u8)])) rfl (by rw [hml]; rfl) (Steps.refl _) (argsL := []) (rest := [(.ref u8)]) (lenOf pd_28 rfl) rfl (by show 2 * 0 + _ ≤ _; exact Nat.le_of_eq rfl) (hb hby d42_64_14) (fun _ _ => ⟨rfl, e0, (by decide : 0 + 0 ≤ _), (by decide : 0 + 0 ≤ _)⟩)
  dsimp only [Pt.U, Pt.locs, Pt.cells, Pt.slots] at X374 l374 y374 z374 st374 hQ374
  subst l374 y374 z374
  refine own_gos st374 ?_
  obtain ⟨rfl, Nq374, e374⟩ := hQ374
  have N374 := Fr.app N0 Nq374
  refine wa X374 hx hby 17 d42_64_17 rfl rfl ?_
  obtain ⟨T375, X375, e375, st375⟩ := getF X374 hx hZ hown (host := "") (Or.inl (tw hw 29 rfl)) Via.refl e374 Fv_x (g := (mkF m 18 #[rv x, rv u8] [(.ref x), (.int cx), (.ref u8)])) rfl rfl (hb hby d42_64_18)
  refine own_go st375 ?_
  obtain ⟨v376, _, ⟨T376, L376, k376, n376⟩, -, X376, ⟨Lc376, hQ376, l376, y376, z376⟩, st376⟩ := Jvm.LawKit.callS X375 hx (y := (⟨"java/lang/String", "encode", "(Ljava/nio/charset/Charset;B[B)[B"⟩ : MethodName)) hown (mvT hZ (tw hw 153 rfl)) (mvT hZ (tw hw 154 rfl)) (mvT hZ (tw hw 11 rfl)) (mvT hZ (tw hw 155 rfl)) (by decide) (backOf (W := 0) (rm_enc l Z a0 hw [] t kt cs cx Nx vx u8 h0 n0 O0 OA OH OL OU V_t X_t hCx hok h2 hns) hZ (tw hw 155 rfl) (tw hw 11 rfl) (by decide) (by decide)) (g := (mkF m 21 #[rv x, rv u8] [(.ref t), (.int cx), (.ref u8)])) rfl (by rw [hml]; rfl) (argsL := [(.ref u8), (.int cx), (.ref t)]) (rest := []) (lenOf pd_29 rfl) rfl (by show 2 * 0 + _ ≤ _; exact Nat.le_of_eq rfl) (hb hby d42_64_21) (fun _ _ => ⟨rfl, e375, (by decide : 0 + 2 ≤ _), (by decide : 0 + 12 ≤ _)⟩)
  dsimp only [Pt.U, Pt.locs, Pt.cells, Pt.slots] at X376 l376 y376 z376 st376 hQ376
  subst l376 y376 z376
  refine own_go st376 ?_
  obtain ⟨t376, kt376, rfl, Nq376, K376, tg376, Vt376, Xt376⟩ := hQ376
  have N376 := Fr.app N374 Nq376
  have f377 := ((Keep.refl h0 []).trans K376 all0)
  refine own_fin (v := (some (.ref t376))) X376 (fun h => by rw [hrt] at h; cases h) hlk (fun fs hr => retR X376 hx hrt (by rfl) rfl rfl (hb hby d42_64_24) hr) (QQ := QNew Z (Int32.ofNat (own_u8s cs).length) ((own_u8s cs).map Value.int) h0 n0) ?_ (by decide) (by decide)
  exact ⟨t376, _, rfl, N376, f377, tg376, Vt376, Xt376⟩

abbrev k65_131 := jdk_65_method_131_code
theorem d65_131_0:Dk k65_131 0 (.iload_n 1) 1:=kk
theorem d65_131_1:Dk k65_131 1 (.iload_n 0) 1:=kk
theorem d65_131_2:Dk k65_131 2 (.if_icmp .ge 35) 3:=kk
theorem d65_131_37:Dk k65_131 37 (.return_) 1:=kk
set_option maxRecDepth 65536 in
set_option maxHeartbeats 40000000 in
theorem rm_ckl (l : Launch) (Z : State) (a0 : Array Value) (hw : ∀ d ∈ tables_1, d.before a0 Z = true) (ws : List Jvm.Cond) (p1 p2 : Int32) (h0 : Heap) (n0 : Nat) (O0 : Old Z n0 h0) (q1 : ¬ p2 < p1) :
    own_TN l Z ws h0 (⟨"java/util/Arrays", "checkLength", "(II)V"⟩ : MethodName) jdk_65_method_131_code 2 none ⟨0, 0, 0, 0⟩ #[(.int p1), (.int p2)] (QPure (none) h0 n0) 0 0 := by
  refine own_bN "java/util/Arrays" #[iv p1, iv p2] (pf pn_6 rfl) rfl O0 (fun m => own_e) ?_
  intro p e s m below meth cC s₁ hZ hh hx hby hml hown hnm hrt hlk X0 e0 N0 Z0
  refine wl X0 hx hby 0 d65_131_0 rfl ?_
  refine wl X0 hx hby 1 d65_131_1 rfl ?_
  refine wy X0 hx hby 2 37 d65_131_2 (flt q1).2.1 ?_
  refine own_fin (v := none) X0 (fun _ => rfl) hlk (fun fs hr => X0.returnOut hx hrt (hb hby d65_131_37) hr) (QQ := QPure (none) h0 n0) ?_ (by decide) (by decide)
  rw [e0]
  exact ⟨rfl, N0, rfl⟩

abbrev k65_133 := jdk_65_method_133_code
theorem d65_133_0:Dk k65_133 0 (.iload_n 1) 1:=kk
theorem d65_133_1:Dk k65_133 1 (.iload_n 2) 1:=kk
theorem d65_133_2:Dk k65_133 2 (.invokestatic 343) 3:=kk
theorem d65_133_5:Dk k65_133 5 (.iload_n 2) 1:=kk
theorem d65_133_6:Dk k65_133 6 (.iload_n 1) 1:=kk
theorem d65_133_7:Dk k65_133 7 (.isub) 1:=kk
theorem d65_133_8:Dk k65_133 8 (.istore_n 3) 1:=kk
theorem d65_133_9:Dk k65_133 9 (.iload_n 3) 1:=kk
theorem d65_133_10:Dk k65_133 10 (.newarray .byte) 2:=kk
theorem d65_133_12:Dk k65_133 12 (.astore 4) 2:=kk
theorem d65_133_14:Dk k65_133 14 (.aload_n 0) 1:=kk
theorem d65_133_15:Dk k65_133 15 (.iload_n 1) 1:=kk
theorem d65_133_16:Dk k65_133 16 (.aload 4) 2:=kk
theorem d65_133_18:Dk k65_133 18 (.iconst 0) 1:=kk
theorem d65_133_19:Dk k65_133 19 (.aload_n 0) 1:=kk
theorem d65_133_20:Dk k65_133 20 (.arraylength) 1:=kk
theorem d65_133_21:Dk k65_133 21 (.iload_n 1) 1:=kk
theorem d65_133_22:Dk k65_133 22 (.isub) 1:=kk
theorem d65_133_23:Dk k65_133 23 (.iload_n 3) 1:=kk
theorem d65_133_24:Dk k65_133 24 (.invokestatic 304) 3:=kk
theorem d65_133_27:Dk k65_133 27 (.invokestatic 150) 3:=kk
theorem d65_133_30:Dk k65_133 30 (.aload 4) 2:=kk
theorem d65_133_32:Dk k65_133 32 (.areturn) 1:=kk
set_option maxRecDepth 65536 in
set_option maxHeartbeats 40000000 in
theorem rm_corb (l : Launch) (Z : State) (a0 : Array Value) (hw : ∀ d ∈ tables_1, d.before a0 Z = true) (ws : List Jvm.Cond) (a : Addr) (ka : ClassId) (Na : Nat) (vs : List Value) (mm : Nat) (us : List Value) (h0 : Heap) (n0 : Nat) (O0 : Old Z n0 h0) (V_a : Arv Z h0 a ka .byte (Int32.ofNat Na) vs (.int (0 : Int32))) (hm : mm ≤ Na) (hNa : Na ≤ 70) (hus : us = (List.range mm).map fun i => vs.getD (0 + i) (.int (0 : Int32))) :
    own_TN l Z ws h0 (⟨"java/util/Arrays", "copyOfRangeByte", "([BII)[B"⟩ : MethodName) jdk_65_method_133_code 5 (some (.array .byte)) ⟨1, 1, 70, 18⟩ #[(.ref a), (.int (0 : Int32)), (.int (Int32.ofNat mm))] (QNew Z (Int32.ofNat mm) us h0 n0) 1 70 := by
  refine own_bN "java/util/Arrays" #[rv a, iv (0 : Int32), iv (Int32.ofNat mm), .unset, .unset] (pf pn_6 rfl) rfl O0 (fun m => own_e) ?_
  intro p e s m below meth cC s₁ hZ hh hx hby hml hown hnm hrt hlk X0 e0 N0 Z0
  have hul : us.length = mm := by rw [hus, List.length_map, List.length_range]
  refine wl X0 hx hby 0 d65_133_0 rfl ?_
  refine wl X0 hx hby 1 d65_133_1 rfl ?_
  obtain ⟨v378, _, ⟨T378, L378, k378, n378⟩, -, X378, ⟨Lc378, hQ378, l378, y378, z378⟩, st378⟩ := Jvm.LawKit.callS X0 hx (y := (⟨"java/util/Arrays", "checkLength", "(II)V"⟩ : MethodName)) hown (mvT hZ (tw hw 94 rfl)) (mvT hZ (tw hw 95 rfl)) (mvT hZ (tw hw 89 rfl)) (mvT hZ (tw hw 96 rfl)) (by decide) (backOf (W := 0) (rm_ckl l Z a0 hw [] (0 : Int32) (Int32.ofNat mm) h0 n0 O0 (own_nn0 (by omega))) hZ (tw hw 96 rfl) (tw hw 89 rfl) (by decide) (by decide)) (g := (mkF m 2 #[rv a, iv (0 : Int32), iv (Int32.ofNat mm), .unset, .unset] [(.int (Int32.ofNat mm)), (.int (0 : Int32))])) rfl (by rw [hml]; rfl) (argsL := [(.int (0 : Int32)), (.int (Int32.ofNat mm))]) (rest := []) (lenOf pd_3 rfl) rfl (by show 2 * 0 + _ ≤ _; exact Nat.le_of_eq rfl) (hb hby d65_133_2) (fun _ _ => ⟨rfl, e0, (by decide : 0 + 0 ≤ _), (by decide : 0 + 0 ≤ _)⟩)
  dsimp only [Pt.U, Pt.locs, Pt.cells, Pt.slots] at X378 l378 y378 z378 st378 hQ378
  subst l378 y378 z378
  refine own_go st378 ?_
  obtain ⟨rfl, Nq378, e378⟩ := hQ378
  have N378 := Fr.app N0 Nq378
  refine wl X378 hx hby 5 d65_133_5 rfl ?_
  try dsimp only [mkF]
  refine wl X378 hx hby 6 d65_133_6 rfl ?_
  refine og (fun _ k => XS.isub X378.here hx rfl (hb hby d65_133_7) rfl k) ?_
  show own_Go p e below (T378.setTop (mkF m 8 #[rv a, iv (0 : Int32), iv (Int32.ofNat mm), .unset, .unset] [(.int ((Int32.ofNat mm) - (0 : Int32)))])) _
  rw [Int32.sub_zero]
  refine wt X378 hx hby 8 #[rv a, iv (0 : Int32), iv (Int32.ofNat mm), iv (Int32.ofNat mm), .unset] d65_133_8 rfl ?_
  refine wl X378 hx hby 9 d65_133_9 rfl ?_
  try dsimp only [mkF]
  obtain ⟨T379, h379, k379, X379, e379, E379, A379, Q379, st379⟩ := newPE X378 hx hZ (tw hw 24 rfl) e378 (g := (mkF m 10 #[rv a, iv (0 : Int32), iv (Int32.ofNat mm), iv (Int32.ofNat mm), .unset] [(.int (Int32.ofNat mm))])) rfl (hb hby d65_133_10) rfl (own_nn0 (by omega)) (cap := 70) (by rw [own_tn (by omega)]; omega) (by decide) (by decide) (by decide) rfl
  obtain ⟨b379, g379⟩ : ∃ z, z = h0.size := ⟨_, rfl⟩
  rw [← g379] at A379 Q379 st379
  refine own_go st379 ?_
  have V379 : Arv Z h379 b379 k379 .byte (Int32.ofNat mm) (List.replicate ((Int32.ofNat mm)).toNatClampNeg (.int (0 : Int32))) (.int (0 : Int32)) := (Arv.new A379 (own_nn0 (by omega))).pad (pad_rep [] (.int (0 : Int32)) _)
  have Vb0 : Arv Z h379 b379 k379 .byte (Int32.ofNat mm) (List.replicate mm (.int (0 : Int32))) (.int (0 : Int32)) := by have q := V379; rw [own_tn (by omega)] at q; exact q
  refine wu X379 hx hby 12 #[rv a, iv (0 : Int32), iv (Int32.ofNat mm), iv (Int32.ofNat mm), rv b379] d65_133_12 rfl rfl ?_
  refine wa X379 hx hby 14 d65_133_14 rfl rfl ?_
  refine wl X379 hx hby 15 d65_133_15 rfl ?_
  refine wb X379 hx hby 16 d65_133_16 rfl rfl ?_
  try dsimp only [mkF]
  refine wc X379 hx hby 18 d65_133_18 ?_
  refine wa X379 hx hby 19 d65_133_19 rfl rfl ?_
  obtain ⟨c380, A380, q380, S380, M380, Hs380, Gs380⟩ := id (V_a.ext E379)
  refine og (fun _ k => X379.arraylength hx (by rw [e379]; exact A380.1) (State.isArrayOf_alike hZ.alike A380.2.1) (g := (mkF m 20 #[rv a, iv (0 : Int32), iv (Int32.ofNat mm), iv (Int32.ofNat mm), rv b379] [(.ref a), (.int (0 : Int32)), (.ref b379), (.int (0 : Int32)), (.ref a)])) rfl rfl (hb hby d65_133_20) _ k) ?_
  rw [len_of S380 M380]
  refine wl X379 hx hby 21 d65_133_21 rfl ?_
  refine og (fun _ k => XS.isub X379.here hx rfl (hb hby d65_133_22) rfl k) ?_
  try dsimp only [mkF]
  show own_Go p e below (T379.setTop (mkF m 23 #[rv a, iv (0 : Int32), iv (Int32.ofNat mm), iv (Int32.ofNat mm), rv b379] [(.int ((Int32.ofNat Na) - (0 : Int32))), (.int (0 : Int32)), (.ref b379), (.int (0 : Int32)), (.ref a)])) _
  rw [Int32.sub_zero]
  refine wl X379 hx hby 23 d65_133_23 rfl ?_
  obtain ⟨v381, _, ⟨T381, L381, k381, n381⟩, -, X381, ⟨Lc381, hQ381, l381, y381, z381⟩, st381⟩ := Jvm.LawKit.callS X379 hx (y := (⟨"java/lang/Math", "min", "(II)I"⟩ : MethodName)) hown (mvT hZ (tw hw 97 rfl)) (mvT hZ (tw hw 98 rfl)) (mvT hZ (tw hw 99 rfl)) (mvT hZ (tw hw 100 rfl)) (by decide) (backOf (W := 4) (rm_min l Z a0 hw [] (Int32.ofNat Na) (Int32.ofNat mm) (Int32.ofNat mm) h379 n0 (O0.ext E379) (own_minN hm (by omega))) hZ (tw hw 100 rfl) (tw hw 99 rfl) (by decide) (by decide)) (g := (mkF m 24 #[rv a, iv (0 : Int32), iv (Int32.ofNat mm), iv (Int32.ofNat mm), rv b379] [(.int (Int32.ofNat mm)), (.int (Int32.ofNat Na)), (.int (0 : Int32)), (.ref b379), (.int (0 : Int32)), (.ref a)])) rfl (by rw [hml]; rfl) (argsL := [(.int (Int32.ofNat Na)), (.int (Int32.ofNat mm))]) (rest := [(.int (0 : Int32)), (.ref b379), (.int (0 : Int32)), (.ref a)]) (lenOf pd_11 rfl) rfl (by show 2 * 0 + _ ≤ _; exact Nat.le_of_eq rfl) (hb hby d65_133_24) (fun _ _ => ⟨rfl, e379, (by decide : 1 + 0 ≤ _), (by decide : 70 + 0 ≤ _)⟩)
  dsimp only [Pt.U, Pt.locs, Pt.cells, Pt.slots] at X381 l381 y381 z381 st381 hQ381
  subst l381 y381 z381
  refine own_go st381 ?_
  obtain ⟨rfl, Nq381, e381⟩ := hQ381
  have N381 := Fr.app N378 Nq381
  have ci382 := own_tn (i := 0) (by omega)
  have cj382 := own_tn (i := 0) (by omega)
  have cm382 := own_tn (i := mm) (by omega)
  have ca382 := own_tn (i := Na) (by omega)
  have cb382 := own_tn (i := mm) (by omega)
  have cl382 : ((List.replicate mm (.int (0 : Int32))) : List Value).length = mm := List.length_replicate
  obtain ⟨T382, h382, Lc382, X382, e382, N382, K382, Vc382, st382⟩ := cpA (sp := Int32.ofNat 0) (dp := Int32.ofNat 0) (nn := Int32.ofNat mm) X381 hx hZ hown (tw hw 101 rfl) (tw hw 104 rfl) (tw hw 102 rfl) (tw hw 103 rfl) e381 (z := Int32.ofNat Na) (z' := Int32.ofNat mm) (V_a.ext E379) Vb0 (Or.inl ⟨rfl, rfl⟩) (own_nn0 (by omega)) (own_nn0 (by omega)) (own_nn0 (by omega)) (by omega) (by omega) (us := us) (by rw [cm382, ci382]; exact hus) (by omega) N381 (Nat.le_trans Z0 (Nat.le_of_eq g379.symm)) (g := (mkF m 27 #[rv a, iv (0 : Int32), iv (Int32.ofNat mm), iv (Int32.ofNat mm), rv b379] [(.int (Int32.ofNat mm)), (.int (0 : Int32)), (.ref b379), (.int (0 : Int32)), (.ref a)])) rfl (by rw [hml]; rfl) rfl (hb hby d65_133_27) (by decide) (W := 0) (by show 2 * 0 + _ ≤ _; exact Nat.le_of_eq rfl) (by decide)
  refine own_go st382 ?_
  have Vt382 : Arv Z h382 b379 k379 .byte (Int32.ofNat mm) us (.int (0 : Int32)) := by simp only [cj382, cm382] at Vc382; exact (own_cpR hul) ▸ Vc382
  refine wb X382 hx hby 30 d65_133_30 rfl rfl ?_
  try dsimp only [mkF]
  have f383 := (((Keep.refl h0 []).ext E379).trans K382 (allS (Or.inr (Nat.le_of_eq g379.symm)) all0))
  refine own_fin (v := (some (.ref b379))) X382 (fun h => by rw [hrt] at h; cases h) hlk (fun fs hr => retR X382 hx hrt (by rfl) rfl rfl (hb hby d65_133_32) hr) (QQ := QNew Z (Int32.ofNat mm) us h0 n0) ?_ (by decide) (by decide)
  rw [e382]
  exact ⟨b379, _, rfl, N382, f383, (Nat.le_of_eq g379.symm), Vt382, (Q379.keep K382)⟩

abbrev k65_132 := jdk_65_method_132_code
theorem d65_132_0:Dk k65_132 0 (.iload_n 1) 1:=kk
theorem d65_132_1:Dk k65_132 1 (.ifCond .ne 9) 3:=kk
theorem d65_132_4:Dk k65_132 4 (.iload_n 2) 1:=kk
theorem d65_132_5:Dk k65_132 5 (.aload_n 0) 1:=kk
theorem d65_132_6:Dk k65_132 6 (.arraylength) 1:=kk
theorem d65_132_7:Dk k65_132 7 (.if_icmp .eq 10) 3:=kk
theorem d65_132_17:Dk k65_132 17 (.aload_n 0) 1:=kk
theorem d65_132_18:Dk k65_132 18 (.invokevirtual 310) 3:=kk
theorem d65_132_21:Dk k65_132 21 (.checkcast 311) 3:=kk
theorem d65_132_24:Dk k65_132 24 (.areturn) 1:=kk
theorem d65_132_10:Dk k65_132 10 (.aload_n 0) 1:=kk
theorem d65_132_11:Dk k65_132 11 (.iload_n 1) 1:=kk
theorem d65_132_12:Dk k65_132 12 (.iload_n 2) 1:=kk
theorem d65_132_13:Dk k65_132 13 (.invokestatic 339) 3:=kk
theorem pd_30 : parseMethodDescriptor "([BII)[B" = some ⟨[(.array .byte), .int, .int], some (.array .byte)⟩ := by decide +kernel
theorem d65_132_16:Dk k65_132 16 (.areturn) 1:=kk
set_option maxRecDepth 65536 in
set_option maxHeartbeats 40000000 in
theorem rm_cor (l : Launch) (Z : State) (a0 : Array Value) (hw : ∀ d ∈ tables_1, d.before a0 Z = true) (ws : List Jvm.Cond) (a : Addr) (ka : ClassId) (Na : Nat) (vs : List Value) (mm : Nat) (us : List Value) (h0 : Heap) (n0 : Nat) (O0 : Old Z n0 h0) (V_a : Arv Z h0 a ka .byte (Int32.ofNat Na) vs (.int (0 : Int32))) (hm : mm ≤ Na) (hNa : Na ≤ 70) (hus : us = (List.range mm).map fun i => vs.getD (0 + i) (.int (0 : Int32))) (X_a : Exa Z h0 a "[B") (hvl : vs.length = Na) :
    own_TN l Z ws h0 (⟨"java/util/Arrays", "copyOfRange", "([BII)[B"⟩ : MethodName) jdk_65_method_132_code 3 (some (.array .byte)) ⟨2, 1, 70, 34⟩ #[(.ref a), (.int (0 : Int32)), (.int (Int32.ofNat mm))] (QNew Z (Int32.ofNat mm) us h0 n0) 1 70 := by
  refine own_bN "java/util/Arrays" #[rv a, iv (0 : Int32), iv (Int32.ofNat mm)] (pf pn_6 rfl) rfl O0 (fun m => own_e) ?_
  intro p e s m below meth cC s₁ hZ hh hx hby hml hown hnm hrt hlk X0 e0 N0 Z0
  refine wl X0 hx hby 0 d65_132_0 rfl ?_
  refine we X0 hx hby 1 d65_132_1 ((if0 _ _).trans (teq (by decide : (0 : Int32) = (0 : Int32))).2) ?_
  refine wl X0 hx hby 4 d65_132_4 rfl ?_
  refine wa X0 hx hby 5 d65_132_5 rfl rfl ?_
  try dsimp only [mkF]
  obtain ⟨c384, A384, q384, S384, M384, Hs384, Gs384⟩ := id V_a
  refine og (fun _ k => X0.arraylength hx (by rw [e0]; exact A384.1) (State.isArrayOf_alike hZ.alike A384.2.1) (g := (mkF m 6 #[rv a, iv (0 : Int32), iv (Int32.ofNat mm)] [(.ref a), (.int (Int32.ofNat mm))])) rfl rfl (hb hby d65_132_6) _ k) ?_
  rw [len_of S384 M384]
  by_cases hc385 : (Int32.ofNat mm) = (Int32.ofNat Na)
  · skip
    refine wy X0 hx hby 7 17 d65_132_7 (teq hc385).1 ?_
    refine wa X0 hx hby 17 d65_132_17 rfl rfl ?_
    obtain ⟨T386, h386, X386, e386, E386, A386, Q386, st386⟩ := cloneH X0 hx hZ hown (tw hw 299 rfl) (tw hw 169 rfl) (tw hw 173 rfl) (tw hw 171 rfl) (tw hw 172 rfl) (tw hw 174 rfl) e0 (Arv.arh V_a) X_a (g := (mkF m 18 #[rv a, iv (0 : Int32), iv (Int32.ofNat mm)] [(.ref a)])) rfl (by rw [hml]; rfl) rfl (hb hby d65_132_18) (by decide) (W := 0) (by show 2 * 0 + _ ≤ _; exact Nat.le_of_eq rfl) (by decide) (cap := 70) (by rw [own_tn (by omega)]; exact hNa) (by decide) (by decide)
    obtain ⟨b386, g386⟩ : ∃ z, z = h0.size := ⟨_, rfl⟩
    rw [← g386] at A386 Q386 st386
    refine own_go st386 ?_
    have V386 : Arv Z h386 b386 ka .byte (Int32.ofNat Na) vs (.int (0 : Int32)) := A386
    obtain ⟨T387, X387, e387, st387⟩ := castY X386 hx hZ hown (tw hw 300 rfl) e386 (Ins.self Q386) (g := (mkF m 21 #[rv a, iv (0 : Int32), iv (Int32.ofNat mm)] [(.ref b386)])) rfl rfl (hb hby d65_132_21)
    refine own_go st387 ?_
    try dsimp only [mkF]
    have hmN : mm = Na := own_eqN hc385 (by omega) (by omega)
    have hvu : vs = us := by rw [hus, hmN]; exact own_self hvl
    have f388 := ((Keep.refl h0 []).ext E386)
    refine own_fin (v := (some (.ref b386))) X387 (fun h => by rw [hrt] at h; cases h) hlk (fun fs hr => retR X387 hx hrt (by rfl) rfl rfl (hb hby d65_132_24) hr) (QQ := QNew Z (Int32.ofNat mm) us h0 n0) ?_ (by decide) (by decide)
    rw [e387]
    exact ⟨b386, _, rfl, N0, f388, (Nat.le_of_eq g386.symm), (by rw [hmN, ← hvu]; exact V386), Q386⟩
  · skip
    refine wn X0 hx hby 7 d65_132_7 (feq hc385).1 ?_
    refine wa X0 hx hby 10 d65_132_10 rfl rfl ?_
    refine wl X0 hx hby 11 d65_132_11 rfl ?_
    refine wl X0 hx hby 12 d65_132_12 rfl ?_
    try dsimp only [mkF]
    obtain ⟨v389, _, ⟨T389, L389, k389, n389⟩, -, X389, ⟨Lc389, hQ389, l389, y389, z389⟩, st389⟩ := Jvm.LawKit.callS X0 hx (y := (⟨"java/util/Arrays", "copyOfRangeByte", "([BII)[B"⟩ : MethodName)) hown (mvT hZ (tw hw 91 rfl)) (mvT hZ (tw hw 92 rfl)) (mvT hZ (tw hw 89 rfl)) (mvT hZ (tw hw 93 rfl)) (by decide) (backOf (W := 0) (rm_corb l Z a0 hw [] a ka Na vs mm us h0 n0 O0 V_a hm hNa hus) hZ (tw hw 93 rfl) (tw hw 89 rfl) (by decide) (by decide)) (g := (mkF m 13 #[rv a, iv (0 : Int32), iv (Int32.ofNat mm)] [(.int (Int32.ofNat mm)), (.int (0 : Int32)), (.ref a)])) rfl (by rw [hml]; rfl) (argsL := [(.ref a), (.int (0 : Int32)), (.int (Int32.ofNat mm))]) (rest := []) (lenOf pd_30 rfl) rfl (by show 2 * 0 + _ ≤ _; exact Nat.le_of_eq rfl) (hb hby d65_132_13) (fun _ _ => ⟨rfl, e0, (by decide : 0 + 1 ≤ _), (by decide : 0 + 70 ≤ _)⟩)
    dsimp only [Pt.U, Pt.locs, Pt.cells, Pt.slots] at X389 l389 y389 z389 st389 hQ389
    subst l389 y389 z389
    refine own_go st389 ?_
    obtain ⟨t389, kt389, rfl, Nq389, K389, tg389, Vt389, Xt389⟩ := hQ389
    have N389 := Fr.app N0 Nq389
    have f390 := ((Keep.refl h0 []).trans K389 all0)
    refine own_fin (v := (some (.ref t389))) X389 (fun h => by rw [hrt] at h; cases h) hlk (fun fs hr => retR X389 hx hrt (by rfl) rfl rfl (hb hby d65_132_16) hr) (QQ := QNew Z (Int32.ofNat mm) us h0 n0) ?_ (by decide) (by decide)
    exact ⟨t389, _, rfl, N389, f390, tg389, Vt389, Xt389⟩

def QStL (Z : State) (x : Addr) (cs : List Int32) (h0 : Heap) (n0 : Nat) (v : Option Value) (h : Heap) (L : List Loc) : Prop := ∃ (t : Addr) (k : ClassId), v = none ∧ Fr n0 L ∧ Keep h0 h [x] ∧ Fld Z h x "java/lang/String" "value" "[B" (.ref t) ∧ Fld Z h x "java/lang/String" "coder" "B" (.int (0 : Int32)) ∧ Arv Z h t k .byte (Int32.ofNat cs.length) (own_lat cs) (.int (0 : Int32))
def QStrL (Z : State) (cs : List Int32) (h0 : Heap) (n0 : Nat) (v : Option Value) (h : Heap) (L : List Loc) : Prop := ∃ (x t : Addr) (k : ClassId), v = some (.ref x) ∧ Fr n0 L ∧ Keep h0 h [] ∧ h0.size ≤ x ∧ Exa Z h x "java/lang/String" ∧ Fld Z h x "java/lang/String" "value" "[B" (.ref t) ∧ Fld Z h x "java/lang/String" "coder" "B" (.int (0 : Int32)) ∧ Arv Z h t k .byte (Int32.ofNat cs.length) (own_lat cs) (.int (0 : Int32)) ∧ own_Ok cs ∧ ∀ c ∈ cs, ¬ (255 : Int32) < c
abbrev k42_150 := jdk_42_method_150_code
theorem d42_150_0:Dk k42_150 0 (.aload_n 0) 1:=kk
theorem d42_150_1:Dk k42_150 1 (.invokespecial 1) 3:=kk
theorem d42_150_4:Dk k42_150 4 (.aload_n 1) 1:=kk
theorem d42_150_5:Dk k42_150 5 (.invokevirtual 552) 3:=kk
theorem pd_31 : parseMethodDescriptor "()[B" = some ⟨[], some (.array .byte)⟩ := by decide +kernel
theorem d42_150_8:Dk k42_150 8 (.astore_n 3) 1:=kk
theorem d42_150_9:Dk k42_150 9 (.aload_n 1) 1:=kk
theorem d42_150_10:Dk k42_150 10 (.invokevirtual 549) 3:=kk
theorem d42_150_13:Dk k42_150 13 (.istore 4) 2:=kk
theorem d42_150_15:Dk k42_150 15 (.aload_n 1) 1:=kk
theorem d42_150_16:Dk k42_150 16 (.invokevirtual 1047) 3:=kk
theorem d42_150_19:Dk k42_150 19 (.ifCond .eq 22) 3:=kk
theorem d42_150_22:Dk k42_150 22 (.aload_n 0) 1:=kk
theorem d42_150_23:Dk k42_150 23 (.iconst 0) 1:=kk
theorem d42_150_24:Dk k42_150 24 (.putfield 15) 3:=kk
theorem d42_150_27:Dk k42_150 27 (.aload_n 0) 1:=kk
theorem d42_150_28:Dk k42_150 28 (.aload_n 3) 1:=kk
theorem d42_150_29:Dk k42_150 29 (.iconst 0) 1:=kk
theorem d42_150_30:Dk k42_150 30 (.iload 4) 2:=kk
theorem d42_150_32:Dk k42_150 32 (.invokestatic 54) 3:=kk
theorem d42_150_35:Dk k42_150 35 (.putfield 9) 3:=kk
theorem d42_150_38:Dk k42_150 38 (.goto 59) 3:=kk
theorem d42_150_97:Dk k42_150 97 (.return_) 1:=kk
set_option maxRecDepth 65536 in
set_option maxHeartbeats 40000000 in
theorem rm_sia (l : Launch) (Z : State) (a0 : Array Value) (hw : ∀ d ∈ tables_1, d.before a0 Z = true) (ws : List Jvm.Cond) (x b v : Addr) (kv : ClassId) (M : Nat) (cs : List Int32) (G1 : Int32) (G3 : Value) (h0 : Heap) (n0 : Nat) (O0 : Old Z n0 h0) (O2 : Sta Z Z.heap "java/lang/String" "COMPACT_STRINGS" "Z" (.int G1)) (P5 : ¬ (G1 = (0 : Int32))) (O4 : Sta Z Z.heap "jdk/internal/util/Preconditions" "SIOOBE_FORMATTER" "Ljava/util/function/BiFunction;" G3) (rG3 : G3.isRef = true) (OA : Sta Z Z.heap "java/lang/StringUTF16" "$assertionsDisabled" "Z" (.int (1 : Int32))) (OH : Sta Z Z.heap "java/lang/StringUTF16" "HI_BYTE_SHIFT" "I" (.int (0 : Int32))) (OL : Sta Z Z.heap "java/lang/StringUTF16" "LO_BYTE_SHIFT" "I" (.int (8 : Int32))) (E_x : Exa Z h0 x "java/lang/String") (Fv_x : Fld Z h0 x "java/lang/String" "value" "[B" .null) (Fc_x : Fld Z h0 x "java/lang/String" "coder" "B" (.int (0 : Int32))) (g_x : n0 ≤ x) (hxb : x ≠ b) (E_b : Exa Z h0 b "java/lang/StringBuilder") (Fv_b : Fld Z h0 b "java/lang/AbstractStringBuilder" "value" "[B" (.ref v)) (Fc_b : Fld Z h0 b "java/lang/AbstractStringBuilder" "coder" "B" (.int (0 : Int32))) (Fn_b : Fld Z h0 b "java/lang/AbstractStringBuilder" "count" "I" (.int (Int32.ofNat cs.length))) (V_v : Arv Z h0 v kv .byte (Int32.ofNat M) (own_sM M cs) (.int (0 : Int32))) (X_v : Exa Z h0 v "[B") (hall : ∀ c ∈ cs, ¬ (255 : Int32) < c) (hok : own_Ok cs) (hM : cs.length ≤ M ∧ M ≤ 70) (g_b : n0 ≤ b) (g_v : n0 ≤ v) :
    own_TN l Z ws h0 (⟨"java/lang/String", "<init>", "(Ljava/lang/AbstractStringBuilder;Ljava/lang/Void;)V"⟩ : MethodName) jdk_42_method_150_code 5 none ⟨3, 1, 70, 49⟩ #[(.ref x), (.ref b), .null] (QStL Z x cs h0 n0) 1 70 := by
  refine own_bN "java/lang/String" #[rv x, rv b, .val .null, .unset, .unset] (pf pn_3 rfl) rfl O0 (fun m => own_e) ?_
  intro p e s m below meth cC s₁ hZ hh hx hby hml hown hnm hrt hlk X0 e0 N0 Z0
  have hlen : cs.length ≤ 4000 := hok.2
  obtain ⟨hcM, hM34⟩ := hM
  have hbv := Exa.neArv E_b V_v (tw hw 37 rfl)
  have hxv := Exa.neArv E_x V_v (tw hw 10 rfl)
  refine wa X0 hx hby 0 d42_150_0 rfl rfl ?_
  obtain ⟨T391, X391, e391, st391⟩ := initO X0 hx hZ hown (tw hw 20 rfl) (tw hw 21 rfl) (tw hw 22 rfl) e0 (g := (mkF m 1 #[rv x, rv b, .val .null, .unset, .unset] [(.ref x)])) rfl (by rw [hml]; rfl) rfl (hb hby d42_150_1) (by decide) (W := 0) (by show 2 * 0 + _ ≤ _; exact Nat.le_of_eq rfl) (by decide)
  refine own_go st391 ?_
  refine wa X391 hx hby 4 d42_150_4 rfl rfl ?_
  obtain ⟨cq392, kq392, q392a, q392b, q392c⟩ := isOf hZ e391 E_b
  obtain ⟨v392, _, ⟨T392, L392, k392, n392⟩, -, X392, ⟨Lc392, hQ392, l392, y392, z392⟩, st392⟩ := X391.virtualBack hx (y := (⟨"java/lang/AbstractStringBuilder", "getValue", "()[B"⟩ : MethodName)) (z := (⟨"java/lang/AbstractStringBuilder", "getValue", "()[B"⟩ : MethodName)) hown (mvT hZ (tw hw 66 rfl)) (mvT hZ (tw hw 67 rfl)) (notFace_of_selects (args := #[]) (mvT hZ (tw hw 69 rfl))) (mvT hZ (tw hw 69 rfl)) (mvT hZ (tw hw 68 rfl)) (by decide) (backOf (W := 0) (rm_gv l Z a0 hw [] b v h0 n0 O0 E_b Fv_b) hZ (tw hw 70 rfl) (tw hw 46 rfl) (by decide) (by decide)) q392a q392c (g := (mkF m 5 #[rv x, rv b, .val .null, .unset, .unset] [(.ref b)])) rfl (by rw [hml]; rfl) (Steps.refl _) (argsL := []) (rest := []) (lenOf pd_31 rfl) rfl (by show 2 * 0 + _ ≤ _; exact Nat.le_of_eq rfl) (hb hby d42_150_5) (fun _ _ => ⟨rfl, e391, (by decide : 0 + 0 ≤ _), (by decide : 0 + 0 ≤ _)⟩)
  dsimp only [Pt.U, Pt.locs, Pt.cells, Pt.slots] at X392 l392 y392 z392 st392 hQ392
  subst l392 y392 z392
  refine own_gos st392 ?_
  obtain ⟨rfl, Nq392, e392⟩ := hQ392
  have N392 := Fr.app N0 Nq392
  try dsimp only [mkF]
  refine wv X392 hx hby 8 #[rv x, rv b, .val .null, rv v, .unset] d42_150_8 rfl rfl ?_
  refine wa X392 hx hby 9 d42_150_9 rfl rfl ?_
  obtain ⟨cq393, kq393, q393a, q393b, q393c⟩ := isOf hZ e392 E_b
  obtain ⟨v393, _, ⟨T393, L393, k393, n393⟩, -, X393, ⟨Lc393, hQ393, l393, y393, z393⟩, st393⟩ := X392.virtualBack hx (y := (⟨"java/lang/AbstractStringBuilder", "length", "()I"⟩ : MethodName)) (z := (⟨"java/lang/StringBuilder", "length", "()I"⟩ : MethodName)) hown (mvT hZ (tw hw 71 rfl)) (mvT hZ (tw hw 72 rfl)) (own_nf (args := #[]) (mvT hZ (tw hw 69 rfl)) rfl) (mvT hZ (tw hw 74 rfl)) (mvT hZ (tw hw 75 rfl)) (by decide) (backOf (W := 0) (rm_sl l Z a0 hw [] b (Int32.ofNat cs.length) h0 n0 O0 E_b Fn_b) hZ (tw hw 76 rfl) (tw hw 38 rfl) (by decide) (by decide)) q393a q393c (g := (mkF m 10 #[rv x, rv b, .val .null, rv v, .unset] [(.ref b)])) rfl (by rw [hml]; rfl) (Steps.refl _) (argsL := []) (rest := []) (lenOf pd_1 rfl) rfl (by show 2 * 0 + _ ≤ _; exact Nat.le_of_eq rfl) (hb hby d42_150_10) (fun _ _ => ⟨rfl, e392, (by decide : 0 + 0 ≤ _), (by decide : 0 + 0 ≤ _)⟩)
  dsimp only [Pt.U, Pt.locs, Pt.cells, Pt.slots] at X393 l393 y393 z393 st393 hQ393
  subst l393 y393 z393
  refine own_gos st393 ?_
  obtain ⟨rfl, Nq393, e393⟩ := hQ393
  have N393 := Fr.app N392 Nq393
  refine wz X393 hx hby 13 #[rv x, rv b, .val .null, rv v, iv (Int32.ofNat cs.length)] d42_150_13 rfl ?_
  refine wa X393 hx hby 15 d42_150_15 rfl rfl ?_
  try dsimp only [mkF]
  obtain ⟨cq394, kq394, q394a, q394b, q394c⟩ := isOf hZ e393 E_b
  obtain ⟨v394, _, ⟨T394, L394, k394, n394⟩, -, X394, ⟨Lc394, hQ394, l394, y394, z394⟩, st394⟩ := X393.virtualBack hx (y := (⟨"java/lang/AbstractStringBuilder", "isLatin1", "()Z"⟩ : MethodName)) (z := (⟨"java/lang/AbstractStringBuilder", "isLatin1", "()Z"⟩ : MethodName)) hown (mvT hZ (tw hw 82 rfl)) (mvT hZ (tw hw 83 rfl)) (notFace_of_selects (args := #[]) (mvT hZ (tw hw 85 rfl))) (mvT hZ (tw hw 85 rfl)) (mvT hZ (tw hw 84 rfl)) (by decide) (backOf (W := 0) (rm_bl0 l Z a0 hw [] b G1 h0 n0 O0 E_b Fc_b O2 P5) hZ (tw hw 86 rfl) (tw hw 46 rfl) (by decide) (by decide)) q394a q394c (g := (mkF m 16 #[rv x, rv b, .val .null, rv v, iv (Int32.ofNat cs.length)] [(.ref b)])) rfl (by rw [hml]; rfl) (Steps.refl _) (argsL := []) (rest := []) (lenOf pd_4 rfl) rfl (by show 2 * 0 + _ ≤ _; exact Nat.le_of_eq rfl) (hb hby d42_150_16) (fun _ _ => ⟨rfl, e393, (by decide : 0 + 0 ≤ _), (by decide : 0 + 0 ≤ _)⟩)
  dsimp only [Pt.U, Pt.locs, Pt.cells, Pt.slots] at X394 l394 y394 z394 st394 hQ394
  subst l394 y394 z394
  refine own_gos st394 ?_
  obtain ⟨rfl, Nq394, e394⟩ := hQ394
  have N394 := Fr.app N393 Nq394
  refine we X394 hx hby 19 d42_150_19 ((if0 _ _).trans (feq (by decide : ¬ ((1 : Int32) = (0 : Int32)))).1) ?_
  refine wa X394 hx hby 22 d42_150_22 rfl rfl ?_
  refine wc X394 hx hby 23 d42_150_23 ?_
  obtain ⟨T395, h395, X395, e395, W395, st395⟩ := putFN X394 hx hZ hown (tw hw 30 rfl) Via.refl e394 Fc_x E_x (Or.inr ⟨(tw hw 26 rfl), rfl, hnm⟩) (tw hw 10 rfl) (ty := .byte) (v' := (.int (0 : Int32))) (by decide) rfl rfl (g := (mkF m 24 #[rv x, rv b, .val .null, rv v, iv (Int32.ofNat cs.length)] [(.int (0 : Int32)), (.ref x)])) rfl rfl (hb hby d42_150_24)
  refine own_go st395 ?_
  have N395 := Fr.snoc X395 N394 g_x
  have Fw395 := Fc_x.same W395
  try dsimp only [mkF]
  refine wa X395 hx hby 27 d42_150_27 rfl rfl ?_
  refine wa X395 hx hby 28 d42_150_28 rfl rfl ?_
  refine wc X395 hx hby 29 d42_150_29 ?_
  refine wm X395 hx hby 30 d42_150_30 rfl ?_
  have f396 := (V_v.other W395 (Ne.symm hxv))
  obtain ⟨v397, _, ⟨T397, L397, k397, n397⟩, -, X397, ⟨Lc397, hQ397, l397, y397, z397⟩, st397⟩ := Jvm.LawKit.callS X395 hx (y := (⟨"java/util/Arrays", "copyOfRange", "([BII)[B"⟩ : MethodName)) hown (mvT hZ (tw hw 87 rfl)) (mvT hZ (tw hw 88 rfl)) (mvT hZ (tw hw 89 rfl)) (mvT hZ (tw hw 90 rfl)) (by decide) (backOf (W := 1) (rm_cor l Z a0 hw [] v kv M (own_sM M cs) cs.length (own_lat cs) h395 n0 (O0.wr W395 g_x) f396 hcM hM34 own_takeM (X_v.wr W395) (own_sMl hcM)) hZ (tw hw 90 rfl) (tw hw 89 rfl) (by decide) (by decide)) (g := (mkF m 32 #[rv x, rv b, .val .null, rv v, iv (Int32.ofNat cs.length)] [(.int (Int32.ofNat cs.length)), (.int (0 : Int32)), (.ref v), (.ref x)])) rfl (by rw [hml]; rfl) (argsL := [(.ref v), (.int (0 : Int32)), (.int (Int32.ofNat cs.length))]) (rest := [(.ref x)]) (lenOf pd_30 rfl) rfl (by show 2 * 0 + _ ≤ _; exact Nat.le_of_eq rfl) (hb hby d42_150_32) (fun _ _ => ⟨rfl, e395, (by decide : 0 + 1 ≤ _), (by decide : 0 + 70 ≤ _)⟩)
  dsimp only [Pt.U, Pt.locs, Pt.cells, Pt.slots] at X397 l397 y397 z397 st397 hQ397
  subst l397 y397 z397
  refine own_go st397 ?_
  obtain ⟨t397, kt397, rfl, Nq397, K397, tg397, Vt397, Xt397⟩ := hQ397
  have N397 := Fr.app N395 Nq397
  try dsimp only [mkF]
  have f398 := ((Fv_x.other W395 (Or.inr (slot_ne (Or.inr (tw hw 25 rfl)) (Or.inr (tw hw 26 rfl)) (by decide) (t := (.array .byte)) (t' := .byte) (by decide) (by decide)))).keep K397 nin0)
  have f399 := ((E_x.wr W395).keep K397)
  obtain ⟨T400, h400, X400, e400, W400, st400⟩ := putF X397 hx hZ hown (host := "") (Or.inl (tw hw 29 rfl)) Via.refl (rfl : T397.heap = T397.heap) f398 f399 (Or.inr ⟨(tw hw 25 rfl), rfl, hnm⟩) (tw hw 10 rfl) (ty := (.array .byte)) (by decide) rfl rfl (g := (mkF m 35 #[rv x, rv b, .val .null, rv v, iv (Int32.ofNat cs.length)] [(.ref t397), (.ref x)])) rfl rfl (hb hby d42_150_35)
  refine own_go st400 ?_
  have N400 := Fr.snoc X400 N397 g_x
  have Fw400 := f398.same W400
  refine wg X400 hx hby 38 97 d42_150_38 ?_
  have f401 := ((((Keep.refl h0 [x]).wr W395 (Or.inl (List.mem_of_getElem? (i := 0) rfl))).trans K397 all0).wr W400 (Or.inl (List.mem_of_getElem? (i := 0) rfl)))
  have f402 := ((Fw395.keep K397 nin0).other W400 (Or.inr (slot_ne (Or.inr (tw hw 26 rfl)) (Or.inr (tw hw 25 rfl)) (by decide) (t := .byte) (t' := (.array .byte)) (by decide) (by decide))))
  have ne403 : x ≠ t397 := Nat.ne_of_lt (Nat.lt_of_lt_of_le (Nat.lt_of_lt_of_le E_x.lt (Keep.of_wr W395).1) tg397)
  have f404 := (Vt397.other W400 (Ne.symm ne403))
  refine own_fin (v := none) X400 (fun _ => rfl) hlk (fun fs hr => X400.returnOut hx hrt (hb hby d42_150_97) hr) (QQ := QStL Z x cs h0 n0) ?_ (by decide) (by decide)
  rw [e400]
  exact ⟨t397, _, rfl, N400, f401, Fw400, f402, f404⟩

abbrev k42_53 := jdk_42_method_53_code
theorem d42_53_0:Dk k42_53 0 (.aload_n 0) 1:=kk
theorem d42_53_1:Dk k42_53 1 (.aload_n 1) 1:=kk
theorem d42_53_2:Dk k42_53 2 (.aconst_null) 1:=kk
theorem d42_53_3:Dk k42_53 3 (.invokespecial 489) 3:=kk
theorem pd_32 : parseMethodDescriptor "(Ljava/lang/AbstractStringBuilder;Ljava/lang/Void;)V" = some ⟨[(.object "java/lang/AbstractStringBuilder"), (.object "java/lang/Void")], none⟩ := by decide +kernel
theorem d42_53_6:Dk k42_53 6 (.return_) 1:=kk
set_option maxRecDepth 65536 in
set_option maxHeartbeats 40000000 in
theorem rm_sis (l : Launch) (Z : State) (a0 : Array Value) (hw : ∀ d ∈ tables_1, d.before a0 Z = true) (ws : List Jvm.Cond) (x b v : Addr) (kv : ClassId) (M : Nat) (cs : List Int32) (G1 : Int32) (G3 : Value) (h0 : Heap) (n0 : Nat) (O0 : Old Z n0 h0) (O2 : Sta Z Z.heap "java/lang/String" "COMPACT_STRINGS" "Z" (.int G1)) (P5 : ¬ (G1 = (0 : Int32))) (O4 : Sta Z Z.heap "jdk/internal/util/Preconditions" "SIOOBE_FORMATTER" "Ljava/util/function/BiFunction;" G3) (rG3 : G3.isRef = true) (OA : Sta Z Z.heap "java/lang/StringUTF16" "$assertionsDisabled" "Z" (.int (1 : Int32))) (OH : Sta Z Z.heap "java/lang/StringUTF16" "HI_BYTE_SHIFT" "I" (.int (0 : Int32))) (OL : Sta Z Z.heap "java/lang/StringUTF16" "LO_BYTE_SHIFT" "I" (.int (8 : Int32))) (E_x : Exa Z h0 x "java/lang/String") (Fv_x : Fld Z h0 x "java/lang/String" "value" "[B" .null) (Fc_x : Fld Z h0 x "java/lang/String" "coder" "B" (.int (0 : Int32))) (g_x : n0 ≤ x) (hxb : x ≠ b) (E_b : Exa Z h0 b "java/lang/StringBuilder") (Fv_b : Fld Z h0 b "java/lang/AbstractStringBuilder" "value" "[B" (.ref v)) (Fc_b : Fld Z h0 b "java/lang/AbstractStringBuilder" "coder" "B" (.int (0 : Int32))) (Fn_b : Fld Z h0 b "java/lang/AbstractStringBuilder" "count" "I" (.int (Int32.ofNat cs.length))) (V_v : Arv Z h0 v kv .byte (Int32.ofNat M) (own_sM M cs) (.int (0 : Int32))) (X_v : Exa Z h0 v "[B") (hall : ∀ c ∈ cs, ¬ (255 : Int32) < c) (hok : own_Ok cs) (hM : cs.length ≤ M ∧ M ≤ 70) (g_b : n0 ≤ b) (g_v : n0 ≤ v) :
    own_TN l Z ws h0 (⟨"java/lang/String", "<init>", "(Ljava/lang/StringBuilder;)V"⟩ : MethodName) jdk_42_method_53_code 2 none ⟨4, 1, 70, 65⟩ #[(.ref x), (.ref b)] (QStL Z x cs h0 n0) 1 70 := by
  refine own_bN "java/lang/String" #[rv x, rv b] (pf pn_3 rfl) rfl O0 (fun m => own_e) ?_
  intro p e s m below meth cC s₁ hZ hh hx hby hml hown hnm hrt hlk X0 e0 N0 Z0
  have hlen : cs.length ≤ 4000 := hok.2
  obtain ⟨hcM, hM34⟩ := hM
  have hbv := Exa.neArv E_b V_v (tw hw 37 rfl)
  have hxv := Exa.neArv E_x V_v (tw hw 10 rfl)
  refine wa X0 hx hby 0 d42_53_0 rfl rfl ?_
  refine wa X0 hx hby 1 d42_53_1 rfl rfl ?_
  refine og (fun _ k => XS.aconstNull X0.here hx rfl (hb hby d42_53_2) k) ?_
  obtain ⟨v405, _, ⟨T405, L405, k405, n405⟩, -, X405, ⟨Lc405, hQ405, l405, y405, z405⟩, st405⟩ := X0.specialBack hx (y := (⟨"java/lang/String", "<init>", "(Ljava/lang/AbstractStringBuilder;Ljava/lang/Void;)V"⟩ : MethodName)) rfl hown (mvT hZ (tw hw 63 rfl)) (mvT hZ (tw hw 64 rfl)) (mvT hZ (tw hw 65 rfl)) (by decide) (backOf (W := 0) (rm_sia l Z a0 hw [] x b v kv M cs G1 G3 h0 n0 O0 O2 P5 O4 rG3 OA OH OL E_x Fv_x Fc_x g_x hxb E_b Fv_b Fc_b Fn_b V_v X_v hall hok ⟨hcM, hM34⟩ g_b g_v) hZ (tw hw 65 rfl) (tw hw 11 rfl) (by decide) (by decide)) (g := (mkF m 3 #[rv x, rv b] [.null, (.ref b), (.ref x)])) rfl (by rw [hml]; rfl) (Steps.refl _) (a := x) (argsL := [(.ref b), .null]) (rest := []) (lenOf pd_32 rfl) rfl (by show 2 * 0 + _ ≤ _; exact Nat.le_of_eq rfl) (hb hby d42_53_3) (fun _ _ => ⟨rfl, e0, (by decide : 0 + 1 ≤ _), (by decide : 0 + 70 ≤ _)⟩)
  dsimp only [Pt.U, Pt.locs, Pt.cells, Pt.slots] at X405 l405 y405 z405 st405 hQ405
  subst l405 y405 z405
  refine own_gos st405 ?_
  obtain ⟨t405, kt405, rfl, Nq405, K405, Fv405, Fc405, Vt405⟩ := hQ405
  have N405 := Fr.app N0 Nq405
  try dsimp only [mkF]
  have f406 := ((Keep.refl h0 [x]).trans K405 (allS (Or.inl (List.mem_of_getElem? (i := 0) rfl)) all0))
  refine own_fin (v := none) X405 (fun _ => rfl) hlk (fun fs hr => X405.returnOut hx hrt (hb hby d42_53_6) hr) (QQ := QStL Z x cs h0 n0) ?_ (by decide) (by decide)
  exact ⟨t405, _, rfl, N405, f406, Fv405, Fc405, Vt405⟩

abbrev k67_42 := jdk_67_method_42_code
theorem d67_42_0:Dk k67_42 0 (.new 18) 3:=kk
theorem d67_42_3:Dk k67_42 3 (.dup) 1:=kk
theorem d67_42_4:Dk k67_42 4 (.aload_n 0) 1:=kk
theorem d67_42_5:Dk k67_42 5 (.invokespecial 137) 3:=kk
theorem pd_33 : parseMethodDescriptor "(Ljava/lang/StringBuilder;)V" = some ⟨[(.object "java/lang/StringBuilder")], none⟩ := by decide +kernel
theorem d67_42_8:Dk k67_42 8 (.areturn) 1:=kk
set_option maxRecDepth 65536 in
set_option maxHeartbeats 40000000 in
theorem rm_tos (l : Launch) (Z : State) (a0 : Array Value) (hw : ∀ d ∈ tables_1, d.before a0 Z = true) (ws : List Jvm.Cond) (b v : Addr) (kv : ClassId) (M : Nat) (cs : List Int32) (G1 : Int32) (G3 : Value) (h0 : Heap) (n0 : Nat) (O0 : Old Z n0 h0) (O2 : Sta Z Z.heap "java/lang/String" "COMPACT_STRINGS" "Z" (.int G1)) (P5 : ¬ (G1 = (0 : Int32))) (O4 : Sta Z Z.heap "jdk/internal/util/Preconditions" "SIOOBE_FORMATTER" "Ljava/util/function/BiFunction;" G3) (rG3 : G3.isRef = true) (OA : Sta Z Z.heap "java/lang/StringUTF16" "$assertionsDisabled" "Z" (.int (1 : Int32))) (OH : Sta Z Z.heap "java/lang/StringUTF16" "HI_BYTE_SHIFT" "I" (.int (0 : Int32))) (OL : Sta Z Z.heap "java/lang/StringUTF16" "LO_BYTE_SHIFT" "I" (.int (8 : Int32))) (E_b : Exa Z h0 b "java/lang/StringBuilder") (Fv_b : Fld Z h0 b "java/lang/AbstractStringBuilder" "value" "[B" (.ref v)) (Fc_b : Fld Z h0 b "java/lang/AbstractStringBuilder" "coder" "B" (.int (0 : Int32))) (Fn_b : Fld Z h0 b "java/lang/AbstractStringBuilder" "count" "I" (.int (Int32.ofNat cs.length))) (V_v : Arv Z h0 v kv .byte (Int32.ofNat M) (own_sM M cs) (.int (0 : Int32))) (X_v : Exa Z h0 v "[B") (hall : ∀ c ∈ cs, ¬ (255 : Int32) < c) (hok : own_Ok cs) (hM : cs.length ≤ M ∧ M ≤ 70) (g_b : n0 ≤ b) (g_v : n0 ≤ v) :
    own_TN l Z ws h0 (⟨"java/lang/StringBuilder", "toString", "()Ljava/lang/String;"⟩ : MethodName) jdk_67_method_42_code 1 (some (.object "java/lang/String")) ⟨5, 2, 74, 79⟩ #[(.ref b)] (QStrL Z cs h0 n0) 2 74 := by
  refine own_bN "java/lang/StringBuilder" #[rv b] (pf pn_1 rfl) rfl O0 (fun m => own_e) ?_
  intro p e s m below meth cC s₁ hZ hh hx hby hml hown hnm hrt hlk X0 e0 N0 Z0
  have hlen : cs.length ≤ 4000 := hok.2
  obtain ⟨hcM, hM34⟩ := hM
  have hbv := Exa.neArv E_b V_v (tw hw 37 rfl)
  obtain ⟨T407, h407, X407, e407, E407, A407, D407, U407, st407⟩ := newO X0 hx hZ hown (tw hw 59 rfl) (tw hw 10 rfl) (tw hw 11 rfl) e0 (g := (mkF m 0 #[rv b] [])) rfl (hb hby d67_42_0) (by decide) (by decide)
  obtain ⟨b407, g407⟩ : ∃ z, z = h0.size := ⟨_, rfl⟩
  rw [← g407] at A407 D407 U407 st407
  refine own_go st407 ?_
  have F407_value : Fld Z h407 b407 "java/lang/String" "value" "[B" .null := D407 (Or.inr (tw hw 25 rfl)) (ty := (.array .byte)) (by decide)
  have F407_coder : Fld Z h407 b407 "java/lang/String" "coder" "B" (.int (0 : Int32)) := D407 (Or.inr (tw hw 26 rfl)) (ty := .byte) (by decide)
  refine og (fun _ k => XS.dup X407.here hx rfl (hb hby d67_42_3) rfl rfl k) ?_
  refine wa X407 hx hby 4 d67_42_4 rfl rfl ?_
  have ne408 : b ≠ b407 := Nat.ne_of_lt (Nat.lt_of_lt_of_le E_b.lt (Nat.le_of_eq g407.symm))
  obtain ⟨v409, _, ⟨T409, L409, k409, n409⟩, -, X409, ⟨Lc409, hQ409, l409, y409, z409⟩, st409⟩ := X407.specialBack hx (y := (⟨"java/lang/String", "<init>", "(Ljava/lang/StringBuilder;)V"⟩ : MethodName)) rfl hown (mvT hZ (tw hw 60 rfl)) (mvT hZ (tw hw 61 rfl)) (mvT hZ (tw hw 62 rfl)) (by decide) (backOf (W := 1) (rm_sis l Z a0 hw [] b407 b v kv M cs G1 G3 h407 n0 (O0.ext E407) O2 P5 O4 rG3 OA OH OL A407 F407_value F407_coder (Nat.le_trans Z0 (Nat.le_of_eq g407.symm)) (Ne.symm ne408) (E_b.ext E407) (Fv_b.ext E407) (Fc_b.ext E407) (Fn_b.ext E407) (V_v.ext E407) (X_v.ext E407) hall hok ⟨hcM, hM34⟩ g_b g_v) hZ (tw hw 62 rfl) (tw hw 11 rfl) (by decide) (by decide)) (g := (mkF m 5 #[rv b] [(.ref b), (.ref b407), (.ref b407)])) rfl (by rw [hml]; rfl) (Steps.refl _) (a := b407) (argsL := [(.ref b)]) (rest := [(.ref b407)]) (lenOf pd_33 rfl) rfl (by show 2 * 0 + _ ≤ _; exact Nat.le_of_eq rfl) (hb hby d67_42_5) (fun _ _ => ⟨rfl, e407, (by decide : 1 + 1 ≤ _), (by decide : 4 + 70 ≤ _)⟩)
  dsimp only [Pt.U, Pt.locs, Pt.cells, Pt.slots] at X409 l409 y409 z409 st409 hQ409
  subst l409 y409 z409
  refine own_gos st409 ?_
  obtain ⟨t409, kt409, rfl, Nq409, K409, Fv409, Fc409, Vt409⟩ := hQ409
  have N409 := Fr.app N0 Nq409
  try dsimp only [mkF]
  have f410 := (((Keep.refl h0 []).ext E407).trans K409 (allS (Or.inr (Nat.le_of_eq g407.symm)) all0))
  refine own_fin (v := (some (.ref b407))) X409 (fun h => by rw [hrt] at h; cases h) hlk (fun fs hr => retR X409 hx hrt (by rfl) rfl rfl (hb hby d67_42_8) hr) (QQ := QStrL Z cs h0 n0) ?_ (by decide) (by decide)
  exact ⟨b407, t409, _, rfl, N409, f410, (Nat.le_of_eq g407.symm), (A407.keep K409), Fv409, Fc409, Vt409, hok, hall⟩

theorem own_okL1 {c : Int32} (b_c : ¬ c < 0 ∧ ¬ (65535 : Int32) < c) : own_Ok ([c] : List Int32) := ⟨fun z hz => by simp only [List.mem_cons, List.not_mem_nil, or_false] at hz; rcases hz with rfl <;> assumption, Nat.le_of_ble_eq_true rfl⟩
theorem own_okL2 {c d : Int32} (b_c : ¬ c < 0 ∧ ¬ (65535 : Int32) < c) (b_d : ¬ d < 0 ∧ ¬ (65535 : Int32) < d) : own_Ok ([c, d] : List Int32) := ⟨fun z hz => by simp only [List.mem_cons, List.not_mem_nil, or_false] at hz; rcases hz with rfl | rfl <;> assumption, Nat.le_of_ble_eq_true rfl⟩
theorem own_cod0 : StrChars.Road.CodA ([] : List Int32) 0 0 [] := Or.inl ⟨rfl, rfl, rfl, fun c hc => nomatch hc⟩
theorem own_sgo {n c d : Int32} (b_c : ¬ c < 0 ∧ ¬ (65535 : Int32) < c) (b_d : ¬ d < 0 ∧ ¬ (65535 : Int32) < d) : own_Ok (own_sg n c d) ∧ (own_sg n c d).length ≤ 2 := by
  unfold own_sg; split
  · exact ⟨own_ok0, Nat.zero_le _⟩
  split
  · exact ⟨own_okL1 b_c, Nat.le_of_ble_eq_true rfl⟩
  · exact ⟨own_okL2 b_c b_d, Nat.le_refl _⟩
theorem own_sgn {n c d : Int32} (s_c : c < (55296 : Int32) ∨ (57343 : Int32) < c) (s_d : d < (55296 : Int32) ∨ (57343 : Int32) < d) : ∀ z ∈ own_sg n c d, z < (55296 : Int32) ∨ (57343 : Int32) < z := by
  unfold own_sg; split
  · exact fun z hz => nomatch hz
  split
  · intro z hz; rw [List.mem_singleton.mp hz]; exact s_c
  · intro z hz; simp only [List.mem_cons, List.not_mem_nil, or_false] at hz; rcases hz with rfl | rfl <;> assumption
abbrev km4 := method_4_code
theorem dm4_0:Dk km4 0 (.iload_n 0) 1:=kk
theorem dm4_1:Dk km4 1 (.ifCond .ne 14) 3:=kk
theorem dm4_4:Dk km4 4 (.new 17) 3:=kk
theorem dm4_7:Dk km4 7 (.dup) 1:=kk
theorem dm4_8:Dk km4 8 (.iconst 0) 1:=kk
theorem dm4_9:Dk km4 9 (.newarray .char) 2:=kk
theorem dm4_11:Dk km4 11 (.invokespecial 36) 3:=kk
theorem pd_34 : parseMethodDescriptor "([C)V" = some ⟨[(.array .char)], none⟩ := by decide +kernel
theorem dm4_14:Dk km4 14 (.areturn) 1:=kk
theorem dm4_15:Dk km4 15 (.iload_n 0) 1:=kk
theorem dm4_16:Dk km4 16 (.iconst 1) 1:=kk
theorem dm4_17:Dk km4 17 (.if_icmp .ne 8) 3:=kk
theorem dm4_20:Dk km4 20 (.iload_n 1) 1:=kk
theorem dm4_21:Dk km4 21 (.invokestatic 39) 3:=kk
theorem pd_35 : parseMethodDescriptor "(C)Ljava/lang/String;" = some ⟨[.char], some (.object "java/lang/String")⟩ := by decide +kernel
theorem dm4_24:Dk km4 24 (.areturn) 1:=kk
theorem dm4_25:Dk km4 25 (.new 17) 3:=kk
theorem dm4_28:Dk km4 28 (.dup) 1:=kk
theorem dm4_29:Dk km4 29 (.iconst 2) 1:=kk
theorem dm4_30:Dk km4 30 (.newarray .char) 2:=kk
theorem dm4_32:Dk km4 32 (.dup) 1:=kk
theorem dm4_33:Dk km4 33 (.iconst 0) 1:=kk
theorem dm4_34:Dk km4 34 (.iload_n 1) 1:=kk
theorem dm4_35:Dk km4 35 (.castore) 1:=kk
theorem dm4_36:Dk km4 36 (.dup) 1:=kk
theorem dm4_37:Dk km4 37 (.iconst 1) 1:=kk
theorem dm4_38:Dk km4 38 (.iload_n 2) 1:=kk
theorem dm4_39:Dk km4 39 (.castore) 1:=kk
theorem dm4_40:Dk km4 40 (.invokespecial 36) 3:=kk
theorem dm4_43:Dk km4 43 (.areturn) 1:=kk
set_option maxRecDepth 65536 in
set_option maxHeartbeats 40000000 in
theorem rm_seg (l : Launch) (Z : State) (a0 : Array Value) (hw : ∀ d ∈ tables_1, d.before a0 Z = true) (ws : List Jvm.Cond) (n c d G1 : Int32) (G3 : Value) (h0 : Heap) (n0 : Nat) (O0 : Old Z n0 h0) (O2 : Sta Z Z.heap "java/lang/String" "COMPACT_STRINGS" "Z" (.int G1)) (P5 : ¬ (G1 = (0 : Int32))) (O4 : Sta Z Z.heap "jdk/internal/util/Preconditions" "SIOOBE_FORMATTER" "Ljava/util/function/BiFunction;" G3) (rG3 : G3.isRef = true) (OA : Sta Z Z.heap "java/lang/StringUTF16" "$assertionsDisabled" "Z" (.int (1 : Int32))) (OH : Sta Z Z.heap "java/lang/StringUTF16" "HI_BYTE_SHIFT" "I" (.int (0 : Int32))) (OL : Sta Z Z.heap "java/lang/StringUTF16" "LO_BYTE_SHIFT" "I" (.int (8 : Int32))) (hn : n = 0 ∨ n = 1 ∨ n = 2) (b_c : ¬ c < 0 ∧ ¬ (65535 : Int32) < c) (b_d : ¬ d < 0 ∧ ¬ (65535 : Int32) < d) :
    own_TW l Z ws h0 (⟨"com/example/cohortwise/cohortwise/http/RequestsPathPinLaw", "seg", "(ICC)Ljava/lang/String;"⟩ : MethodName) method_4_code 3 (some (.object "java/lang/String")) ⟨6, 6, 12, 88⟩ #[(.int n), (.int c), (.int d)] (QStrN Z (own_sg n c d) h0 n0) 6 12 := by
  refine own_bW "com/example/cohortwise/cohortwise/http/RequestsPathPinLaw" #[iv n, iv c, iv d] hw (pf pn_5 rfl) rfl O0 (fun m => own_e) ?_
  intro p e s m below meth cC s₁ hZ hh hx hby hml hown hnm hrt hlk X0 e0 N0 Z0 hS0 C0 own_wS own_hEL
  rcases hn with rfl | rfl | rfl
  · skip
    show own_Go p e below (s₁.setTop (mkF m 0 #[iv (0 : Int32), iv c, iv d] [])) _
    refine wl X0 hx hby 0 dm4_0 rfl ?_
    refine we X0 hx hby 1 dm4_1 ((if0 _ _).trans (teq (by decide : (0 : Int32) = (0 : Int32))).2) ?_
    obtain ⟨T411, h411, X411, e411, E411, A411, D411, U411, st411⟩ := newO X0 hx hZ hown (tw hw 9 rfl) (tw hw 10 rfl) (tw hw 11 rfl) e0 (g := (mkF m 4 #[iv (0 : Int32), iv c, iv d] [])) rfl (hb hby dm4_4) (by decide) (by decide)
    obtain ⟨b411, g411⟩ : ∃ z, z = h0.size := ⟨_, rfl⟩
    rw [← g411] at A411 D411 U411 st411
    refine own_go st411 ?_
    have C412 := C0.trans (CHr.ext E411 C0.1)
    have F411_value : Fld Z h411 b411 "java/lang/String" "value" "[B" .null := D411 (Or.inr (tw hw 25 rfl)) (ty := (.array .byte)) (by decide)
    have F411_coder : Fld Z h411 b411 "java/lang/String" "coder" "B" (.int (0 : Int32)) := D411 (Or.inr (tw hw 26 rfl)) (ty := .byte) (by decide)
    try dsimp only [mkF]
    refine og (fun _ k => XS.dup X411.here hx rfl (hb hby dm4_7) rfl rfl k) ?_
    refine wc X411 hx hby 8 dm4_8 ?_
    obtain ⟨T413, h413, k413, X413, e413, E413, A413, st413⟩ := newP X411 hx hZ (tw hw 12 rfl) e411 (g := (mkF m 9 #[iv (0 : Int32), iv c, iv d] [(.int (0 : Int32)), (.ref b411), (.ref b411)])) rfl (hb hby dm4_9) rfl (by decide) (cap := 0) (by decide) (by decide) (by decide) (by decide)
    obtain ⟨b413, g413⟩ : ∃ z, z = h411.size := ⟨_, rfl⟩
    rw [← g413] at A413 st413
    refine own_go st413 ?_
    have C414 := C412.trans (CHr.ext E413 C412.1)
    have V413 : Arv Z h413 b413 k413 .char (0 : Int32) [] (.int (0 : Int32)) := (Arv.new A413 (by decide)).pad (pad_rep [] (.int (0 : Int32)) 0)
    obtain ⟨v415, _, ⟨T415, L415, k415, n415⟩, -, X415, hS415, hg415, ⟨Lc415, hQ415, l415, y415, z415, A415⟩, st415⟩ := X413.specialBackS hx (y := (⟨"java/lang/String", "<init>", "([C)V"⟩ : MethodName)) rfl hown (mvT hZ (tw hw 13 rfl)) (mvT hZ (tw hw 14 rfl)) (mvT hZ (tw hw 15 rfl)) (by decide) (backOfSH (W := 1) (rm_i1e l Z a0 hw [] b411 b413 k413 h413 n0 ((O0.ext E411).ext E413) (A411.ext E413) (F411_value.ext E413) (F411_coder.ext E413) (Nat.le_trans Z0 (Nat.le_of_eq g411.symm)) V413) hZ (tw hw 15 rfl) (tw hw 11 rfl) (by decide) (by decide) own_hEL C414.1) (g := (mkF m 11 #[iv (0 : Int32), iv c, iv d] [(.ref b413), (.ref b411), (.ref b411)])) rfl (by rw [hml]; rfl) (Steps.refl _) (a := b411) (argsL := [(.ref b413)]) (rest := [(.ref b411)]) (lenOf pd_34 rfl) rfl (by show 2 * 0 + _ ≤ _; exact Nat.le_of_eq rfl) (hb hby dm4_11) (fun _ _ => ⟨rfl, e413, (by decide : 2 + 4 ≤ _), (by decide : 4 + 8 ≤ _)⟩)
    dsimp only [Pt.U, Pt.locs, Pt.cells, Pt.slots] at X415 l415 y415 z415 st415 hQ415 hS415 hg415 A415
    subst l415 y415 z415
    refine own_gos st415 ?_
    obtain ⟨X415, hS415, hZ415, hown415⟩ := rebS hS0 (k0 := _) (n1 := T413.heap.size) (by rw [e413]; exact (Nat.zero_le _)) X415 hS415 hg415 hZ hown
    obtain ⟨t415, kt415, rfl, Nq415, K415, Fv415, Fc415, Vt415, Xt415⟩ := hQ415
    have C416 := C414.trans A415
    have N415 := Fr.app N0 Nq415
    have f417 := ((((Keep.refl h0 []).ext E411).ext E413).trans K415 (allS (Or.inr (Nat.le_of_eq g411.symm)) all0))
    have f418 := ((A411.ext E413).keep K415)
    refine own_finW (v := (some (.ref b411))) X415 hh hZ415 hS415 (by rw [(rfl : T415.heap = T415.heap)]; exact (Nat.le_refl _)) (fun h => by rw [hrt] at h; cases h) hlk (fun fs hr => retR X415 hx hrt (by rfl) rfl rfl (hb hby dm4_14) hr) (QQ := QStrN Z (own_sg (0 : Int32) c d) h0 n0) ?_ own_hEL (rfl : T415.heap = T415.heap) (C416) (by decide) (by decide)
    exact ⟨b411, t415, _, _, _, _, rfl, N415, f417, (Nat.le_of_eq g411.symm), f418, Fv415, Fc415, Vt415, own_cod0, Xt415⟩
  · skip
    show own_Go p e below (s₁.setTop (mkF m 0 #[iv (1 : Int32), iv c, iv d] [])) _
    refine wl X0 hx hby 0 dm4_0 rfl ?_
    refine wf X0 hx hby 1 15 dm4_1 ((if0 _ _).trans (feq (by decide : ¬ ((1 : Int32) = (0 : Int32)))).2) ?_
    refine wl X0 hx hby 15 dm4_15 rfl ?_
    try dsimp only [mkF]
    refine wc X0 hx hby 16 dm4_16 ?_
    refine wn X0 hx hby 17 dm4_17 (teq (by decide : (1 : Int32) = (1 : Int32))).2 ?_
    refine wl X0 hx hby 20 dm4_20 rfl ?_
    obtain ⟨v419, _, ⟨T419, L419, k419, n419⟩, -, X419, ⟨Lc419, hQ419, l419, y419, z419⟩, st419⟩ := Jvm.LawKit.callS X0 hx (y := (⟨"java/lang/String", "valueOf", "(C)Ljava/lang/String;"⟩ : MethodName)) hown (mvT hZ (tw hw 116 rfl)) (mvT hZ (tw hw 117 rfl)) (mvT hZ (tw hw 11 rfl)) (mvT hZ (tw hw 118 rfl)) (by decide) (backOf (W := 0) (rm_vof l Z a0 hw [] c G1 h0 n0 O0 O2 P5 OA OH OL) hZ (tw hw 118 rfl) (tw hw 11 rfl) (by decide) (by decide)) (g := (mkF m 21 #[iv (1 : Int32), iv c, iv d] [(.int c)])) rfl (by rw [hml]; rfl) (argsL := [(.int c)]) (rest := []) (lenOf pd_35 rfl) rfl (by show 2 * 0 + _ ≤ _; exact Nat.le_of_eq rfl) (hb hby dm4_21) (fun _ _ => ⟨rfl, e0, (by decide : 0 + 2 ≤ _), (by decide : 0 + 6 ≤ _)⟩)
    dsimp only [Pt.U, Pt.locs, Pt.cells, Pt.slots] at X419 l419 y419 z419 st419 hQ419
    subst l419 y419 z419
    refine own_go st419 ?_
    obtain ⟨x419, t419, kt419, cd419, N2419, vs419, rfl, Nq419, K419, xg419, Ex419, Fv419, Fc419, Vt419, hC419, Xt419⟩ := hQ419
    have C420 := C0.trans (CHr.keep K419 sf0 C0.1)
    have N419 := Fr.app N0 Nq419
    have f421 := ((Keep.refl h0 []).trans K419 all0)
    refine own_finW (v := (some (.ref x419))) X419 hh hZ hS0 (by rw [(rfl : T419.heap = T419.heap)]; exact (Nat.zero_le _)) (fun h => by rw [hrt] at h; cases h) hlk (fun fs hr => retR X419 hx hrt (by rfl) rfl rfl (hb hby dm4_24) hr) (QQ := QStrN Z (own_sg (1 : Int32) c d) h0 n0) ?_ own_hEL (rfl : T419.heap = T419.heap) (C420) (by decide) (by decide)
    exact ⟨x419, t419, _, _, _, _, rfl, N419, f421, xg419, Ex419, Fv419, Fc419, Vt419, hC419, Xt419⟩
  · skip
    show own_Go p e below (s₁.setTop (mkF m 0 #[iv (2 : Int32), iv c, iv d] [])) _
    refine wl X0 hx hby 0 dm4_0 rfl ?_
    refine wf X0 hx hby 1 15 dm4_1 ((if0 _ _).trans (feq (by decide : ¬ ((2 : Int32) = (0 : Int32)))).2) ?_
    refine wl X0 hx hby 15 dm4_15 rfl ?_
    try dsimp only [mkF]
    refine wc X0 hx hby 16 dm4_16 ?_
    refine wy X0 hx hby 17 25 dm4_17 (feq (by decide : ¬ ((2 : Int32) = (1 : Int32)))).2 ?_
    obtain ⟨T422, h422, X422, e422, E422, A422, D422, U422, st422⟩ := newO X0 hx hZ hown (tw hw 9 rfl) (tw hw 10 rfl) (tw hw 11 rfl) e0 (g := (mkF m 25 #[iv (2 : Int32), iv c, iv d] [])) rfl (hb hby dm4_25) (by decide) (by decide)
    obtain ⟨b422, g422⟩ : ∃ z, z = h0.size := ⟨_, rfl⟩
    rw [← g422] at A422 D422 U422 st422
    refine own_go st422 ?_
    have C423 := C0.trans (CHr.ext E422 C0.1)
    have F422_value : Fld Z h422 b422 "java/lang/String" "value" "[B" .null := D422 (Or.inr (tw hw 25 rfl)) (ty := (.array .byte)) (by decide)
    have F422_coder : Fld Z h422 b422 "java/lang/String" "coder" "B" (.int (0 : Int32)) := D422 (Or.inr (tw hw 26 rfl)) (ty := .byte) (by decide)
    refine og (fun _ k => XS.dup X422.here hx rfl (hb hby dm4_28) rfl rfl k) ?_
    refine wc X422 hx hby 29 dm4_29 ?_
    try dsimp only [mkF]
    obtain ⟨T424, h424, k424, X424, e424, E424, A424, st424⟩ := newP X422 hx hZ (tw hw 12 rfl) e422 (g := (mkF m 30 #[iv (2 : Int32), iv c, iv d] [(.int (2 : Int32)), (.ref b422), (.ref b422)])) rfl (hb hby dm4_30) rfl (by decide) (cap := 2) (by decide) (by decide) (by decide) (by decide)
    obtain ⟨b424, g424⟩ : ∃ z, z = h422.size := ⟨_, rfl⟩
    rw [← g424] at A424 st424
    refine own_go st424 ?_
    have C425 := C423.trans (CHr.ext E424 C423.1)
    have V424 : Arv Z h424 b424 k424 .char (2 : Int32) [(.int (0 : Int32)), (.int (0 : Int32))] (.int (0 : Int32)) := (Arv.new A424 (by decide)).pad (pad_rep [] (.int (0 : Int32)) 2)
    refine og (fun _ k => XS.dup X424.here hx rfl (hb hby dm4_32) rfl rfl k) ?_
    refine wc X424 hx hby 33 dm4_33 ?_
    refine wl X424 hx hby 34 dm4_34 rfl ?_
    obtain ⟨c426, A426, q426, S426, M426, Hs426, Gs426⟩ := id V424
    obtain ⟨T427, h427, X427, e427, W427, st427⟩ := stC X424 hx hZ e424 A426 (j := (0 : Int32)) (inb_of S426 ⟨by decide, by decide⟩) (g := (mkF m 35 #[iv (2 : Int32), iv c, iv d] [(.int c), (.int (0 : Int32)), (.ref b424), (.ref b424), (.ref b422), (.ref b422)])) rfl rfl (hb hby dm4_35)
    refine own_go st427 ?_
    have N427 := Fr.snoc X427 N0 (Nat.le_trans Z0 (Nat.le_trans E422.1 (Nat.le_of_eq g424.symm)))
    have f428 := (Safe.ext E424 C423.1 (Safe.new (Nat.le_of_eq g424.symm)))
    have C429 := C425.trans (CHr.wr W427 f428 C425.1)
    have V427 : Arv Z h427 b424 k424 .char (2 : Int32) [(.int (nar .char c)), (.int (0 : Int32))] (.int (0 : Int32)) := Arv.set A426 q426 S426 M426 Hs426 Gs426 (fits_nar_char _) W427 0 rfl (Nat.le_of_ble_eq_true rfl)
    have V427q : Arv Z h427 b424 k424 .char (2 : Int32) [(.int c), (.int (0 : Int32))] (.int (0 : Int32)) := by rw [show nar .char c = c from (own_nc b_c.1 b_c.2)] at V427; exact V427
    try dsimp only [mkF]
    refine og (fun _ k => XS.dup X427.here hx rfl (hb hby dm4_36) rfl rfl k) ?_
    refine wc X427 hx hby 37 dm4_37 ?_
    refine wl X427 hx hby 38 dm4_38 rfl ?_
    obtain ⟨c430, A430, q430, S430, M430, Hs430, Gs430⟩ := id V427q
    obtain ⟨T431, h431, X431, e431, W431, st431⟩ := stC X427 hx hZ e427 A430 (j := (1 : Int32)) (inb_of S430 ⟨by decide, by decide⟩) (g := (mkF m 39 #[iv (2 : Int32), iv c, iv d] [(.int d), (.int (1 : Int32)), (.ref b424), (.ref b424), (.ref b422), (.ref b422)])) rfl rfl (hb hby dm4_39)
    refine own_go st431 ?_
    have N431 := Fr.snoc X431 N427 (Nat.le_trans Z0 (Nat.le_trans E422.1 (Nat.le_of_eq g424.symm)))
    have f432 := (Safe.wr W427 f428 C425.1 f428)
    have C433 := C429.trans (CHr.wr W431 f432 C429.1)
    have V431 : Arv Z h431 b424 k424 .char (2 : Int32) [(.int c), (.int (nar .char d))] (.int (0 : Int32)) := Arv.set A430 q430 S430 M430 Hs430 Gs430 (fits_nar_char _) W431 1 rfl (Nat.le_of_ble_eq_true rfl)
    have V431q : Arv Z h431 b424 k424 .char (2 : Int32) [(.int c), (.int d)] (.int (0 : Int32)) := by rw [show nar .char d = d from (own_nc b_d.1 b_d.2)] at V431; exact V431
    have f434 := (((A422.ext E424).wr W427).wr W431)
    have ne435 : b422 ≠ b424 := Nat.ne_of_lt (Nat.lt_of_lt_of_le A422.lt (Nat.le_of_eq g424.symm))
    have f436 := (((F422_value.ext E424).other W427 (Or.inl ne435)).other W431 (Or.inl ne435))
    have f437 := (((F422_coder.ext E424).other W427 (Or.inl ne435)).other W431 (Or.inl ne435))
    have f438 := ((((O0.ext E422).ext E424).wr W427 (Nat.le_trans Z0 (Nat.le_trans E422.1 (Nat.le_of_eq g424.symm)))).wr W431 (Nat.le_trans Z0 (Nat.le_trans E422.1 (Nat.le_of_eq g424.symm))))
    obtain ⟨v439, _, ⟨T439, L439, k439, n439⟩, -, X439, ⟨Lc439, hQ439, l439, y439, z439⟩, st439⟩ := X431.specialBack hx (y := (⟨"java/lang/String", "<init>", "([C)V"⟩ : MethodName)) rfl hown (mvT hZ (tw hw 13 rfl)) (mvT hZ (tw hw 14 rfl)) (mvT hZ (tw hw 15 rfl)) (by decide) (backOf (W := 1) (rm_i1 l Z a0 hw [] b422 b424 k424 (.int (0 : Int32)) ([c, d] : List Int32) G1 h431 n0 f438 f434 f436 f437 (Nat.le_trans Z0 (Nat.le_of_eq g422.symm)) OA OH OL O2 P5 (own_okL2 b_c b_d) V431q (Nat.le_of_ble_eq_true rfl) (Nat.le_of_ble_eq_true rfl)) hZ (tw hw 15 rfl) (tw hw 11 rfl) (by decide) (by decide)) (g := (mkF m 40 #[iv (2 : Int32), iv c, iv d] [(.ref b424), (.ref b422), (.ref b422)])) rfl (by rw [hml]; rfl) (Steps.refl _) (a := b422) (argsL := [(.ref b424)]) (rest := [(.ref b422)]) (lenOf pd_34 rfl) rfl (by show 2 * 0 + _ ≤ _; exact Nat.le_of_eq rfl) (hb hby dm4_40) (fun _ _ => ⟨rfl, e431, (by decide : 2 + 2 ≤ _), (by decide : 6 + 6 ≤ _)⟩)
    dsimp only [Pt.U, Pt.locs, Pt.cells, Pt.slots] at X439 l439 y439 z439 st439 hQ439
    subst l439 y439 z439
    refine own_gos st439 ?_
    obtain ⟨t439, kt439, cd439, N2439, vs439, rfl, Nq439, K439, Fv439, Fc439, Vt439, hC439, Xt439⟩ := hQ439
    have f440 := (Safe.wr W431 f432 C429.1 (Safe.wr W427 f428 C425.1 (Safe.ext E424 C423.1 (Safe.ext E422 C0.1 (Safe.new (Nat.le_of_eq g422.symm))))))
    have C441 := C433.trans (CHr.keep K439 (sfS f440 sf0) C433.1)
    have N439 := Fr.app N431 Nq439
    try dsimp only [mkF]
    have f442 := (((((Keep.refl h0 []).ext E422).ext E424).wr W427 (Or.inr (Nat.le_trans E422.1 (Nat.le_of_eq g424.symm)))).wr W431 (Or.inr (Nat.le_trans E422.1 (Nat.le_of_eq g424.symm))))
    have f443 := (f442.trans K439 (allS (Or.inr (Nat.le_of_eq g422.symm)) all0))
    refine own_finW (v := (some (.ref b422))) X439 hh hZ hS0 (by rw [(rfl : T439.heap = T439.heap)]; exact (Nat.zero_le _)) (fun h => by rw [hrt] at h; cases h) hlk (fun fs hr => retR X439 hx hrt (by rfl) rfl rfl (hb hby dm4_43) hr) (QQ := QStrN Z (own_sg (2 : Int32) c d) h0 n0) ?_ own_hEL (rfl : T439.heap = T439.heap) (C441) (by decide) (by decide)
    exact ⟨b422, t439, _, _, _, _, rfl, N439, f443, (Nat.le_of_eq g422.symm), (f434.keep K439), Fv439, Fc439, Vt439, hC439, Xt439⟩

def own_cM (M : Nat) : Nat := if M = 16 then 0 else if M = 34 then 1 else 2
def own_sC (M : Nat) : Nat := if M = 16 then 0 else if M = 34 then 70 else 140
theorem pd_36 : parseMethodDescriptor "(C)Ljava/lang/StringBuilder;" = some ⟨[.char], some (.object "java/lang/StringBuilder")⟩ := by decide +kernel
set_option maxRecDepth 65536 in
set_option maxHeartbeats 40000000 in
theorem rm_apX (l : Launch) (Z : State) (a0 : Array Value) (hw : ∀ d ∈ tables_1, d.before a0 Z = true) (b v : Addr) (kv : ClassId) (M : Nat) (cs : List Int32) (ch : Int32) (G1 : Int32) (G3 : Value) (h1 : Heap) (n0 : Nat) {p : Program} {e : Env} {R : Room} {s : State} {m : MethodId} {args : Array Value} {below : List Frame} {meth : Method} {cC : Code} {T : State} {locs : List Loc} {cells slots : Nat} (X : Stand p l e R s m args below meth cC T locs cells slots) (hx : p.tables.exec = Jvm.exec) (hown : s.vm.findClass "com/example/cohortwise/cohortwise/http/Requests" = some m.cls) (hZ : Z.Warmed39 s.vm) (eT : T.heap = h1) (N0 : Fr n0 locs) (O1 : Old Z n0 h1) (O2 : Sta Z Z.heap "java/lang/String" "COMPACT_STRINGS" "Z" (.int G1)) (P5 : ¬ (G1 = (0 : Int32))) (O4 : Sta Z Z.heap "jdk/internal/util/Preconditions" "SIOOBE_FORMATTER" "Ljava/util/function/BiFunction;" G3) (rG3 : G3.isRef = true) (OA : Sta Z Z.heap "java/lang/StringUTF16" "$assertionsDisabled" "Z" (.int (1 : Int32))) (OH : Sta Z Z.heap "java/lang/StringUTF16" "HI_BYTE_SHIFT" "I" (.int (0 : Int32))) (OL : Sta Z Z.heap "java/lang/StringUTF16" "LO_BYTE_SHIFT" "I" (.int (8 : Int32))) (E_b : Exa Z h1 b "java/lang/StringBuilder") (Fv_b : Fld Z h1 b "java/lang/AbstractStringBuilder" "value" "[B" (.ref v)) (Fc_b : Fld Z h1 b "java/lang/AbstractStringBuilder" "coder" "B" (.int (0 : Int32))) (Fn_b : Fld Z h1 b "java/lang/AbstractStringBuilder" "count" "I" (.int (Int32.ofNat cs.length))) (V_v : Arv Z h1 v kv .byte (Int32.ofNat M) (own_sM M cs) (.int (0 : Int32))) (X_v : Exa Z h1 v "[B") (hall : ∀ c ∈ cs, ¬ (255 : Int32) < c) (hok : own_Ok cs) (hM : cs.length ≤ M ∧ M ≤ 70) (g_b : n0 ≤ b) (g_v : n0 ≤ v) (hM3 : M = 16 ∨ M = 34 ∨ M = 70) (hch : ¬ ch < 0 ∧ ¬ (255 : Int32) < ch) (hl : cs.length + 1 ≤ 70) {pc : Nat} {ls : Array Slot} (hls : ls.size = cC.maxLocals) (hd : decode cC.code pc = .ok (.invokevirtual 49, 3)) (hfr : 6 ≤ R.frames) (hlo : 88 ≤ R.locals) (hc : cells + 2 ≤ R.cells + own_cM M) (hs : slots + 140 ≤ R.slots + own_sC M) :
    ∃ (T' : State) (L : List Loc) (v' : Addr) (kv' : ClassId) (M' c' s' : Nat), Stand p l e R s m args below meth cC T' (locs ++ L) (cells + c') (slots + s') ∧ c' + own_cM M = own_cM M' ∧ s' + own_sC M = own_sC M' ∧ Fr n0 L ∧ Keep h1 T'.heap [b, v] ∧ (v' = v ∨ h1.size ≤ v') ∧ Fld Z T'.heap b "java/lang/AbstractStringBuilder" "value" "[B" (.ref v') ∧ Fld Z T'.heap b "java/lang/AbstractStringBuilder" "coder" "B" (.int (0 : Int32)) ∧ Fld Z T'.heap b "java/lang/AbstractStringBuilder" "count" "I" (.int (Int32.ofNat (cs ++ [ch]).length)) ∧ Arv Z T'.heap v' kv' .byte (Int32.ofNat M') (own_sM M' (cs ++ [ch])) (.int (0 : Int32)) ∧ Exa Z T'.heap v' "[B" ∧ (M' = 16 ∨ M' = 34 ∨ M' = 70) ∧ (cs ++ [ch]).length ≤ M' ∧ ∀ target, Steps p.tables e below (T'.setTop (mkF m (pc + 3) ls [.ref b])) target → Steps p.tables e below (T.setTop (mkF m pc ls [.int ch, .ref b])) target := by
  obtain ⟨hcM, hM34⟩ := hM
  have hlen : cs.length ≤ 4000 := hok.2
  have hbv := Exa.neArv E_b V_v (tw hw 37 rfl)
  have Z0 : n0 ≤ h1.size := O1.1 ▸ O1.2.1
  by_cases hg : cs.length + 1 ≤ M
  · have hM2 : own_cM M ≤ 2 := by unfold own_cM; split <;> first | omega | (split <;> omega)
    have hS2 : own_sC M ≤ 140 := by unfold own_sC; split <;> first | omega | (split <;> omega)
    have hcc : cells + 0 ≤ R.cells := by omega
    have hss : slots + 0 ≤ R.slots := by omega
    obtain ⟨cq444, kq444, q444a, q444b, q444c⟩ := isOf hZ eT E_b
    obtain ⟨v444, _, ⟨T444, L444, k444, n444⟩, -, X444, ⟨Lc444, hQ444, l444, y444, z444⟩, st444⟩ := X.virtualBack hx (y := (⟨"java/lang/StringBuilder", "append", "(C)Ljava/lang/StringBuilder;"⟩ : MethodName)) (z := (⟨"java/lang/StringBuilder", "append", "(C)Ljava/lang/StringBuilder;"⟩ : MethodName)) hown (mvT hZ (tw hw 130 rfl)) (mvT hZ (tw hw 131 rfl)) (notFace_of_selects (args := #[]) (mvT hZ (tw hw 133 rfl))) (mvT hZ (tw hw 133 rfl)) (mvT hZ (tw hw 132 rfl)) own_b (backOf (W := 0) (rm_aCN l Z a0 hw [] b v kv M cs ch G1 G3 h1 n0 O1 O2 P5 O4 rG3 OA OH OL E_b Fv_b Fc_b Fn_b V_v X_v hall hok (And.intro hcM hM34) g_b g_v hch hg) hZ (tw hw 134 rfl) (tw hw 38 rfl) own_b own_b) q444a q444c (g := (mkF m pc ls [(.int ch), (.ref b)])) rfl hls (Steps.refl _) (argsL := [(.int ch)]) (rest := []) (lenOf pd_36 rfl) rfl (by show 2 * 0 + _ ≤ _; exact Nat.le_of_eq rfl) hd (fun _ _ => ⟨rfl, eT, own_b, own_b⟩)
    dsimp only [Pt.U, Pt.locs, Pt.cells, Pt.slots] at X444 l444 y444 z444 st444 hQ444
    subst l444 y444 z444
    obtain ⟨rfl, Nq444, K444, Fv444, Fc444, Fn444, Vv444⟩ := hQ444
    have N444 := Fr.app N0 Nq444
    have f445 := ((Keep.refl h1 [b, v]).trans K444 (allS (Or.inl (List.mem_of_getElem? (i := 0) rfl)) (allS (Or.inl (List.mem_of_getElem? (i := 1) rfl)) all0)))
    exact ⟨T444, _, v, kv, M, 0, 0, X444, Nat.zero_add _, Nat.zero_add _, Nq444, f445, Or.inl rfl, Fv444, Fc444, Fn444, Vv444, (X_v.keep K444), by first | exact Or.inl rfl | exact Or.inr (Or.inl rfl) | exact Or.inr (Or.inr rfl) | exact hM3, (by rw [List.length_append]; show _ + 1 ≤ _; omega), fun target q => st444.trans q⟩
  · rcases hM3 with rfl | rfl | rfl
    · have e1 : own_cM 16 = 0 := rfl
      have e2 : own_sC 16 = 0 := rfl
      have hcc : cells + 1 ≤ R.cells := by rw [e1] at hc; omega
      have hss : slots + 70 ≤ R.slots := by rw [e2] at hs; omega
      have hE : cs.length = 16 := by omega
      obtain ⟨cq446, kq446, q446a, q446b, q446c⟩ := isOf hZ eT E_b
      obtain ⟨v446, _, ⟨T446, L446, k446, n446⟩, -, X446, ⟨Lc446, hQ446, l446, y446, z446⟩, st446⟩ := X.virtualBack hx (y := (⟨"java/lang/StringBuilder", "append", "(C)Ljava/lang/StringBuilder;"⟩ : MethodName)) (z := (⟨"java/lang/StringBuilder", "append", "(C)Ljava/lang/StringBuilder;"⟩ : MethodName)) hown (mvT hZ (tw hw 130 rfl)) (mvT hZ (tw hw 131 rfl)) (notFace_of_selects (args := #[]) (mvT hZ (tw hw 133 rfl))) (mvT hZ (tw hw 133 rfl)) (mvT hZ (tw hw 132 rfl)) own_b (backOf (W := 0) (rm_aCG l Z a0 hw [] b v kv 16 cs ch G1 G3 h1 n0 O1 O2 P5 O4 rG3 OA OH OL E_b Fv_b Fc_b Fn_b V_v X_v hall hok (And.intro hcM hM34) g_b g_v hch hE own_b) hZ (tw hw 134 rfl) (tw hw 38 rfl) own_b own_b) q446a q446c (g := (mkF m pc ls [(.int ch), (.ref b)])) rfl hls (Steps.refl _) (argsL := [(.int ch)]) (rest := []) (lenOf pd_36 rfl) rfl (by show 2 * 0 + _ ≤ _; exact Nat.le_of_eq rfl) hd (fun _ _ => ⟨rfl, eT, own_b, own_b⟩)
      dsimp only [Pt.U, Pt.locs, Pt.cells, Pt.slots] at X446 l446 y446 z446 st446 hQ446
      subst l446 y446 z446
      obtain ⟨v446, kv446, rfl, Nq446, K446, vg446, Fv446, Fc446, Fn446, Vv446, Xv446⟩ := hQ446
      have N446 := Fr.app N0 Nq446
      have f447 := ((Keep.refl h1 [b, v]).trans K446 (allS (Or.inl (List.mem_of_getElem? (i := 0) rfl)) all0))
      exact ⟨T446, _, v446, kv446, 34, 1, 70, X446, rfl, rfl, Nq446, f447, Or.inr vg446, Fv446, Fc446, Fn446, Vv446, Xv446, by first | exact Or.inl rfl | exact Or.inr (Or.inl rfl) | exact Or.inr (Or.inr rfl) | exact hM3, (by rw [List.length_append]; show _ + 1 ≤ _; omega), fun target q => st446.trans q⟩
    · have e1 : own_cM 34 = 1 := rfl
      have e2 : own_sC 34 = 70 := rfl
      have hcc : cells + 1 ≤ R.cells := by rw [e1] at hc; omega
      have hss : slots + 70 ≤ R.slots := by rw [e2] at hs; omega
      have hE : cs.length = 34 := by omega
      obtain ⟨cq448, kq448, q448a, q448b, q448c⟩ := isOf hZ eT E_b
      obtain ⟨v448, _, ⟨T448, L448, k448, n448⟩, -, X448, ⟨Lc448, hQ448, l448, y448, z448⟩, st448⟩ := X.virtualBack hx (y := (⟨"java/lang/StringBuilder", "append", "(C)Ljava/lang/StringBuilder;"⟩ : MethodName)) (z := (⟨"java/lang/StringBuilder", "append", "(C)Ljava/lang/StringBuilder;"⟩ : MethodName)) hown (mvT hZ (tw hw 130 rfl)) (mvT hZ (tw hw 131 rfl)) (notFace_of_selects (args := #[]) (mvT hZ (tw hw 133 rfl))) (mvT hZ (tw hw 133 rfl)) (mvT hZ (tw hw 132 rfl)) own_b (backOf (W := 0) (rm_aCG l Z a0 hw [] b v kv 34 cs ch G1 G3 h1 n0 O1 O2 P5 O4 rG3 OA OH OL E_b Fv_b Fc_b Fn_b V_v X_v hall hok (And.intro hcM hM34) g_b g_v hch hE own_b) hZ (tw hw 134 rfl) (tw hw 38 rfl) own_b own_b) q448a q448c (g := (mkF m pc ls [(.int ch), (.ref b)])) rfl hls (Steps.refl _) (argsL := [(.int ch)]) (rest := []) (lenOf pd_36 rfl) rfl (by show 2 * 0 + _ ≤ _; exact Nat.le_of_eq rfl) hd (fun _ _ => ⟨rfl, eT, own_b, own_b⟩)
      dsimp only [Pt.U, Pt.locs, Pt.cells, Pt.slots] at X448 l448 y448 z448 st448 hQ448
      subst l448 y448 z448
      obtain ⟨v448, kv448, rfl, Nq448, K448, vg448, Fv448, Fc448, Fn448, Vv448, Xv448⟩ := hQ448
      have N448 := Fr.app N0 Nq448
      have f449 := ((Keep.refl h1 [b, v]).trans K448 (allS (Or.inl (List.mem_of_getElem? (i := 0) rfl)) all0))
      exact ⟨T448, _, v448, kv448, 70, 1, 70, X448, rfl, rfl, Nq448, f449, Or.inr vg448, Fv448, Fc448, Fn448, Vv448, Xv448, by first | exact Or.inl rfl | exact Or.inr (Or.inl rfl) | exact Or.inr (Or.inr rfl) | exact hM3, (by rw [List.length_append]; show _ + 1 ≤ _; omega), fun target q => st448.trans q⟩
    · omega

theorem own_litF {Z : State} {a0 : Array Value} {EL : List (String × Nat)} {s : State} {vm1 : Vm} {h1 : Heap} {own text : String} {index : Nat} {mc : ClassId} {a : Addr} (hW : Z.Warmed39 vm1) (hf : vm1.findClass own = some mc) (w : (Cond.stringLink own index text).before a0 Z = true) (hL : Lit (s.setVm vm1) own index a) (hC : CHv Z EL vm1 h1) (hmem : (own, index) ∈ EL)
    {vs : List Value} {z : Int32} (ht : (∀ c ∈ text.toList, c.toNat < 256) ∧ text.toList.map (fun c => Value.int (Jvm.Lit.byteI c.toNat.toUInt16)) = vs) (hz : ¬ z < 0) (hl : z.toNatClampNeg = vs.length) : ∃ (b : Addr) (k : ClassId), Exa Z h1 a "java/lang/String" ∧ Fld Z h1 a "java/lang/String" "coder" "B" (.int 0) ∧ Fld Z h1 a "java/lang/String" "value" "[B" (.ref b) ∧ Arv Z h1 b k .byte z vs (.int 0) ∧ ∀ x, Safe Z EL vm1 h1 x → x ≠ a ∧ x ≠ b := by
  have hal : Z.vm.Alike vm1 := hW.alike
  have w2 : (Cond.stringLink own index text).before a0 (Wst Z vm1 h1) = true := mvS (s := { Z with heap := h1 }) hW w
  obtain ⟨k1, cf, i, units, hkx, hcf, hp, hu, -, htext, -⟩ := Cond.stringLink_spec (s := Wst Z vm1 h1) hf w2
  have hres : k1.resolved[index]? = some (some (.string a)) := by
    have q : (s.setVm vm1).resolvedAt? own index = some (.string a) := hL
    have hk1 : vm1.classes[mc]? = some k1 := hkx
    simp [State.resolvedAt?, hf, hk1] at q
    cases hr : k1.resolved[index]? with
    | none => rw [hr] at q; cases q
    | some o => rw [hr] at q; cases o with
      | none => cases q
      | some r => simpa using q
  have hB0 : Booksv vm1 own index units a := ⟨mc, k1, cf, i, hf, hkx, hcf, hp, hu, Or.inl hres⟩
  have hlat := Jvm.ClassFile.lat_of_text htext ht.1
  obtain ⟨q, hqa, F⟩ := SlB.of (hC _ hmem units a hB0)
  have hne : ∀ x, Safe Z EL vm1 h1 x → x ≠ q.sa ∧ x ≠ q.sd := fun x S => ⟨fun e1 => S ⟨_, hmem, units, a, hB0, q, hqa, F, Or.inl e1⟩, fun e1 => S ⟨_, hmem, units, a, hB0, q, hqa, F, Or.inr e1⟩⟩
  obtain ⟨cS, ⟨⟨s1, s2, s3, ⟨cv, kv, iv, s4, s4b⟩, ⟨cc, kc, ic, s5, s5b⟩, s6, s7, s8, s9, s10, s11, s12, s13, s14, s15, s16⟩, hfS, hcS⟩, ⟨kS, k1b, k2, k3⟩, hB, hbyt⟩ := F
  subst hqa
  have hfS : vm1.findClass "java/lang/String" = some cS := hfS
  have hB : vm1.findClass "[B" = some q.SA.cls := hB
  have k1b : vm1.classes[cS]? = some kS := k1b
  obtain ⟨kv2, z4⟩ := ff_back (U := Wst Z vm1 h1) hal s4
  obtain ⟨kc2, z5⟩ := ff_back (U := Wst Z vm1 h1) hal s5
  have hfZ : Z.vm.findClass "java/lang/String" = some q.sC.cls := by rw [← hal.findClass, hcS]; exact hfS
  obtain ⟨kz, hkz, -⟩ := Vm.findClass_spec hfZ
  obtain ⟨kz2, hkz2, ekz⟩ := hal.2.2 _ _ hkz
  have ekS : kz2 = kS := Option.some.inj (hkz2.symm.trans (hcS ▸ k1b))
  have hBZ : Z.vm.findClass "[B" = some q.SA.cls := by rw [← hal.findClass]; exact hB
  obtain ⟨kb, hkb, -⟩ := Vm.findClass_spec hBZ
  obtain ⟨kb2, hkb2, ekb⟩ := hal.2.2 _ _ hkb
  obtain ⟨hst, k9, hk9, comp, hkind9⟩ := s11
  have hk9 : vm1.classes[q.SA.cls]? = some k9 := hk9
  have ek9 : k9 = kb2 := Option.some.inj (hk9.symm.trans hkb2)
  have hAZ : Z.isArrayOf q.SA .byte := ⟨hst, kb, hkb, comp, by rw [ek9, ekb] at hkind9; exact hkind9⟩
  have eu : vs = units.toList.map fun u => Value.int (Jvm.Lit.byteI u) := by rw [← ht.2, Jvm.ClassFile.units_of_text htext ht.1, List.map_map]; rfl
  have el : vs.length = units.size := by rw [eu]; simp
  have hsl : q.SA.slots = units.map fun u => Value.int (Jvm.Lit.byteI u) := by rw [hbyt, Jvm.Free.SBG.stringBytes_lat hlat]; rfl
  have hsz : q.SA.slots.size = units.size := by rw [hsl, Array.size_map]
  have H2 : Has q.SA vs (.int 0) := fun j hj => by
    have hj2 : j < units.size := by omega
    rw [hsl, eu]; simp [hj2]
  refine ⟨q.sd, q.SA.cls, ⟨q.sC, kz, s1, hfZ, hkz, s3, fun ho => by rw [k3, ← ekS, ekz]⟩, ⟨q.sC, cc, kc2, ic, q.fSC, s1, z5, s7, s2, s3, by rw [← hal.assignable]; exact s5b, s9⟩, ⟨q.sC, cv, kv2, iv, q.fSV, s1, z4, s6, s2, s3, by rw [← hal.assignable]; exact s4b, s8⟩,
    ⟨q.SA, ⟨s10, hAZ, s12⟩, rfl, by rw [hsz, hl, el], hz, H2, fun j hj => ?_⟩, hne⟩
  have e1 := s16 j hj
  have e2 := H2 j hj
  rw [Jvm.Free.SBG.getD_of e2] at e1
  exact e1
def own_Rs (s : State) (vm : Vm) (rs : Nat) : Prop := rs = 0 ∨ (rs = 1 ∧ ∃ a, Lit (s.setVm vm) "com/example/cohortwise/cohortwise/http/Requests" 63 a)
set_option maxRecDepth 65536 in
set_option maxHeartbeats 40000000 in
theorem rm_ldX (l : Launch) (Z : State) (a0 : Array Value) (hw : ∀ d ∈ tables_1, d.before a0 Z = true) {p : Program} {e : Env} {R : Room} {s : State} {vm0 : Vm} {m : MethodId} {args : Array Value} {below : List Frame} {meth : Method} {cC : Code} {T : State} {locs : List Loc} {cells slots k0 : Nat} {h : Heap} (X : Stand p l e R (s.setVm vm0) m args below meth cC T locs cells slots) (hx : p.tables.exec = Jvm.exec) (hown : (s.setVm vm0).vm.findClass "com/example/cohortwise/cohortwise/http/Requests" = some m.cls) (hZ : Z.Warmed39 (s.setVm vm0).vm) (eT : T.heap = h) (hS : s.Since vm0 k0) (hk : k0 ≤ h.size) (H : CHv Z own_EL vm0 h) {rs : Nat} (hR : own_Rs s vm0 rs) {g : JFrame} (hg : g.method = m) (hd : decode cC.code g.pc = .ok (.ldc 63, 2)) (hc : cells + 2 ≤ R.cells + 2 * rs) (hs : slots + 20 ≤ R.slots + 20 * rs) :
    ∃ (a : Addr) (T' : State) (h' : Heap) (vm1 : Vm) (k1 : Nat) (b : Addr) (k : ClassId) (c' s' : Nat), Stand p l e R (s.setVm vm1) m args below meth cC T' locs (cells + c') (slots + s') ∧ c' + 2 * rs = 2 ∧ s' + 20 * rs = 20 ∧ T'.heap = h' ∧ Ext h h' ∧ s.Since vm1 k1 ∧ k1 ≤ h'.size ∧ Z.Warmed39 (s.setVm vm1).vm ∧ (s.setVm vm1).vm.findClass "com/example/cohortwise/cohortwise/http/Requests" = some m.cls ∧ Exa Z h' a "java/lang/String" ∧ Fld Z h' a "java/lang/String" "coder" "B" (.int 0) ∧ Fld Z h' a "java/lang/String" "value" "[B" (.ref b) ∧ Arv Z h' b k .byte (4 : Int32) [(.int (45 : Int32)), (.int (46 : Int32)), (.int (95 : Int32)), (.int (126 : Int32))] (.int 0) ∧ CHr Z own_EL vm0 h vm1 h' ∧ own_Rs s vm1 1 ∧ (∀ x, Safe Z own_EL vm1 h' x → x ≠ a ∧ x ≠ b) ∧ ∀ target, Steps p.tables e below (T'.setTop { g with pc := g.pc + 2, stack := .ref a :: g.stack }) target → Steps p.tables e below (T.setTop g) target := by
  have own_wS := own_wSt hw
  have own_hEL := own_hELt hw
  rcases hR with rfl | ⟨rfl, a, L⟩
  · obtain ⟨a, T1, h1, k1, b, kb, X1, e1, E1, hS1, hk1, hZ1, hown1, Ea, Fc, Fv, Va, la, lb, A, Li, sf, st⟩ := ldcCH X hx hZ hown (tw hw 185 rfl) own_wS eT hS hk own_hEL (by decide) H (vs := [(.int (45 : Int32)), (.int (46 : Int32)), (.int (95 : Int32)), (.int (126 : Int32))]) (z := (4 : Int32)) ⟨by decide, by decide⟩ (by decide) (by decide) hg hd (n := 16) (by decide) (by decide) (by omega) (by omega)
    exact ⟨a, T1, h1, T1.vm, k1, b, kb, 2, 20, X1, rfl, rfl, e1, E1, hS1, hk1, hZ1, hown1, Ea, Fc, Fv, Va, A, Or.inr ⟨rfl, a, Li⟩, sf, st⟩
  · obtain ⟨b, kb, Ea, Fc, Fv, Va, sf⟩ := own_litF (EL := own_EL) hZ hown (tw hw 185 rfl) L H (by decide) (vs := [(.int (45 : Int32)), (.int (46 : Int32)), (.int (95 : Int32)), (.int (126 : Int32))]) (z := (4 : Int32)) ⟨by decide, by decide⟩ (by decide) (by decide)
    exact ⟨a, T, h, vm0, k0, b, kb, 0, 0, X, rfl, rfl, eT, ⟨Nat.le_refl _, fun _ _ q => q⟩, hS, hk, hZ, hown, Ea, Fc, Fv, Va, CHr.refl H, Or.inr ⟨rfl, a, L⟩, sf, ldcAgain X hx hZ hown (tw hw 185 rfl) L hg hd⟩

def own_pc (b : Int32) : List Int32 := if own_un b = (0 : Int32) then [37, own_hx ((b >>> ((4 : Int32) &&& 31)) &&& (15 : Int32)), own_hx (b &&& (15 : Int32))] else [b]
def own_pcs : List Int32 → List Int32
  | [] => []
  | b :: bs => own_pc b ++ own_pcs bs
def own_HEX : List Int32 := [48, 49, 50, 51, 52, 53, 54, 55, 56, 57, 65, 66, 67, 68, 69, 70]
def own_DL : List Int32 := [45, 46, 95, 126]
theorem own_a15 (x : Int32) : ∃ k : Fin 16, x &&& (15 : Int32) = Int32.ofNat k.val := by
  have h : (x &&& 15).toBitVec.toNat < 16 := by
    simp only [Int32.toBitVec_and, BitVec.toNat_and]
    exact Nat.lt_succ_of_le Nat.and_le_right
  refine ⟨⟨_, h⟩, ?_⟩
  apply Int32.toBitVec_inj.mp
  show _ = BitVec.ofNat 32 _
  rw [BitVec.ofNat_toNat]; simp
theorem own_hex1 (x : Int32) : (¬ (x &&& (15 : Int32)) < (0 : Int32) ∧ (x &&& (15 : Int32)) < (16 : Int32)) ∧ (own_HEX.map Value.int).getD (x &&& (15 : Int32)).toNatClampNeg (.int (0 : Int32)) = .int (own_hx (x &&& (15 : Int32))) ∧ (¬ own_hx (x &&& (15 : Int32)) < 0 ∧ ¬ (255 : Int32) < own_hx (x &&& (15 : Int32))) := by
  have t : ∀ k : Fin 16, (¬ (Int32.ofNat k.val) < (0 : Int32) ∧ (Int32.ofNat k.val) < (16 : Int32)) ∧ (own_HEX.map Value.int).getD (Int32.ofNat k.val).toNatClampNeg (.int (0 : Int32)) = .int (own_hx (Int32.ofNat k.val)) ∧ (¬ own_hx (Int32.ofNat k.val) < 0 ∧ ¬ (255 : Int32) < own_hx (Int32.ofNat k.val)) := by decide +kernel
  obtain ⟨k, e⟩ := own_a15 x
  rw [e]; exact t k
theorem own_u4D (c : Int32) : own_u4 c = (if c ∈ own_DL then (1 : Int32) else 0) := by
  unfold own_u4 own_DL
  by_cases h1 : c = 45
  · rw [if_pos h1, if_pos (by simp [h1])]
  by_cases h2 : c = 46
  · rw [if_neg h1, if_pos h2, if_pos (by simp [h2])]
  by_cases h3 : c = 95
  · rw [if_neg h1, if_neg h2, if_pos h3, if_pos (by simp [h3])]
  by_cases h4 : c = 126
  · rw [if_neg h1, if_neg h2, if_neg h3, if_pos h4, if_pos (by simp [h4])]
  · rw [if_neg h1, if_neg h2, if_neg h3, if_neg h4, if_neg (by simp [h1, h2, h3, h4])]
theorem own_u4y {c : Int32} (h : c ∈ own_DL) : ¬ own_u4 c = 0 := by rw [own_u4D, if_pos h]; decide
theorem own_u4n {c : Int32} (h : ¬ c ∈ own_DL) : own_u4 c = 0 := by rw [own_u4D, if_neg h]
theorem own_unB {c : Int32} (h : ¬ own_un c = 0) : ¬ c < 0 ∧ ¬ (127 : Int32) < c := by
  have e0 : (0 : Int32).toInt = 0 := rfl
  have e127 : (127 : Int32).toInt = 127 := rfl
  have e97 : (97 : Int32).toInt = 97 := rfl
  have e122 : (122 : Int32).toInt = 122 := rfl
  have e65 : (65 : Int32).toInt = 65 := rfl
  have e90 : (90 : Int32).toInt = 90 := rfl
  have e48 : (48 : Int32).toInt = 48 := rfl
  have e57 : (57 : Int32).toInt = 57 := rfl
  have k4 : ¬ own_u4 c = 0 → ¬ c < 0 ∧ ¬ (127 : Int32) < c := fun q => by
    have m : c ∈ own_DL := Decidable.byContradiction fun z => q (own_u4n z)
    simp only [own_DL, List.mem_cons, List.not_mem_nil, or_false] at m
    rcases m with rfl | rfl | rfl | rfl <;> decide
  have k3 : ¬ own_u3 c = 0 → ¬ c < 0 ∧ ¬ (127 : Int32) < c := fun q => by
    unfold own_u3 at q
    by_cases a : c < (48 : Int32)
    · rw [if_pos a] at q; exact k4 q
    · by_cases b : (57 : Int32) < c
      · rw [if_neg a, if_pos b] at q; exact k4 q
      · rw [Int32.lt_iff_toInt_lt] at a b ⊢; rw [Int32.lt_iff_toInt_lt]; omega
  have k2 : ¬ own_u2 c = 0 → ¬ c < 0 ∧ ¬ (127 : Int32) < c := fun q => by
    unfold own_u2 at q
    by_cases a : c < (65 : Int32)
    · rw [if_pos a] at q; exact k3 q
    · by_cases b : (90 : Int32) < c
      · rw [if_neg a, if_pos b] at q; exact k3 q
      · rw [Int32.lt_iff_toInt_lt] at a b ⊢; rw [Int32.lt_iff_toInt_lt]; omega
  unfold own_un at h
  by_cases a : c < (97 : Int32)
  · rw [if_pos a] at h; exact k2 h
  · by_cases b : (122 : Int32) < c
    · rw [if_neg a, if_pos b] at h; exact k2 h
    · rw [Int32.lt_iff_toInt_lt] at a b ⊢; rw [Int32.lt_iff_toInt_lt]; omega
theorem own_up7 {c : Int32} (h : ¬ c < 0 ∧ ¬ (127 : Int32) < c) : (¬ c < 0 ∧ ¬ (255 : Int32) < c) ∧ (¬ c < 0 ∧ ¬ (65535 : Int32) < c) := by
  have h2 := h.2
  rw [Int32.lt_iff_toInt_lt] at h2
  have e127 : (127 : Int32).toInt = 127 := rfl
  refine ⟨⟨h.1, ?_⟩, h.1, ?_⟩ <;> rw [Int32.lt_iff_toInt_lt]
  · have e : (255 : Int32).toInt = 255 := rfl
    omega
  · have e : (65535 : Int32).toInt = 65535 := rfl
    omega
theorem own_pcb (b : Int32) : ∀ c ∈ own_pc b, ¬ c < 0 ∧ ¬ (255 : Int32) < c := fun c hc => by
  unfold own_pc at hc; split at hc
  · simp only [List.mem_cons, List.not_mem_nil, or_false] at hc
    rcases hc with rfl | rfl | rfl
    · decide
    · exact (own_hex1 _).2.2
    · exact (own_hex1 _).2.2
  · rename_i h
    rw [List.mem_singleton.mp hc]; exact (own_up7 (own_unB h)).1
theorem own_pcl (b : Int32) : (own_pc b).length ≤ 3 := by
  unfold own_pc; split <;> exact Nat.le_of_ble_eq_true rfl
theorem own_pcsb : ∀ bs : List Int32, ∀ c ∈ own_pcs bs, ¬ c < 0 ∧ ¬ (255 : Int32) < c
  | [], c, hc => nomatch hc
  | b :: bs, c, hc => (List.mem_append.mp hc).elim (own_pcb b c) (own_pcsb bs c)
theorem own_pcsl : ∀ bs : List Int32, (own_pcs bs).length ≤ 3 * bs.length
  | [] => Nat.le_refl _
  | b :: bs => by
    show (own_pc b ++ own_pcs bs).length ≤ 3 * (bs.length + 1)
    rw [List.length_append]; have := own_pcl b; have := own_pcsl bs; omega
theorem own_pcsA (as bs : List Int32) : own_pcs (as ++ bs) = own_pcs as ++ own_pcs bs := by
  induction as with
  | nil => rfl
  | cons a as ih => show own_pc a ++ own_pcs (as ++ bs) = (own_pc a ++ own_pcs as) ++ own_pcs bs; rw [ih, List.append_assoc]
theorem own_pcst {bs : List Int32} {i : Nat} (hi : i < bs.length) : own_pcs (bs.take (i + 1)) = own_pcs (bs.take i) ++ own_pc (bs.getD i 0) := by
  have e : bs.take (i + 1) = bs.take i ++ [bs.getD i 0] := by rw [List.take_succ_eq_append_getElem hi]; simp [List.getD_eq_getElem?_getD, hi]
  rw [e, own_pcsA]; show _ ++ (own_pc _ ++ []) = _; rw [List.append_nil]
theorem own_allA {as bs : List Int32} (h : ∀ c ∈ as, ¬ (255 : Int32) < c) (q : ∀ c ∈ bs, ¬ (255 : Int32) < c) : ∀ c ∈ as ++ bs, ¬ (255 : Int32) < c := fun c hc => (List.mem_append.mp hc).elim (h c) (q c)
theorem own_okAp {as bs : List Int32} (h : own_Ok as) (q : ∀ c ∈ bs, ¬ c < 0 ∧ ¬ (255 : Int32) < c) (hl : as.length + bs.length ≤ 4000) : own_Ok (as ++ bs) := ⟨fun c hc => (List.mem_append.mp hc).elim (h.1 c) (fun z => own_up [c] (fun d hd => by rw [List.mem_singleton.mp hd]; exact q c z) c (List.mem_singleton.mpr rfl)), by rw [List.length_append]; exact hl⟩
theorem own_lo8F {k : Fin 256} (h : 128 ≤ k.val) : own_un (StrChars.lo8 (Int32.ofNat k.val)) = 0 ∧ (StrChars.lo8 (Int32.ofNat k.val) >>> ((4 : Int32) &&& 31)) &&& (15 : Int32) = Int32.ofNat k.val >>> ((4 : Int32) &&& 31) ∧ StrChars.lo8 (Int32.ofNat k.val) &&& (15 : Int32) = Int32.ofNat k.val &&& (15 : Int32) := by
  have t : ∀ k : Fin 256, 128 ≤ k.val → own_un (StrChars.lo8 (Int32.ofNat k.val)) = 0 ∧ (StrChars.lo8 (Int32.ofNat k.val) >>> ((4 : Int32) &&& 31)) &&& (15 : Int32) = Int32.ofNat k.val >>> ((4 : Int32) &&& 31) ∧ StrChars.lo8 (Int32.ofNat k.val) &&& (15 : Int32) = Int32.ofNat k.val &&& (15 : Int32) := by decide +kernel
  exact t k h
theorem own_pcE {b : Int32} (h : ∃ k : Fin 256, 128 ≤ k.val ∧ b = Int32.ofNat k.val) : own_pc (StrChars.lo8 b) = own_es b := by
  obtain ⟨k, hk, rfl⟩ := h
  have q := own_lo8F hk
  unfold own_pc own_es
  rw [if_pos q.1, q.2.1, q.2.2]
theorem own_pc7 {c : Int32} (h0 : ¬ c < 0) (h : c < (128 : Int32)) : own_pc c = if own_un c = (0 : Int32) then own_es c else [c] := by
  have t : ∀ k : Fin 128, (Int32.ofNat k.val >>> ((4 : Int32) &&& 31)) &&& (15 : Int32) = Int32.ofNat k.val >>> ((4 : Int32) &&& 31) := by decide +kernel
  have e : ∃ k : Fin 128, c = Int32.ofNat k.val := by
    rw [Int32.lt_iff_toInt_lt] at h0 h
    have e0 : (0 : Int32).toInt = 0 := rfl
    have e1 : (128 : Int32).toInt = 128 := rfl
    refine ⟨⟨c.toInt.toNat, by omega⟩, ?_⟩
    apply Int32.toInt_inj.mp
    rw [own_ti (by show c.toInt.toNat < _; omega)]
    show c.toInt = (c.toInt.toNat : Int)
    omega
  obtain ⟨k, rfl⟩ := e
  unfold own_pc own_es; rw [t k]
theorem own_orF {y : Int32} {m : Nat} (h : ∃ k : Fin 64, y = Int32.ofNat k.val) (hm : m = 128 ∨ m = 192) : ∃ k : Fin 256, 128 ≤ k.val ∧ Int32.ofNat m ||| y = Int32.ofNat k.val := by
  obtain ⟨k, rfl⟩ := h
  have t : ∀ k : Fin 64, (Int32.ofNat 128 ||| Int32.ofNat k.val = Int32.ofNat (128 + k.val)) ∧ (Int32.ofNat 192 ||| Int32.ofNat k.val = Int32.ofNat (192 + k.val)) := by decide +kernel
  rcases hm with rfl | rfl
  · exact ⟨⟨128 + k.val, by omega⟩, by show 128 ≤ 128 + k.val; omega, (t k).1⟩
  · exact ⟨⟨192 + k.val, by omega⟩, by show 128 ≤ 192 + k.val; omega, (t k).2⟩
theorem own_a63 (x : Int32) : ∃ k : Fin 64, x &&& (63 : Int32) = Int32.ofNat k.val := by
  have h : (x &&& 63).toBitVec.toNat < 64 := by
    simp only [Int32.toBitVec_and, BitVec.toNat_and]
    exact Nat.lt_succ_of_le Nat.and_le_right
  refine ⟨⟨_, h⟩, ?_⟩
  apply Int32.toBitVec_inj.mp
  show _ = BitVec.ofNat 32 _
  rw [BitVec.ofNat_toNat]; simp
theorem own_shr6 {n : Nat} (h : n < 65536) : Int32.ofNat n >>> ((6 : Int32) &&& 31) = Int32.ofNat (n / 64) := by
  have e : ((6 : Int32) &&& 31) = 6 := by decide
  rw [e]
  apply Int32.toBitVec_inj.mp
  rw [Int32.toBitVec_shiftRight]
  have e1 : ((6 : Int32).toBitVec.smod 32) = 6#32 := by decide
  have hm : (BitVec.ofNat 32 n).toNat = n := by rw [BitVec.toNat_ofNat, Nat.mod_eq_of_lt (by omega)]
  rw [e1, BitVec.sshiftRight_eq']
  apply BitVec.eq_of_toNat_eq
  show ((BitVec.ofNat 32 n).sshiftRight 6).toNat = (BitVec.ofNat 32 (n / 64)).toNat
  rw [BitVec.toNat_sshiftRight_of_msb_false (by rw [BitVec.msb_eq_false_iff_two_mul_lt, hm]; omega), hm, BitVec.toNat_ofNat, Nat.shiftRight_eq_div_pow]
  omega
theorem own_shr12 {n : Nat} (h : n < 65536) : Int32.ofNat n >>> ((12 : Int32) &&& 31) = Int32.ofNat (n / 4096) := by
  have e : ((12 : Int32) &&& 31) = 12 := by decide
  rw [e]
  apply Int32.toBitVec_inj.mp
  rw [Int32.toBitVec_shiftRight]
  have e1 : ((12 : Int32).toBitVec.smod 32) = 12#32 := by decide
  have hm : (BitVec.ofNat 32 n).toNat = n := by rw [BitVec.toNat_ofNat, Nat.mod_eq_of_lt (by omega)]
  rw [e1, BitVec.sshiftRight_eq']
  apply BitVec.eq_of_toNat_eq
  show ((BitVec.ofNat 32 n).sshiftRight 12).toNat = (BitVec.ofNat 32 (n / 4096)).toNat
  rw [BitVec.toNat_sshiftRight_of_msb_false (by rw [BitVec.msb_eq_false_iff_two_mul_lt, hm]; omega), hm, BitVec.toNat_ofNat, Nat.shiftRight_eq_div_pow]
  omega
theorem own_chN {c : Int32} (h : ¬ c < 0 ∧ ¬ (65535 : Int32) < c) : ∃ n : Nat, n < 65536 ∧ c = Int32.ofNat n := by
  obtain ⟨h0, h1⟩ := h
  rw [Int32.lt_iff_toInt_lt] at h0 h1
  have e0 : (0 : Int32).toInt = 0 := rfl
  have e1 : (65535 : Int32).toInt = 65535 := rfl
  refine ⟨c.toInt.toNat, by omega, ?_⟩
  apply Int32.toInt_inj.mp
  rw [own_ti (by omega)]
  omega
theorem own_b2F {c : Int32} (h : ¬ c < 0 ∧ ¬ (65535 : Int32) < c) (h2 : c < (2048 : Int32)) : ∃ k : Fin 256, 128 ≤ k.val ∧ own_b2 c = Int32.ofNat k.val := by
  obtain ⟨n, hn, rfl⟩ := own_chN h
  rw [Int32.lt_iff_toInt_lt, own_ti (by omega)] at h2
  have e : (2048 : Int32).toInt = 2048 := rfl
  unfold own_b2; rw [own_shr6 hn]
  exact own_orF (m := 192) ⟨⟨n / 64, by omega⟩, rfl⟩ (Or.inr rfl)
theorem own_b3F {c : Int32} (h : ¬ c < 0 ∧ ¬ (65535 : Int32) < c) : ∃ k : Fin 256, 128 ≤ k.val ∧ own_b3 c = Int32.ofNat k.val := by
  obtain ⟨n, hn, rfl⟩ := own_chN h
  unfold own_b3; rw [own_shr12 hn]
  have t : ∀ k : Fin 16, (224 : Int32) ||| Int32.ofNat k.val = Int32.ofNat (224 + k.val) := by decide +kernel
  have hk : n / 4096 < 16 := by omega
  exact ⟨⟨224 + n / 4096, by omega⟩, by show 128 ≤ 224 + n / 4096; omega, t ⟨n / 4096, hk⟩⟩
theorem own_bmF (c : Int32) : ∃ k : Fin 256, 128 ≤ k.val ∧ own_bm c = Int32.ofNat k.val := own_orF (m := 128) (own_a63 _) (Or.inl rfl)
theorem own_blF (c : Int32) : ∃ k : Fin 256, 128 ≤ k.val ∧ own_bl c = Int32.ofNat k.val := own_orF (m := 128) (own_a63 _) (Or.inl rfl)
theorem own_encU {c : Int32} (h : ¬ c < 0 ∧ ¬ (65535 : Int32) < c) : own_pcs (own_u8 c) = own_enc c := by
  unfold own_u8 own_enc
  by_cases h1 : c < (128 : Int32)
  · rw [if_pos h1, if_pos h1]
    show own_pc c ++ [] = _
    rw [List.append_nil, own_pc7 h.1 h1]
  · rw [if_neg h1, if_neg h1]
    by_cases h2 : c < (2048 : Int32)
    · rw [if_pos h2, if_pos h2]
      show own_pc _ ++ (own_pc _ ++ []) = _
      rw [List.append_nil, own_pcE (own_b2F h h2), own_pcE (own_blF c)]
    · rw [if_neg h2, if_neg h2]
      show own_pc _ ++ (own_pc _ ++ (own_pc _ ++ [])) = _
      rw [List.append_nil, own_pcE (own_b3F h), own_pcE (own_bmF c), own_pcE (own_blF c), List.append_assoc]
theorem own_encsU : ∀ cs : List Int32, (∀ c ∈ cs, ¬ c < 0 ∧ ¬ (65535 : Int32) < c) → own_pcs (own_u8s cs) = own_encs cs
  | [], _ => rfl
  | c :: cs, h => by
    show own_pcs (own_u8 c ++ own_u8s cs) = own_enc c ++ own_encs cs
    rw [own_pcsA, own_encU (h c List.mem_cons_self), own_encsU cs (fun d hd => h d (List.mem_cons_of_mem _ hd))]
theorem own_ixy {cs : List Int32} {r ch : Int32} (h : (¬ r < 0 ∧ ch ∈ cs) ∨ (r < 0 ∧ ¬ ch ∈ cs)) (q : ¬ r < 0) : ch ∈ cs := h.elim (fun z => z.2) fun z => absurd z.1 q
theorem own_ixn {cs : List Int32} {r ch : Int32} (h : (¬ r < 0 ∧ ch ∈ cs) ∨ (r < 0 ∧ ¬ ch ∈ cs)) (q : r < 0) : ¬ ch ∈ cs := h.elim (fun z => absurd q z.1) fun z => z.2
theorem own_pl {a b v : Addr} {n : Nat} (h : a = v ∨ n ≤ a) : a ∈ [b, v] ∨ n ≤ a := h.imp (fun q => by rw [q]; simp) id
theorem own_laD : ∀ c ∈ own_DL, ¬ (255 : Int32) < c := by decide
theorem own_okD : own_Ok own_DL := ⟨by decide, Nat.le_of_ble_eq_true rfl⟩
abbrev kq17_3 := prog_17_method_3_code
theorem dq17_3_28:Dk kq17_3 28 (.aload_n 1) 1:=kk
theorem dq17_3_29:Dk kq17_3 29 (.bipush 47) 2:=kk
theorem dq17_3_31:Dk kq17_3 31 (.invokevirtual 49) 3:=kk
theorem dq17_3_34:Dk kq17_3 34 (.pop) 1:=kk
theorem dq17_3_35:Dk kq17_3 35 (.aload 5) 2:=kk
theorem dq17_3_37:Dk kq17_3 37 (.getstatic 53) 3:=kk
theorem dq17_3_40:Dk kq17_3 40 (.invokevirtual 59) 3:=kk
theorem pd_37 : parseMethodDescriptor "(Ljava/nio/charset/Charset;)[B" = some ⟨[(.object "java/nio/charset/Charset")], some (.array .byte)⟩ := by decide +kernel
theorem dq17_3_43:Dk kq17_3 43 (.astore 6) 2:=kk
theorem dq17_3_45:Dk kq17_3 45 (.aload 6) 2:=kk
theorem dq17_3_47:Dk kq17_3 47 (.arraylength) 1:=kk
theorem dq17_3_48:Dk kq17_3 48 (.istore 7) 2:=kk
theorem dq17_3_50:Dk kq17_3 50 (.iconst 0) 1:=kk
theorem dq17_3_51:Dk kq17_3 51 (.istore 8) 2:=kk
theorem own_ct0 (as bs : List Int32) : as = as ++ own_pcs (bs.take 0) := (List.append_nil as).symm
theorem dq17_3_53:Dk kq17_3 53 (.iload 8) 2:=kk
theorem dq17_3_55:Dk kq17_3 55 (.iload 7) 2:=kk
theorem dq17_3_57:Dk kq17_3 57 (.if_icmp .ge 112) 3:=kk
theorem dq17_3_60:Dk kq17_3 60 (.aload 6) 2:=kk
theorem dq17_3_62:Dk kq17_3 62 (.iload 8) 2:=kk
theorem dq17_3_64:Dk kq17_3 64 (.baload) 1:=kk
theorem dq17_3_65:Dk kq17_3 65 (.istore 9) 2:=kk
theorem dq17_3_119:Dk kq17_3 119 (.aload_n 1) 1:=kk
theorem dq17_3_120:Dk kq17_3 120 (.iload 9) 2:=kk
theorem dq17_3_122:Dk kq17_3 122 (.i2c) 1:=kk
theorem dq17_3_123:Dk kq17_3 123 (.invokevirtual 49) 3:=kk
theorem dq17_3_126:Dk kq17_3 126 (.pop) 1:=kk
theorem dq17_3_127:Dk kq17_3 127 (.goto 36) 3:=kk
theorem dq17_3_163:Dk kq17_3 163 (.iinc 8 1) 3:=kk
theorem dq17_3_166:Dk kq17_3 166 (.goto (-113)) 3:=kk
theorem dq17_3_109:Dk kq17_3 109 (.ldc 63) 2:=kk
theorem dq17_3_111:Dk kq17_3 111 (.iload 9) 2:=kk
theorem dq17_3_113:Dk kq17_3 113 (.invokevirtual 65) 3:=kk
theorem dq17_3_116:Dk kq17_3 116 (.ifCond .lt 14) 3:=kk
theorem dq17_3_130:Dk kq17_3 130 (.aload_n 1) 1:=kk
theorem dq17_3_131:Dk kq17_3 131 (.bipush 37) 2:=kk
theorem dq17_3_133:Dk kq17_3 133 (.invokevirtual 49) 3:=kk
theorem dq17_3_136:Dk kq17_3 136 (.getstatic 69) 3:=kk
theorem dq17_3_139:Dk kq17_3 139 (.iload 9) 2:=kk
theorem dq17_3_141:Dk kq17_3 141 (.iconst 4) 1:=kk
theorem dq17_3_142:Dk kq17_3 142 (.ishr) 1:=kk
theorem dq17_3_143:Dk kq17_3 143 (.bipush 15) 2:=kk
theorem dq17_3_145:Dk kq17_3 145 (.iand) 1:=kk
theorem dq17_3_146:Dk kq17_3 146 (.caload) 1:=kk
theorem dq17_3_147:Dk kq17_3 147 (.invokevirtual 49) 3:=kk
theorem dq17_3_150:Dk kq17_3 150 (.getstatic 69) 3:=kk
theorem dq17_3_153:Dk kq17_3 153 (.iload 9) 2:=kk
theorem dq17_3_155:Dk kq17_3 155 (.bipush 15) 2:=kk
theorem dq17_3_157:Dk kq17_3 157 (.iand) 1:=kk
theorem dq17_3_158:Dk kq17_3 158 (.caload) 1:=kk
theorem dq17_3_159:Dk kq17_3 159 (.invokevirtual 49) 3:=kk
theorem dq17_3_162:Dk kq17_3 162 (.pop) 1:=kk
theorem dq17_3_95:Dk kq17_3 95 (.iload 9) 2:=kk
theorem dq17_3_97:Dk kq17_3 97 (.bipush 48) 2:=kk
theorem dq17_3_99:Dk kq17_3 99 (.if_icmp .lt 10) 3:=kk
theorem dq17_3_102:Dk kq17_3 102 (.iload 9) 2:=kk
theorem dq17_3_104:Dk kq17_3 104 (.bipush 57) 2:=kk
theorem dq17_3_106:Dk kq17_3 106 (.if_icmp .le 13) 3:=kk
theorem dq17_3_81:Dk kq17_3 81 (.iload 9) 2:=kk
theorem dq17_3_83:Dk kq17_3 83 (.bipush 65) 2:=kk
theorem dq17_3_85:Dk kq17_3 85 (.if_icmp .lt 10) 3:=kk
theorem dq17_3_88:Dk kq17_3 88 (.iload 9) 2:=kk
theorem dq17_3_90:Dk kq17_3 90 (.bipush 90) 2:=kk
theorem dq17_3_92:Dk kq17_3 92 (.if_icmp .le 27) 3:=kk
theorem dq17_3_67:Dk kq17_3 67 (.iload 9) 2:=kk
theorem dq17_3_69:Dk kq17_3 69 (.bipush 97) 2:=kk
theorem dq17_3_71:Dk kq17_3 71 (.if_icmp .lt 10) 3:=kk
theorem dq17_3_74:Dk kq17_3 74 (.iload 9) 2:=kk
theorem dq17_3_76:Dk kq17_3 76 (.bipush 122) 2:=kk
theorem dq17_3_78:Dk kq17_3 78 (.if_icmp .le 41) 3:=kk
theorem pn_11 : plainName "com/example/cohortwise/cohortwise/http/Requests" = true := by first | (simp [plainName, overriddenIn]; done) | decide +kernel
set_option maxRecDepth 65536 in
set_option maxHeartbeats 40000000 in
theorem rm_psg (l : Launch) (Z : State) (a0 : Array Value) (hw : ∀ d ∈ tables_1, d.before a0 Z = true) (b v : Addr) (kv : ClassId) (M : Nat) (cs : List Int32) (x t : Addr) (kt : ClassId) (sg : List Int32) (cx Nx : Int32) (vx : List Value) (hA : Addr) (kh : ClassId) (u8 : Addr) (ar : Value) (nn jj : Int32) (t6 t7 t8 t9 : Slot) (G1 : Int32) (G3 : Value) (h0 : Heap) (n0 : Nat) {p : Program} {e : Env} {R : Room} {s : State} {vm0 : Vm} {m : MethodId} {args : Array Value} {below : List Frame} {meth : Method} {cC : Code} {T0 : State} {locs : List Loc} {cB sB rs : Nat} (X0 : Stand p l e R (s.setVm vm0) m args below meth cC T0 locs (cB + own_cM M + 2 * rs) (sB + own_sC M + 20 * rs)) (hx : p.tables.exec = Jvm.exec) (hby : cC.code = prog_17_method_3_code) (hml : cC.maxLocals = 10) (hown : (s.setVm vm0).vm.findClass "com/example/cohortwise/cohortwise/http/Requests" = some m.cls) (hZ : Z.Warmed39 (s.setVm vm0).vm) (e0 : T0.heap = h0) (N0 : Fr n0 locs) (Z0 : n0 ≤ h0.size) (O1 : Old Z n0 h0) {k0 : Nat} (hS0 : s.Since vm0 k0) (hk0 : k0 ≤ h0.size) (hCv : CHv Z own_EL vm0 h0) (E_b : Exa Z h0 b "java/lang/StringBuilder") (Fv_b : Fld Z h0 b "java/lang/AbstractStringBuilder" "value" "[B" (.ref v)) (Fc_b : Fld Z h0 b "java/lang/AbstractStringBuilder" "coder" "B" (.int (0 : Int32))) (Fn_b : Fld Z h0 b "java/lang/AbstractStringBuilder" "count" "I" (.int (Int32.ofNat cs.length))) (V_v : Arv Z h0 v kv .byte (Int32.ofNat M) (own_sM M cs) (.int (0 : Int32))) (X_v : Exa Z h0 v "[B") (SF_v : Safe Z own_EL vm0 h0 v) (SF_b : Safe Z own_EL vm0 h0 b) (E_x : Exa Z h0 x "java/lang/String") (Fv_x : Fld Z h0 x "java/lang/String" "value" "[B" (.ref t)) (Fc_x : Fld Z h0 x "java/lang/String" "coder" "B" (.int cx)) (V_t : Arv Z h0 t kt .byte Nx vx (.int (0 : Int32))) (X_t : Exa Z h0 t "[B") (V_h : Arv Z h0 hA kh .char (16 : Int32) (own_HEX.map Value.int) (.int (0 : Int32))) (O2 : Sta Z Z.heap "java/lang/String" "COMPACT_STRINGS" "Z" (.int G1)) (P5 : ¬ (G1 = (0 : Int32))) (O4 : Sta Z Z.heap "jdk/internal/util/Preconditions" "SIOOBE_FORMATTER" "Ljava/util/function/BiFunction;" G3) (rG3 : G3.isRef = true) (OA : Sta Z Z.heap "java/lang/StringUTF16" "$assertionsDisabled" "Z" (.int (1 : Int32))) (OH : Sta Z Z.heap "java/lang/StringUTF16" "HI_BYTE_SHIFT" "I" (.int (0 : Int32))) (OL : Sta Z Z.heap "java/lang/StringUTF16" "LO_BYTE_SHIFT" "I" (.int (8 : Int32))) (OU : Sta Z Z.heap "sun/nio/cs/UTF_8" "INSTANCE" "Lsun/nio/cs/UTF_8;" (.ref u8)) (OS : Sta Z Z.heap "java/nio/charset/StandardCharsets" "UTF_8" "Ljava/nio/charset/Charset;" (.ref u8)) (OX : Sta Z Z.heap "com/example/cohortwise/cohortwise/http/Requests" "HEX" "[C" (.ref hA)) (hall : ∀ c ∈ cs, ¬ (255 : Int32) < c) (hok : own_Ok cs) (hM : cs.length ≤ M ∧ M ≤ 70) (g_b : n0 ≤ b) (g_v : n0 ≤ v) (hM3 : M = 16 ∨ M = 34 ∨ M = 70) (hCx : StrChars.Road.CodA sg cx Nx vx) (hsok : own_Ok sg) (hs2 : sg.length ≤ 2) (hsn : ∀ c ∈ sg, c < (55296 : Int32) ∨ (57343 : Int32) < c) (hxb : x ≠ b) (hxv : x ≠ v) (htb : t ≠ b) (htv : t ≠ v) (hAb : hA ≠ b) (hAv : hA ≠ v) (hR : own_Rs s vm0 rs) (hcl : cs.length + 19 ≤ 70) (rar : ar.isRef = true) (ht6 : (t6 = .unset ∨ ∃ w, t6 = .val w ∧ w.category = 1)) (ht7 : (t7 = .unset ∨ ∃ w, t7 = .val w ∧ w.category = 1)) (ht8 : (t8 = .unset ∨ ∃ w, t8 = .val w ∧ w.category = 1)) (ht9 : (t9 = .unset ∨ ∃ w, t9 = .val w ∧ w.category = 1)) (hfr : 6 ≤ R.frames) (hlo : 99 ≤ R.locals) (hRc : cB + 2 + 4 ≤ R.cells) (hRs : sB + 12 + 140 + 20 ≤ R.slots) {G : Outcome → State → Prop} (kont : ∀ (T1 : State) (locs1 : List Loc) (h2 : Heap) (vm1 : Vm) (k1 : Nat) (v1 : Addr) (kv1 : ClassId) (M1 rs1 : Nat) (s6 s7 s8 s9 : Slot), Stand p l e R (s.setVm vm1) m args below meth cC T1 locs1 (cB + 2 + own_cM M1 + 2 * rs1) (sB + 12 + own_sC M1 + 20 * rs1) → T1.heap = h2 → Fr n0 locs1 → Old Z n0 h2 → Keep h0 h2 [b, v] → CHr Z own_EL vm0 h0 vm1 h2 → s.Since vm1 k1 → k1 ≤ h2.size → Z.Warmed39 (s.setVm vm1).vm → (s.setVm vm1).vm.findClass "com/example/cohortwise/cohortwise/http/Requests" = some m.cls → (v1 = v ∨ h0.size ≤ v1) → Safe Z own_EL vm1 h2 v1 → Fld Z h2 b "java/lang/AbstractStringBuilder" "value" "[B" (.ref v1) → Fld Z h2 b "java/lang/AbstractStringBuilder" "coder" "B" (.int (0 : Int32)) → Fld Z h2 b "java/lang/AbstractStringBuilder" "count" "I" (.int (Int32.ofNat ((cs ++ [(47 : Int32)]) ++ own_pcs (own_u8s sg)).length)) → Arv Z h2 v1 kv1 .byte (Int32.ofNat M1) (own_sM M1 ((cs ++ [(47 : Int32)]) ++ own_pcs (own_u8s sg))) (.int (0 : Int32)) → Exa Z h2 v1 "[B" → own_Rs s vm1 rs1 → (M1 = 16 ∨ M1 = 34 ∨ M1 = 70) → ((cs ++ [(47 : Int32)]) ++ own_pcs (own_u8s sg)).length ≤ M1 → (∃ w, s6 = .val w ∧ w.category = 1) → (∃ w, s7 = .val w ∧ w.category = 1) → (∃ w, s8 = .val w ∧ w.category = 1) → (s9 = .unset ∨ ∃ w, s9 = .val w ∧ w.category = 1) → own_Go p e below (T1.setTop (mkF m 169 #[.val ar, rv b, .val ar, iv nn, iv jj, rv x, s6, s7, s8, s9] [])) G) :
    own_Go p e below (T0.setTop (mkF m 28 #[.val ar, rv b, .val ar, iv nn, iv jj, rv x, t6, t7, t8, t9] [])) G := by
  have own_wS := own_wSt hw
  have own_hEL := own_hELt hw
  have C0 : CHr Z own_EL vm0 h0 vm0 h0 := CHr.refl hCv
  obtain ⟨hcM, hM34⟩ := hM
  have hlen : cs.length ≤ 4000 := hok.2
  have hbv := Exa.neArv E_b V_v (tw hw 37 rfl)
  have hrs1 : rs ≤ 1 := by rcases hR with q | q <;> omega
  have hcm0 : own_cM M ≤ 2 ∧ own_sC M ≤ 140 := by rcases hM3 with rfl | rfl | rfl <;> decide
  refine wa X0 hx hby 28 dq17_3_28 rfl rfl ?_
  refine wp X0 hx hby 29 dq17_3_29 ?_
  obtain ⟨T450, Lx450, v450, kv450, M450, c450, s450, X450, hcm450, hsm450, Nq450, K450, hor_v450, Fv450, Fc450, Fn450, Vv450, Xv450, hM3450, hcl450, st450⟩ := rm_apX l Z a0 hw b v kv M cs (47 : Int32) G1 G3 h0 n0 X0 hx hown hZ e0 N0 O1 O2 P5 O4 rG3 OA OH OL E_b Fv_b Fc_b Fn_b V_v X_v hall hok (And.intro hcM hM34) g_b g_v hM3 (by decide : ¬ (47 : Int32) < 0 ∧ ¬ (255 : Int32) < (47 : Int32)) (by omega) (pc := 31) (ls := #[.val ar, rv b, .val ar, iv nn, iv jj, rv x, t6, t7, t8, t9]) (by rw [hml]; rfl) (hb hby dq17_3_31) (by omega) (by omega) own_b own_b
  refine own_go st450 ?_
  have gv450 : n0 ≤ v450 := hor_v450.elim (fun q => q ▸ g_v) (fun q => Nat.le_trans (Nat.le_trans Z0 (Keep.refl h0 [b, v]).1) q)
  have hoz450 : v450 = v ∨ h0.size ≤ v450 := hor_v450.elim (fun q => q ▸ (Or.inl rfl)) (fun q => Or.inr (Nat.le_trans (Keep.refl h0 [b, v]).1 q))
  have sfv450 : Safe Z own_EL vm0 h0 v450 := hor_v450.elim (fun q => q ▸ SF_v) (fun q => Safe.new q)
  have nx_v450 : x ≠ v450 := hor_v450.elim (fun q => q ▸ hxv) (fun q => Nat.ne_of_lt (Nat.lt_of_lt_of_le E_x.lt q))
  have nt_v450 : t ≠ v450 := hor_v450.elim (fun q => q ▸ htv) (fun q => Nat.ne_of_lt (Nat.lt_of_lt_of_le V_t.lt q))
  have nhA_v450 : hA ≠ v450 := hor_v450.elim (fun q => q ▸ hAv) (fun q => Nat.ne_of_lt (Nat.lt_of_lt_of_le V_h.lt q))
  have C451 := C0.trans (CHr.keep K450 (sfS SF_b (sfS SF_v sf0)) C0.1)
  have N450 := Fr.app N0 Nq450
  have hal450 := own_allA hall (bs := [(47 : Int32)]) (fun c hc => by rw [List.mem_singleton.mp hc]; exact (by decide : ¬ (47 : Int32) < 0 ∧ ¬ (255 : Int32) < (47 : Int32)).2)
  have hok450 := own_okAp hok (bs := [(47 : Int32)]) (fun c hc => by rw [List.mem_singleton.mp hc]; exact (by decide : ¬ (47 : Int32) < 0 ∧ ¬ (255 : Int32) < (47 : Int32))) (by have := hok.2; show _ + 1 ≤ 4000; omega)
  have hMm450 : M450 ≤ 70 := by rcases hM3450 with q | q | q <;> omega
  have hcq450 : own_cM M450 ≤ 2 ∧ own_sC M450 ≤ 140 := by rcases hM3450 with q | q | q <;> (rw [q]; decide)
  have nb_v450 := Exa.neArv (E_b.keep K450) Vv450 (tw hw 37 rfl)
  refine og (fun _ k => XS.pop X450.here hx rfl (hb hby dq17_3_34) rfl rfl k) ?_
  try dsimp only [mkF]
  refine wb X450 hx hby 35 dq17_3_35 rfl rfl ?_
  have f452 := (O1.keep K450 (allS g_b (allS g_v all0)))
  obtain ⟨T453, X453, e453, st453⟩ := getS2 X450 hx hZ hown (host := "") (Or.inl (tw hw 146 rfl)) Via.refl (rfl : T450.heap = T450.heap) (OS.ext f452.2) (g := (mkF m 37 #[.val ar, rv b, .val ar, iv nn, iv jj, rv x, t6, t7, t8, t9] [(.ref x)])) rfl (hb hby dq17_3_37)
  refine own_go st453 ?_
  have f454 := (Fv_x.keep K450 (ninS hxb (ninS hxv nin0)))
  have f455 := (Fc_x.keep K450 (ninS hxb (ninS hxv nin0)))
  have f456 := (V_t.keep K450 (ninS htb (ninS htv nin0)))
  obtain ⟨cq457, kq457, q457a, q457b, q457c⟩ := isOf hZ e453 (E_x.keep K450)
  obtain ⟨v457, _, ⟨T457, L457, k457, n457⟩, -, X457, ⟨Lc457, hQ457, l457, y457, z457⟩, st457⟩ := X453.virtualBack hx (y := (⟨"java/lang/String", "getBytes", "(Ljava/nio/charset/Charset;)[B"⟩ : MethodName)) (z := (⟨"java/lang/String", "getBytes", "(Ljava/nio/charset/Charset;)[B"⟩ : MethodName)) hown (mvT hZ (tw hw 148 rfl)) (mvT hZ (tw hw 149 rfl)) (notFace_of_selects (args := #[]) (mvT hZ (tw hw 151 rfl))) (mvT hZ (tw hw 151 rfl)) (mvT hZ (tw hw 150 rfl)) own_b (backOf (W := 0) (rm_gby l Z a0 hw [] x t kt sg cx Nx vx G1 u8 T450.heap n0 f452 OA OH OL OU O2 P5 (E_x.keep K450) f454 f455 f456 (X_t.keep K450) hCx hsok hs2 hsn) hZ (tw hw 152 rfl) (tw hw 11 rfl) own_b own_b) q457a q457c (g := (mkF m 40 #[.val ar, rv b, .val ar, iv nn, iv jj, rv x, t6, t7, t8, t9] [(.ref u8), (.ref x)])) rfl (by rw [hml]; rfl) (Steps.refl _) (argsL := [(.ref u8)]) (rest := []) (lenOf pd_37 rfl) rfl (by show 2 * 0 + _ ≤ _; exact Nat.le_of_eq rfl) (hb hby dq17_3_40) (fun _ _ => ⟨rfl, e453, own_b, own_b⟩)
  dsimp only [Pt.U, Pt.locs, Pt.cells, Pt.slots] at X457 l457 y457 z457 st457 hQ457
  subst l457 y457 z457
  refine own_gos st457 ?_
  obtain ⟨t457, kt457, rfl, Nq457, K457, tg457, Vt457, Xt457⟩ := hQ457
  have C458 := C451.trans (CHr.keep K457 sf0 C451.1)
  have N457 := Fr.app N450 Nq457
  refine og (fun _ k => XS.astoreS X457.here hx rfl (hb hby dq17_3_43) rfl rfl rfl rfl ht6 k) ?_
  refine wb X457 hx hby 45 dq17_3_45 rfl rfl ?_
  try dsimp only [mkF]
  obtain ⟨c459, A459, q459, S459, M459, Hs459, Gs459⟩ := id Vt457
  refine og (fun _ k => X457.arraylength hx (by rw [(rfl : T457.heap = T457.heap)]; exact A459.1) (State.isArrayOf_alike hZ.alike A459.2.1) (g := (mkF m 47 #[.val ar, rv b, .val ar, iv nn, iv jj, rv x, rv t457, t7, t8, t9] [(.ref t457)])) rfl rfl (hb hby dq17_3_47) _ k) ?_
  rw [len_of S459 M459]
  refine og (fun _ k => XS.istoreS X457.here hx rfl (hb hby dq17_3_48) rfl rfl ht7 k) ?_
  refine wc X457 hx hby 50 dq17_3_50 ?_
  refine og (fun _ k => XS.istoreS X457.here hx rfl (hb hby dq17_3_51) rfl rfl ht8 k) ?_
  have ne460 : v450 ≠ t457 := Nat.ne_of_lt (Nat.lt_of_lt_of_le Vv450.lt tg457)
  have ne462 : hA ≠ t457 := Nat.ne_of_lt (Nat.lt_of_lt_of_le (Nat.lt_of_lt_of_le V_h.lt K450.1) tg457)
  have ne463 : b ≠ t457 := Nat.ne_of_lt (Nat.lt_of_lt_of_le (Nat.lt_of_lt_of_le E_b.lt K450.1) tg457)
  have loop : ∀ (kT iloop : Nat) (vb : Addr) (kvb : ClassId) (Mb : Nat) (rb : Nat) (s9 : Slot) (vmL : Vm) (k0L : Nat) (T : State) (locs : List Loc) (h : Heap), iloop + kT = (own_u8s sg).length → Stand p l e R (s.setVm vmL) m args below meth cC T locs (cB + 2 + own_cM Mb + 2 * rb) (sB + 12 + own_sC Mb + 20 * rb) → T.heap = h → Fr n0 locs → Old Z n0 h → Keep h0 h [b, v] → CHr Z own_EL vm0 h0 vmL h → k0L ≤ h.size → s.Since vmL k0L → Z.Warmed39 (s.setVm vmL).vm → (s.setVm vmL).vm.findClass "com/example/cohortwise/cohortwise/http/Requests" = some m.cls → Exa Z h b "java/lang/StringBuilder" → Fld Z h b "java/lang/AbstractStringBuilder" "value" "[B" (.ref vb) → Fld Z h b "java/lang/AbstractStringBuilder" "coder" "B" (.int (0 : Int32)) → Fld Z h b "java/lang/AbstractStringBuilder" "count" "I" (.int (Int32.ofNat ((cs ++ [(47 : Int32)]) ++ own_pcs ((own_u8s sg).take iloop)).length)) → Arv Z h vb kvb .byte (Int32.ofNat Mb) (own_sM Mb ((cs ++ [(47 : Int32)]) ++ own_pcs ((own_u8s sg).take iloop))) (.int (0 : Int32)) → Exa Z h vb "[B" → Safe Z own_EL vmL h vb → Safe Z own_EL vmL h b → Arv Z h t457 kt457 .byte (Int32.ofNat (own_u8s sg).length) ((own_u8s sg).map Value.int) (.int (0 : Int32)) → Arv Z h hA kh .char (16 : Int32) (own_HEX.map Value.int) (.int (0 : Int32)) → (Mb = 16 ∨ Mb = 34 ∨ Mb = 70) → (((cs ++ [(47 : Int32)]) ++ own_pcs ((own_u8s sg).take iloop)).length ≤ Mb) → (n0 ≤ vb) → (vb = v ∨ h0.size ≤ vb) → (own_Rs s vmL rb) → (hA ≠ vb) → (t457 ≠ vb) → ((s9 = .unset ∨ ∃ w, s9 = .val w ∧ w.category = 1)) → own_Go p e below (T.setTop (mkF m 53 #[.val ar, rv b, .val ar, iv nn, iv jj, rv x, rv t457, iv (Int32.ofNat (own_u8s sg).length), iv (Int32.ofNat iloop), s9] [])) G := by
    intro kT
    induction kT with
    | zero =>
      intro iloop vb kvb Mb rb s9 vm464 k0464 T464 L464 h464 hik X464 e464 N464 O464 K464 C464 hk464 hS464 hZ464 hown464 J0_464 J1_464 J2_464 J3_464 J4_464 J5_464 J6_464 J7_464 J8_464 J9_464 hM3l hcMl gvb hozl hRl nab ntb hs9
      have Z0_464 : n0 ≤ h464.size := O464.1 ▸ O464.2.1
      have hbl := own_u8l3 sg
      have hpl := own_pcsl ((own_u8s sg).take iloop)
      rw [own_tkl (by omega)] at hpl
      have hrb1 : rb ≤ 1 := by rcases hRl with q | q <;> omega
      have hcmb : own_cM Mb ≤ 2 ∧ own_sC Mb ≤ 140 := by rcases hM3l with rfl | rfl | rfl <;> decide
      have hctl : ((cs ++ [(47 : Int32)]) ++ own_pcs ((own_u8s sg).take iloop)).length ≤ cs.length + 1 + 3 * iloop := by rw [List.length_append, List.length_append]; show cs.length + 1 + _ ≤ _; omega
      have halb := own_allA (own_allA hall (bs := [(47 : Int32)]) (fun c hc => by rw [List.mem_singleton.mp hc]; decide)) (fun c hc => (own_pcsb ((own_u8s sg).take iloop) c hc).2)
      have hokb := own_okAp (own_okAp hok (bs := [(47 : Int32)]) (fun c hc => by rw [List.mem_singleton.mp hc]; decide) (by show _ + 1 ≤ 4000; omega)) (own_pcsb ((own_u8s sg).take iloop)) (by rw [List.length_append]; show _ + 1 + _ ≤ 4000; omega)
      have hMb : Mb ≤ 70 := by rcases hM3l with q | q | q <;> omega
      have nbvb := Exa.neArv J0_464 J4_464 (tw hw 37 rfl)
      have hin : iloop = (own_u8s sg).length := by omega
      have hlt : ¬ ((Int32.ofNat iloop) < (Int32.ofNat (own_u8s sg).length)) := by rw [own_lti (by omega) (by omega)]; omega
      try dsimp only [mkF]
      refine wm X464 hx hby 53 dq17_3_53 rfl ?_
      refine wm X464 hx hby 55 dq17_3_55 rfl ?_
      refine wy X464 hx hby 57 169 dq17_3_57 (flt hlt).2.1 ?_
      show own_Go p e below (T464.setTop (mkF m 169 #[.val ar, rv b, .val ar, iv nn, iv jj, rv x, rv t457, iv (Int32.ofNat (own_u8s sg).length), iv (Int32.ofNat iloop), s9] [])) _
      have ect : ((cs ++ [(47 : Int32)]) ++ own_pcs ((own_u8s sg).take iloop)) = ((cs ++ [(47 : Int32)]) ++ own_pcs (own_u8s sg)) := by rw [hin, List.take_length]
      exact kont _ _ _ _ _ vb kvb Mb rb (rv t457) (iv (Int32.ofNat (own_u8s sg).length)) (iv (Int32.ofNat iloop)) s9 (X464.loosen own_b own_b) e464 N464 O464 K464 C464 hS464 hk464 hZ464 hown464 hozl J6_464 J1_464 J2_464 (ect ▸ J3_464) (ect ▸ J4_464) J5_464 hRl hM3l (ect ▸ (And.intro hcMl hMb).1) ⟨_, rfl, rfl⟩ ⟨_, rfl, rfl⟩ ⟨_, rfl, rfl⟩ hs9
    | succ kT ih =>
      intro iloop vb kvb Mb rb s9 vm465 k0465 T465 L465 h465 hik X465 e465 N465 O465 K465 C465 hk465 hS465 hZ465 hown465 J0_465 J1_465 J2_465 J3_465 J4_465 J5_465 J6_465 J7_465 J8_465 J9_465 hM3l hcMl gvb hozl hRl nab ntb hs9
      have Z0_465 : n0 ≤ h465.size := O465.1 ▸ O465.2.1
      have hbl := own_u8l3 sg
      have hpl := own_pcsl ((own_u8s sg).take iloop)
      rw [own_tkl (by omega)] at hpl
      have hrb1 : rb ≤ 1 := by rcases hRl with q | q <;> omega
      have hcmb : own_cM Mb ≤ 2 ∧ own_sC Mb ≤ 140 := by rcases hM3l with rfl | rfl | rfl <;> decide
      have hctl : ((cs ++ [(47 : Int32)]) ++ own_pcs ((own_u8s sg).take iloop)).length ≤ cs.length + 1 + 3 * iloop := by rw [List.length_append, List.length_append]; show cs.length + 1 + _ ≤ _; omega
      have halb := own_allA (own_allA hall (bs := [(47 : Int32)]) (fun c hc => by rw [List.mem_singleton.mp hc]; decide)) (fun c hc => (own_pcsb ((own_u8s sg).take iloop) c hc).2)
      have hokb := own_okAp (own_okAp hok (bs := [(47 : Int32)]) (fun c hc => by rw [List.mem_singleton.mp hc]; decide) (by show _ + 1 ≤ 4000; omega)) (own_pcsb ((own_u8s sg).take iloop)) (by rw [List.length_append]; show _ + 1 + _ ≤ 4000; omega)
      have hMb : Mb ≤ 70 := by rcases hM3l with q | q | q <;> omega
      have nbvb := Exa.neArv J0_465 J4_465 (tw hw 37 rfl)
      have hi : iloop < (own_u8s sg).length := by omega
      have hlt : (Int32.ofNat iloop) < (Int32.ofNat (own_u8s sg).length) := (own_lti (by omega) (by omega)).mpr hi
      try dsimp only [mkF]
      refine wm X465 hx hby 53 dq17_3_53 rfl ?_
      refine wm X465 hx hby 55 dq17_3_55 rfl ?_
      refine wn X465 hx hby 57 dq17_3_57 (tlt hlt).2.1 ?_
      refine wb X465 hx hby 60 dq17_3_60 rfl rfl ?_
      refine wm X465 hx hby 62 dq17_3_62 rfl ?_
      try dsimp only [mkF]
      obtain ⟨c466, A466, q466, S466, M466, Hs466, Gs466⟩ := id J8_465
      have hi466 := inb_of (j := (Int32.ofNat iloop)) S466 (own_inb hi (by omega))
      refine og (fun _ k => X465.baloadBytes hx (j := (Int32.ofNat iloop)) (v := (.int ((own_u8s sg).getD iloop 0))) (by rw [e465]; exact A466.1) (State.isArrayOf_alike hZ465.alike A466.2.1) A466.2.2 hi466 (Has.at Hs466 hi466 (own_gd rfl hi (by omega))) (g := (mkF m 64 #[.val ar, rv b, .val ar, iv nn, iv jj, rv x, rv t457, iv (Int32.ofNat (own_u8s sg).length), iv (Int32.ofNat iloop), s9] [(.int (Int32.ofNat iloop)), (.ref t457)])) rfl rfl (hb hby dq17_3_64) _ k) ?_
      refine og (fun _ k => XS.istoreS X465.here hx rfl (hb hby dq17_3_65) rfl rfl hs9 k) ?_
      have j119 : ¬ own_un ((own_u8s sg).getD iloop 0) = 0 → own_Go p e below (T465.setTop (mkF m 119 #[.val ar, rv b, .val ar, iv nn, iv jj, rv x, rv t457, iv (Int32.ofNat (own_u8s sg).length), iv (Int32.ofNat iloop), iv ((own_u8s sg).getD iloop 0)] [])) G := by
        intro hun
        refine wa X465 hx hby 119 dq17_3_119 rfl rfl ?_
        refine wm X465 hx hby 120 dq17_3_120 rfl ?_
        try dsimp only [mkF]
        refine og (fun _ k => XS.i2c X465.here hx rfl (hb hby dq17_3_122) rfl k) ?_
        show own_Go p e below (T465.setTop (mkF m 123 #[.val ar, rv b, .val ar, iv nn, iv jj, rv x, rv t457, iv (Int32.ofNat (own_u8s sg).length), iv (Int32.ofNat iloop), iv ((own_u8s sg).getD iloop 0)] [(.int (((own_u8s sg).getD iloop 0).toUInt32.toUInt16.toUInt32.toInt32)), (.ref b)])) _
        rw [(show ((own_u8s sg).getD iloop 0).toUInt32.toUInt16.toUInt32.toInt32 = ((own_u8s sg).getD iloop 0) from own_nc (own_up7 (own_unB hun)).2.1 (own_up7 (own_unB hun)).2.2)]
        obtain ⟨T467, Lx467, v467, kv467, M467, c467, s467, X467, hcm467, hsm467, Nq467, K467, hor_v467, Fv467, Fc467, Fn467, Vv467, Xv467, hM3467, hcl467, st467⟩ := rm_apX l Z a0 hw b vb kvb Mb ((cs ++ [(47 : Int32)]) ++ own_pcs ((own_u8s sg).take iloop)) ((own_u8s sg).getD iloop 0) G1 G3 h465 n0 X465 hx hown465 hZ465 e465 N465 O465 O2 P5 O4 rG3 OA OH OL J0_465 J1_465 J2_465 J3_465 J4_465 J5_465 halb hokb (And.intro hcMl hMb) g_b gvb hM3l (own_up7 (own_unB hun)).1 (by omega) (pc := 123) (ls := #[.val ar, rv b, .val ar, iv nn, iv jj, rv x, rv t457, iv (Int32.ofNat (own_u8s sg).length), iv (Int32.ofNat iloop), iv ((own_u8s sg).getD iloop 0)]) (by rw [hml]; rfl) (hb hby dq17_3_123) (by omega) (by omega) own_b own_b
        refine own_go st467 ?_
        have gv467 : n0 ≤ v467 := hor_v467.elim (fun q => q ▸ gvb) (fun q => Nat.le_trans (Nat.le_trans Z0 K465.1) q)
        have hoz467 : v467 = v ∨ h0.size ≤ v467 := hor_v467.elim (fun q => q ▸ hozl) (fun q => Or.inr (Nat.le_trans K465.1 q))
        have sfv467 : Safe Z own_EL vm465 h465 v467 := hor_v467.elim (fun q => q ▸ J6_465) (fun q => Safe.new q)
        have nhA_v467 : hA ≠ v467 := hor_v467.elim (fun q => q ▸ nab) (fun q => Nat.ne_of_lt (Nat.lt_of_lt_of_le J9_465.lt q))
        have nt457_v467 : t457 ≠ v467 := hor_v467.elim (fun q => q ▸ ntb) (fun q => Nat.ne_of_lt (Nat.lt_of_lt_of_le J8_465.lt q))
        have C468 := C465.trans (CHr.keep K467 (sfS J7_465 (sfS J6_465 sf0)) C465.1)
        have N467 := Fr.app N465 Nq467
        have hal467 := own_allA halb (bs := [((own_u8s sg).getD iloop 0)]) (fun c hc => by rw [List.mem_singleton.mp hc]; exact (own_up7 (own_unB hun)).1.2)
        have hok467 := own_okAp hokb (bs := [((own_u8s sg).getD iloop 0)]) (fun c hc => by rw [List.mem_singleton.mp hc]; exact (own_up7 (own_unB hun)).1) (by have := hokb.2; show _ + 1 ≤ 4000; omega)
        have hMm467 : M467 ≤ 70 := by rcases hM3467 with q | q | q <;> omega
        have hcq467 : own_cM M467 ≤ 2 ∧ own_sC M467 ≤ 140 := by rcases hM3467 with q | q | q <;> (rw [q]; decide)
        have nb_v467 := Exa.neArv (J0_465.keep K467) Vv467 (tw hw 37 rfl)
        refine og (fun _ k => XS.pop X467.here hx rfl (hb hby dq17_3_126) rfl rfl k) ?_
        refine wg X467 hx hby 127 163 dq17_3_127 ?_
        try dsimp only [mkF]
        refine wi X467 hx hby 163 #[.val ar, rv b, .val ar, iv nn, iv jj, rv x, rv t457, iv (Int32.ofNat (own_u8s sg).length), iv ((Int32.ofNat iloop) + (1 : Int32)), iv ((own_u8s sg).getD iloop 0)] dq17_3_163 rfl rfl ?_
        refine wg X467 hx hby 166 53 dq17_3_166 ?_
        show own_Go p e below (T467.setTop (mkF m 53 #[.val ar, rv b, .val ar, iv nn, iv jj, rv x, rv t457, iv (Int32.ofNat (own_u8s sg).length), iv ((Int32.ofNat iloop) + (1 : Int32)), iv ((own_u8s sg).getD iloop 0)] [])) _
        have eqn : (((cs ++ [(47 : Int32)]) ++ own_pcs ((own_u8s sg).take iloop)) ++ [((own_u8s sg).getD iloop 0)]) = ((cs ++ [(47 : Int32)]) ++ own_pcs ((own_u8s sg).take (iloop + 1))) := by rw [own_pcst hi]; unfold own_pc; rw [if_neg hun]; simp
        rw [own_inc]
        have f469 := (Safe.keep K467 (sfS J7_465 (sfS J6_465 sf0)) C465.1 sfv467)
        have f470 := (Safe.keep K467 (sfS J7_465 (sfS J6_465 sf0)) C465.1 J7_465)
        have f471 := (J8_465.keep K467 (ninS (Ne.symm ne463) (ninS ntb nin0)))
        have f472 := (J9_465.keep K467 (ninS hAb (ninS nab nin0)))
        have f473 := (O465.keep K467 (allS g_b (allS gvb all0)))
        have f474 := (K465.trans K467 (allS (Or.inl (List.mem_of_getElem? (i := 0) rfl)) (allS (own_pl hozl) all0)))
        exact ih (iloop + 1) v467 kv467 M467 rb (iv ((own_u8s sg).getD iloop 0)) vm465 _ T467 _ T467.heap (by omega) (X467.loosen own_b own_b) (rfl : T467.heap = T467.heap) N467 f473 f474 C468 (Nat.le_trans hk465 K467.1) hS465 hZ465 hown465 (J0_465.keep K467) Fv467 Fc467 (eqn ▸ Fn467) (eqn ▸ Vv467) Xv467 f469 f470 f471 f472 hM3467 (eqn ▸ (And.intro hcl467 hMm467).1) gv467 hoz467 hRl nhA_v467 nt457_v467 (Or.inr ⟨_, rfl, rfl⟩)
      have j109 : own_un ((own_u8s sg).getD iloop 0) = own_u4 ((own_u8s sg).getD iloop 0) → own_Go p e below (T465.setTop (mkF m 109 #[.val ar, rv b, .val ar, iv nn, iv jj, rv x, rv t457, iv (Int32.ofNat (own_u8s sg).length), iv (Int32.ofNat iloop), iv ((own_u8s sg).getD iloop 0)] [])) G := by
        intro hu
        obtain ⟨aL475, T475, h475, vm475, k1475, b475, kb475, c475, s475, X475, hcr475, hsr475, e475, E475, hS475, hk475, hZ475, hown475, Ea475, Fc475, Fv475, Va475, A475, hR475, sf475, st475⟩ := rm_ldX l Z a0 hw X465 hx hown465 hZ465 e465 hS465 hk465 C465.1 hRl (g := (mkF m 109 #[.val ar, rv b, .val ar, iv nn, iv jj, rv x, rv t457, iv (Int32.ofNat (own_u8s sg).length), iv (Int32.ofNat iloop), iv ((own_u8s sg).getD iloop 0)] [])) rfl (hb hby dq17_3_109) own_b own_b
        refine own_go st475 ?_
        have C476 := C465.trans A475
        refine wm X475 hx hby 111 dq17_3_111 rfl ?_
        try dsimp only [mkF]
        obtain ⟨cq477, kq477, q477a, q477b, q477c⟩ := isOf hZ475 e475 Ea475
        obtain ⟨v477, _, ⟨T477, L477, k477, n477⟩, -, X477, ⟨Lc477, hQ477, l477, y477, z477⟩, st477⟩ := X475.virtualBack hx (y := (⟨"java/lang/String", "indexOf", "(I)I"⟩ : MethodName)) (z := (⟨"java/lang/String", "indexOf", "(I)I"⟩ : MethodName)) hown475 (mvT hZ475 (tw hw 186 rfl)) (mvT hZ475 (tw hw 187 rfl)) (notFace_of_selects (args := #[]) (mvT hZ475 (tw hw 189 rfl))) (mvT hZ475 (tw hw 189 rfl)) (mvT hZ475 (tw hw 188 rfl)) own_b (backOf (W := 0) (rm_si1 l Z a0 hw [] aL475 b475 kb475 own_DL ((own_u8s sg).getD iloop 0) G1 G3 h475 n0 (O465.ext E475) O2 P5 O4 rG3 OA OH OL Ea475 Fv475 Fc475 Va475 own_laD own_okD) hZ475 (tw hw 190 rfl) (tw hw 11 rfl) own_b own_b) q477a q477c (g := (mkF m 113 #[.val ar, rv b, .val ar, iv nn, iv jj, rv x, rv t457, iv (Int32.ofNat (own_u8s sg).length), iv (Int32.ofNat iloop), iv ((own_u8s sg).getD iloop 0)] [(.int ((own_u8s sg).getD iloop 0)), (.ref aL475)])) rfl (by rw [hml]; rfl) (Steps.refl _) (argsL := [(.int ((own_u8s sg).getD iloop 0))]) (rest := []) (lenOf pd_13 rfl) rfl (by show 2 * 0 + _ ≤ _; exact Nat.le_of_eq rfl) (hb hby dq17_3_113) (fun _ _ => ⟨rfl, e475, own_b, own_b⟩)
        dsimp only [Pt.U, Pt.locs, Pt.cells, Pt.slots] at X477 l477 y477 z477 st477 hQ477
        subst l477 y477 z477
        refine own_gos st477 ?_
        obtain ⟨r477, rfl, Nq477, e477, hr477⟩ := hQ477
        have N477 := Fr.app N465 Nq477
        by_cases hc478 : r477 < (0 : Int32)
        · skip
          refine wf X477 hx hby 116 130 dq17_3_116 ((if0 _ _).trans (tlt hc478).1) ?_
          have hun : own_un ((own_u8s sg).getD iloop 0) = 0 := by rw [hu]; exact own_u4n (own_ixn hr477 hc478)
          refine wa X477 hx hby 130 dq17_3_130 rfl rfl ?_
          refine wp X477 hx hby 131 dq17_3_131 ?_
          have f480 := (A475.safe J4_465.lt J6_465)
          obtain ⟨T479, Lx479, v479, kv479, M479, c479, s479, X479, hcm479, hsm479, Nq479, K479, hor_v479, Fv479, Fc479, Fn479, Vv479, Xv479, hM3479, hcl479, st479⟩ := rm_apX l Z a0 hw b vb kvb Mb ((cs ++ [(47 : Int32)]) ++ own_pcs ((own_u8s sg).take iloop)) (37 : Int32) G1 G3 h475 n0 X477 hx hown475 hZ475 e477 N477 (O465.ext E475) O2 P5 O4 rG3 OA OH OL (J0_465.ext E475) (J1_465.ext E475) (J2_465.ext E475) (J3_465.ext E475) (J4_465.ext E475) (J5_465.ext E475) halb hokb (And.intro hcMl hMb) g_b gvb hM3l (by decide : ¬ (37 : Int32) < 0 ∧ ¬ (255 : Int32) < (37 : Int32)) (by omega) (pc := 133) (ls := #[.val ar, rv b, .val ar, iv nn, iv jj, rv x, rv t457, iv (Int32.ofNat (own_u8s sg).length), iv (Int32.ofNat iloop), iv ((own_u8s sg).getD iloop 0)]) (by rw [hml]; rfl) (hb hby dq17_3_133) (by omega) (by omega) own_b own_b
          refine own_go st479 ?_
          have gv479 : n0 ≤ v479 := hor_v479.elim (fun q => q ▸ gvb) (fun q => Nat.le_trans (Nat.le_trans Z0 (K465.ext E475).1) q)
          have hoz479 : v479 = v ∨ h0.size ≤ v479 := hor_v479.elim (fun q => q ▸ hozl) (fun q => Or.inr (Nat.le_trans (K465.ext E475).1 q))
          have sfv479 : Safe Z own_EL vm475 h475 v479 := hor_v479.elim (fun q => q ▸ f480) (fun q => Safe.new q)
          have nhA_v479 : hA ≠ v479 := hor_v479.elim (fun q => q ▸ nab) (fun q => Nat.ne_of_lt (Nat.lt_of_lt_of_le (Nat.lt_of_lt_of_le J9_465.lt E475.1) q))
          have nt457_v479 : t457 ≠ v479 := hor_v479.elim (fun q => q ▸ ntb) (fun q => Nat.ne_of_lt (Nat.lt_of_lt_of_le (Nat.lt_of_lt_of_le J8_465.lt E475.1) q))
          have f481 := (A475.safe J0_465.lt J7_465)
          have C482 := C476.trans (CHr.keep K479 (sfS f481 (sfS f480 sf0)) C476.1)
          have N479 := Fr.app N477 Nq479
          have f483 := ((J0_465.ext E475).keep K479)
          have hal479 := own_allA halb (bs := [(37 : Int32)]) (fun c hc => by rw [List.mem_singleton.mp hc]; exact (by decide : ¬ (37 : Int32) < 0 ∧ ¬ (255 : Int32) < (37 : Int32)).2)
          have hok479 := own_okAp hokb (bs := [(37 : Int32)]) (fun c hc => by rw [List.mem_singleton.mp hc]; exact (by decide : ¬ (37 : Int32) < 0 ∧ ¬ (255 : Int32) < (37 : Int32))) (by have := hokb.2; show _ + 1 ≤ 4000; omega)
          have hMm479 : M479 ≤ 70 := by rcases hM3479 with q | q | q <;> omega
          have hcq479 : own_cM M479 ≤ 2 ∧ own_sC M479 ≤ 140 := by rcases hM3479 with q | q | q <;> (rw [q]; decide)
          have nb_v479 := Exa.neArv f483 Vv479 (tw hw 37 rfl)
          try dsimp only [mkF]
          have f484 := ((O465.ext E475).keep K479 (allS g_b (allS gvb all0)))
          obtain ⟨T485, X485, e485, st485⟩ := getS2 X479 hx hZ475 hown475 (host := "") (Or.inl (tw hw 208 rfl)) Via.refl (rfl : T479.heap = T479.heap) (OX.ext f484.2) (g := (mkF m 136 #[.val ar, rv b, .val ar, iv nn, iv jj, rv x, rv t457, iv (Int32.ofNat (own_u8s sg).length), iv (Int32.ofNat iloop), iv ((own_u8s sg).getD iloop 0)] [(.ref b)])) rfl (hb hby dq17_3_136)
          refine own_go st485 ?_
          refine wm X485 hx hby 139 dq17_3_139 rfl ?_
          refine wc X485 hx hby 141 dq17_3_141 ?_
          refine og (fun _ k => XS.ishr X485.here hx rfl (hb hby dq17_3_142) rfl k) ?_
          refine wp X485 hx hby 143 dq17_3_143 ?_
          try dsimp only [mkF]
          refine og (fun _ k => XS.iand X485.here hx rfl (hb hby dq17_3_145) rfl k) ?_
          have f486 := ((J9_465.ext E475).keep K479 (ninS hAb (ninS nab nin0)))
          obtain ⟨c487, A487, q487, S487, M487, Hs487, Gs487⟩ := id f486
          have hi487 := inb_of (j := ((((own_u8s sg).getD iloop 0) >>> ((4 : Int32) &&& 31)) &&& (15 : Int32))) S487 (own_hex1 _).1
          refine og (fun _ k => X485.caload hx (j := ((((own_u8s sg).getD iloop 0) >>> ((4 : Int32) &&& 31)) &&& (15 : Int32))) (v := (.int (own_hx ((((own_u8s sg).getD iloop 0) >>> ((4 : Int32) &&& 31)) &&& (15 : Int32))))) (by rw [e485]; exact A487.1) (State.isArrayOf_alike hZ475.alike A487.2.1) A487.2.2 hi487 (Has.at Hs487 hi487 (own_hex1 _).2.1) (g := (mkF m 146 #[.val ar, rv b, .val ar, iv nn, iv jj, rv x, rv t457, iv (Int32.ofNat (own_u8s sg).length), iv (Int32.ofNat iloop), iv ((own_u8s sg).getD iloop 0)] [(.int ((((own_u8s sg).getD iloop 0) >>> ((4 : Int32) &&& 31)) &&& (15 : Int32))), (.ref hA), (.ref b)])) rfl rfl (hb hby dq17_3_146) _ k) ?_
          have f489 := ((K465.ext E475).trans K479 (allS (Or.inl (List.mem_of_getElem? (i := 0) rfl)) (allS (own_pl hozl) all0)))
          have f490 := (Safe.keep K479 (sfS f481 (sfS f480 sf0)) C476.1 sfv479)
          obtain ⟨T488, Lx488, v488, kv488, M488, c488, s488, X488, hcm488, hsm488, Nq488, K488, hor_v488, Fv488, Fc488, Fn488, Vv488, Xv488, hM3488, hcl488, st488⟩ := rm_apX l Z a0 hw b v479 kv479 M479 (((cs ++ [(47 : Int32)]) ++ own_pcs ((own_u8s sg).take iloop)) ++ [(37 : Int32)]) (own_hx ((((own_u8s sg).getD iloop 0) >>> ((4 : Int32) &&& 31)) &&& (15 : Int32))) G1 G3 T479.heap n0 X485 hx hown475 hZ475 e485 N479 f484 O2 P5 O4 rG3 OA OH OL f483 Fv479 Fc479 Fn479 Vv479 Xv479 hal479 hok479 (And.intro hcl479 hMm479) g_b gv479 hM3479 (own_hex1 _).2.2 (by simp only [List.length_append, List.length_cons, List.length_nil] at hctl ⊢; omega) (pc := 147) (ls := #[.val ar, rv b, .val ar, iv nn, iv jj, rv x, rv t457, iv (Int32.ofNat (own_u8s sg).length), iv (Int32.ofNat iloop), iv ((own_u8s sg).getD iloop 0)]) (by rw [hml]; rfl) (hb hby dq17_3_147) (by omega) (by omega) own_b own_b
          refine own_go st488 ?_
          have gv488 : n0 ≤ v488 := hor_v488.elim (fun q => q ▸ gv479) (fun q => Nat.le_trans (Nat.le_trans Z0 f489.1) q)
          have hoz488 : v488 = v ∨ h0.size ≤ v488 := hor_v488.elim (fun q => q ▸ hoz479) (fun q => Or.inr (Nat.le_trans f489.1 q))
          have sfv488 : Safe Z own_EL vm475 T479.heap v488 := hor_v488.elim (fun q => q ▸ f490) (fun q => Safe.new q)
          have nhA_v488 : hA ≠ v488 := hor_v488.elim (fun q => q ▸ nhA_v479) (fun q => Nat.ne_of_lt (Nat.lt_of_lt_of_le (Nat.lt_of_lt_of_le J9_465.lt (Nat.le_trans E475.1 K479.1)) q))
          have nt457_v488 : t457 ≠ v488 := hor_v488.elim (fun q => q ▸ nt457_v479) (fun q => Nat.ne_of_lt (Nat.lt_of_lt_of_le (Nat.lt_of_lt_of_le J8_465.lt (Nat.le_trans E475.1 K479.1)) q))
          have f491 := (Safe.keep K479 (sfS f481 (sfS f480 sf0)) C476.1 f481)
          have C492 := C482.trans (CHr.keep K488 (sfS f491 (sfS f490 sf0)) C482.1)
          have N488 := Fr.app N479 Nq488
          have hal488 := own_allA hal479 (bs := [(own_hx ((((own_u8s sg).getD iloop 0) >>> ((4 : Int32) &&& 31)) &&& (15 : Int32)))]) (fun c hc => by rw [List.mem_singleton.mp hc]; exact (own_hex1 _).2.2.2)
          have hok488 := own_okAp hok479 (bs := [(own_hx ((((own_u8s sg).getD iloop 0) >>> ((4 : Int32) &&& 31)) &&& (15 : Int32)))]) (fun c hc => by rw [List.mem_singleton.mp hc]; exact (own_hex1 _).2.2) (by have := hok479.2; show _ + 1 ≤ 4000; omega)
          have hMm488 : M488 ≤ 70 := by rcases hM3488 with q | q | q <;> omega
          have hcq488 : own_cM M488 ≤ 2 ∧ own_sC M488 ≤ 140 := by rcases hM3488 with q | q | q <;> (rw [q]; decide)
          have nb_v488 := Exa.neArv (f483.keep K488) Vv488 (tw hw 37 rfl)
          have f493 := (f484.keep K488 (allS g_b (allS gv479 all0)))
          obtain ⟨T494, X494, e494, st494⟩ := getS2 X488 hx hZ475 hown475 (host := "") (Or.inl (tw hw 208 rfl)) Via.refl (rfl : T488.heap = T488.heap) (OX.ext f493.2) (g := (mkF m 150 #[.val ar, rv b, .val ar, iv nn, iv jj, rv x, rv t457, iv (Int32.ofNat (own_u8s sg).length), iv (Int32.ofNat iloop), iv ((own_u8s sg).getD iloop 0)] [(.ref b)])) rfl (hb hby dq17_3_150)
          refine own_go st494 ?_
          refine wm X494 hx hby 153 dq17_3_153 rfl ?_
          try dsimp only [mkF]
          refine wp X494 hx hby 155 dq17_3_155 ?_
          refine og (fun _ k => XS.iand X494.here hx rfl (hb hby dq17_3_157) rfl k) ?_
          have f495 := (f486.keep K488 (ninS hAb (ninS nhA_v479 nin0)))
          obtain ⟨c496, A496, q496, S496, M496, Hs496, Gs496⟩ := id f495
          have hi496 := inb_of (j := (((own_u8s sg).getD iloop 0) &&& (15 : Int32))) S496 (own_hex1 _).1
          refine og (fun _ k => X494.caload hx (j := (((own_u8s sg).getD iloop 0) &&& (15 : Int32))) (v := (.int (own_hx (((own_u8s sg).getD iloop 0) &&& (15 : Int32))))) (by rw [e494]; exact A496.1) (State.isArrayOf_alike hZ475.alike A496.2.1) A496.2.2 hi496 (Has.at Hs496 hi496 (own_hex1 _).2.1) (g := (mkF m 158 #[.val ar, rv b, .val ar, iv nn, iv jj, rv x, rv t457, iv (Int32.ofNat (own_u8s sg).length), iv (Int32.ofNat iloop), iv ((own_u8s sg).getD iloop 0)] [(.int (((own_u8s sg).getD iloop 0) &&& (15 : Int32))), (.ref hA), (.ref b)])) rfl rfl (hb hby dq17_3_158) _ k) ?_
          have f498 := (f489.trans K488 (allS (Or.inl (List.mem_of_getElem? (i := 0) rfl)) (allS (own_pl hoz479) all0)))
          have f499 := (Safe.keep K488 (sfS f491 (sfS f490 sf0)) C482.1 sfv488)
          have z500 := (Nat.le_trans (Nat.le_trans E475.1 K479.1) K488.1)
          obtain ⟨T497, Lx497, v497, kv497, M497, c497, s497, X497, hcm497, hsm497, Nq497, K497, hor_v497, Fv497, Fc497, Fn497, Vv497, Xv497, hM3497, hcl497, st497⟩ := rm_apX l Z a0 hw b v488 kv488 M488 ((((cs ++ [(47 : Int32)]) ++ own_pcs ((own_u8s sg).take iloop)) ++ [(37 : Int32)]) ++ [(own_hx ((((own_u8s sg).getD iloop 0) >>> ((4 : Int32) &&& 31)) &&& (15 : Int32)))]) (own_hx (((own_u8s sg).getD iloop 0) &&& (15 : Int32))) G1 G3 T488.heap n0 X494 hx hown475 hZ475 e494 N488 f493 O2 P5 O4 rG3 OA OH OL (f483.keep K488) Fv488 Fc488 Fn488 Vv488 Xv488 hal488 hok488 (And.intro hcl488 hMm488) g_b gv488 hM3488 (own_hex1 _).2.2 (by simp only [List.length_append, List.length_cons, List.length_nil] at hctl ⊢; omega) (pc := 159) (ls := #[.val ar, rv b, .val ar, iv nn, iv jj, rv x, rv t457, iv (Int32.ofNat (own_u8s sg).length), iv (Int32.ofNat iloop), iv ((own_u8s sg).getD iloop 0)]) (by rw [hml]; rfl) (hb hby dq17_3_159) (by omega) (by omega) own_b own_b
          refine own_go st497 ?_
          have gv497 : n0 ≤ v497 := hor_v497.elim (fun q => q ▸ gv488) (fun q => Nat.le_trans (Nat.le_trans Z0 f498.1) q)
          have hoz497 : v497 = v ∨ h0.size ≤ v497 := hor_v497.elim (fun q => q ▸ hoz488) (fun q => Or.inr (Nat.le_trans f498.1 q))
          have sfv497 : Safe Z own_EL vm475 T488.heap v497 := hor_v497.elim (fun q => q ▸ f499) (fun q => Safe.new q)
          have nhA_v497 : hA ≠ v497 := hor_v497.elim (fun q => q ▸ nhA_v488) (fun q => Nat.ne_of_lt (Nat.lt_of_lt_of_le (Nat.lt_of_lt_of_le J9_465.lt z500) q))
          have nt457_v497 : t457 ≠ v497 := hor_v497.elim (fun q => q ▸ nt457_v488) (fun q => Nat.ne_of_lt (Nat.lt_of_lt_of_le (Nat.lt_of_lt_of_le J8_465.lt z500) q))
          have f501 := (Safe.keep K488 (sfS f491 (sfS f490 sf0)) C482.1 f491)
          have C502 := C492.trans (CHr.keep K497 (sfS f501 (sfS f499 sf0)) C492.1)
          have N497 := Fr.app N488 Nq497
          have f503 := ((f483.keep K488).keep K497)
          have hal497 := own_allA hal488 (bs := [(own_hx (((own_u8s sg).getD iloop 0) &&& (15 : Int32)))]) (fun c hc => by rw [List.mem_singleton.mp hc]; exact (own_hex1 _).2.2.2)
          have hok497 := own_okAp hok488 (bs := [(own_hx (((own_u8s sg).getD iloop 0) &&& (15 : Int32)))]) (fun c hc => by rw [List.mem_singleton.mp hc]; exact (own_hex1 _).2.2) (by have := hok488.2; show _ + 1 ≤ 4000; omega)
          have hMm497 : M497 ≤ 70 := by rcases hM3497 with q | q | q <;> omega
          have hcq497 : own_cM M497 ≤ 2 ∧ own_sC M497 ≤ 140 := by rcases hM3497 with q | q | q <;> (rw [q]; decide)
          have nb_v497 := Exa.neArv f503 Vv497 (tw hw 37 rfl)
          refine og (fun _ k => XS.pop X497.here hx rfl (hb hby dq17_3_162) rfl rfl k) ?_
          try dsimp only [mkF]
          refine wi X497 hx hby 163 #[.val ar, rv b, .val ar, iv nn, iv jj, rv x, rv t457, iv (Int32.ofNat (own_u8s sg).length), iv ((Int32.ofNat iloop) + (1 : Int32)), iv ((own_u8s sg).getD iloop 0)] dq17_3_163 rfl rfl ?_
          refine wg X497 hx hby 166 53 dq17_3_166 ?_
          show own_Go p e below (T497.setTop (mkF m 53 #[.val ar, rv b, .val ar, iv nn, iv jj, rv x, rv t457, iv (Int32.ofNat (own_u8s sg).length), iv ((Int32.ofNat iloop) + (1 : Int32)), iv ((own_u8s sg).getD iloop 0)] [])) _
          have eqn : (((((cs ++ [(47 : Int32)]) ++ own_pcs ((own_u8s sg).take iloop)) ++ [(37 : Int32)]) ++ [(own_hx ((((own_u8s sg).getD iloop 0) >>> ((4 : Int32) &&& 31)) &&& (15 : Int32)))]) ++ [(own_hx (((own_u8s sg).getD iloop 0) &&& (15 : Int32)))]) = ((cs ++ [(47 : Int32)]) ++ own_pcs ((own_u8s sg).take (iloop + 1))) := by rw [own_pcst hi]; unfold own_pc; rw [if_pos hun]; simp
          rw [own_inc]
          have f504 := (Safe.keep K497 (sfS f501 (sfS f499 sf0)) C492.1 sfv497)
          have f505 := (Safe.keep K497 (sfS f501 (sfS f499 sf0)) C492.1 f501)
          have f506 := ((((J8_465.ext E475).keep K479 (ninS (Ne.symm ne463) (ninS ntb nin0))).keep K488 (ninS (Ne.symm ne463) (ninS nt457_v479 nin0))).keep K497 (ninS (Ne.symm ne463) (ninS nt457_v488 nin0)))
          have f507 := (f495.keep K497 (ninS hAb (ninS nhA_v488 nin0)))
          have f508 := (f493.keep K497 (allS g_b (allS gv488 all0)))
          have f509 := (f498.trans K497 (allS (Or.inl (List.mem_of_getElem? (i := 0) rfl)) (allS (own_pl hoz488) all0)))
          have z510 := (Nat.le_trans (Nat.le_trans K479.1 K488.1) K497.1)
          exact ih (iloop + 1) v497 kv497 M497 1 (iv ((own_u8s sg).getD iloop 0)) vm475 _ T497 _ T497.heap (by omega) (X497.loosen own_b own_b) (rfl : T497.heap = T497.heap) N497 f508 f509 C502 (Nat.le_trans hk475 z510) hS475 hZ475 hown475 f503 Fv497 Fc497 (eqn ▸ Fn497) (eqn ▸ Vv497) Xv497 f504 f505 f506 f507 hM3497 (eqn ▸ (And.intro hcl497 hMm497).1) gv497 hoz497 hR475 nhA_v497 nt457_v497 (Or.inr ⟨_, rfl, rfl⟩)
        · skip
          refine we X477 hx hby 116 dq17_3_116 ((if0 _ _).trans (flt hc478).1) ?_
          have hun : ¬ own_un ((own_u8s sg).getD iloop 0) = 0 := by rw [hu]; exact own_u4y (own_ixy hr477 hc478)
          refine wa X477 hx hby 119 dq17_3_119 rfl rfl ?_
          refine wm X477 hx hby 120 dq17_3_120 rfl ?_
          refine og (fun _ k => XS.i2c X477.here hx rfl (hb hby dq17_3_122) rfl k) ?_
          try dsimp only [mkF]
          show own_Go p e below (T477.setTop (mkF m 123 #[.val ar, rv b, .val ar, iv nn, iv jj, rv x, rv t457, iv (Int32.ofNat (own_u8s sg).length), iv (Int32.ofNat iloop), iv ((own_u8s sg).getD iloop 0)] [(.int (((own_u8s sg).getD iloop 0).toUInt32.toUInt16.toUInt32.toInt32)), (.ref b)])) _
          rw [(show ((own_u8s sg).getD iloop 0).toUInt32.toUInt16.toUInt32.toInt32 = ((own_u8s sg).getD iloop 0) from own_nc (own_up7 (own_unB hun)).2.1 (own_up7 (own_unB hun)).2.2)]
          have f512 := (A475.safe J4_465.lt J6_465)
          obtain ⟨T511, Lx511, v511, kv511, M511, c511, s511, X511, hcm511, hsm511, Nq511, K511, hor_v511, Fv511, Fc511, Fn511, Vv511, Xv511, hM3511, hcl511, st511⟩ := rm_apX l Z a0 hw b vb kvb Mb ((cs ++ [(47 : Int32)]) ++ own_pcs ((own_u8s sg).take iloop)) ((own_u8s sg).getD iloop 0) G1 G3 h475 n0 X477 hx hown475 hZ475 e477 N477 (O465.ext E475) O2 P5 O4 rG3 OA OH OL (J0_465.ext E475) (J1_465.ext E475) (J2_465.ext E475) (J3_465.ext E475) (J4_465.ext E475) (J5_465.ext E475) halb hokb (And.intro hcMl hMb) g_b gvb hM3l (own_up7 (own_unB hun)).1 (by omega) (pc := 123) (ls := #[.val ar, rv b, .val ar, iv nn, iv jj, rv x, rv t457, iv (Int32.ofNat (own_u8s sg).length), iv (Int32.ofNat iloop), iv ((own_u8s sg).getD iloop 0)]) (by rw [hml]; rfl) (hb hby dq17_3_123) (by omega) (by omega) own_b own_b
          refine own_go st511 ?_
          have gv511 : n0 ≤ v511 := hor_v511.elim (fun q => q ▸ gvb) (fun q => Nat.le_trans (Nat.le_trans Z0 (K465.ext E475).1) q)
          have hoz511 : v511 = v ∨ h0.size ≤ v511 := hor_v511.elim (fun q => q ▸ hozl) (fun q => Or.inr (Nat.le_trans (K465.ext E475).1 q))
          have sfv511 : Safe Z own_EL vm475 h475 v511 := hor_v511.elim (fun q => q ▸ f512) (fun q => Safe.new q)
          have nhA_v511 : hA ≠ v511 := hor_v511.elim (fun q => q ▸ nab) (fun q => Nat.ne_of_lt (Nat.lt_of_lt_of_le (Nat.lt_of_lt_of_le J9_465.lt E475.1) q))
          have nt457_v511 : t457 ≠ v511 := hor_v511.elim (fun q => q ▸ ntb) (fun q => Nat.ne_of_lt (Nat.lt_of_lt_of_le (Nat.lt_of_lt_of_le J8_465.lt E475.1) q))
          have f513 := (A475.safe J0_465.lt J7_465)
          have C514 := C476.trans (CHr.keep K511 (sfS f513 (sfS f512 sf0)) C476.1)
          have N511 := Fr.app N477 Nq511
          have f515 := ((J0_465.ext E475).keep K511)
          have hal511 := own_allA halb (bs := [((own_u8s sg).getD iloop 0)]) (fun c hc => by rw [List.mem_singleton.mp hc]; exact (own_up7 (own_unB hun)).1.2)
          have hok511 := own_okAp hokb (bs := [((own_u8s sg).getD iloop 0)]) (fun c hc => by rw [List.mem_singleton.mp hc]; exact (own_up7 (own_unB hun)).1) (by have := hokb.2; show _ + 1 ≤ 4000; omega)
          have hMm511 : M511 ≤ 70 := by rcases hM3511 with q | q | q <;> omega
          have hcq511 : own_cM M511 ≤ 2 ∧ own_sC M511 ≤ 140 := by rcases hM3511 with q | q | q <;> (rw [q]; decide)
          have nb_v511 := Exa.neArv f515 Vv511 (tw hw 37 rfl)
          refine og (fun _ k => XS.pop X511.here hx rfl (hb hby dq17_3_126) rfl rfl k) ?_
          refine wg X511 hx hby 127 163 dq17_3_127 ?_
          refine wi X511 hx hby 163 #[.val ar, rv b, .val ar, iv nn, iv jj, rv x, rv t457, iv (Int32.ofNat (own_u8s sg).length), iv ((Int32.ofNat iloop) + (1 : Int32)), iv ((own_u8s sg).getD iloop 0)] dq17_3_163 rfl rfl ?_
          try dsimp only [mkF]
          refine wg X511 hx hby 166 53 dq17_3_166 ?_
          show own_Go p e below (T511.setTop (mkF m 53 #[.val ar, rv b, .val ar, iv nn, iv jj, rv x, rv t457, iv (Int32.ofNat (own_u8s sg).length), iv ((Int32.ofNat iloop) + (1 : Int32)), iv ((own_u8s sg).getD iloop 0)] [])) _
          have eqn : (((cs ++ [(47 : Int32)]) ++ own_pcs ((own_u8s sg).take iloop)) ++ [((own_u8s sg).getD iloop 0)]) = ((cs ++ [(47 : Int32)]) ++ own_pcs ((own_u8s sg).take (iloop + 1))) := by rw [own_pcst hi]; unfold own_pc; rw [if_neg hun]; simp
          rw [own_inc]
          have f516 := (Safe.keep K511 (sfS f513 (sfS f512 sf0)) C476.1 sfv511)
          have f517 := (Safe.keep K511 (sfS f513 (sfS f512 sf0)) C476.1 f513)
          have f518 := ((J8_465.ext E475).keep K511 (ninS (Ne.symm ne463) (ninS ntb nin0)))
          have f519 := ((J9_465.ext E475).keep K511 (ninS hAb (ninS nab nin0)))
          have f520 := ((O465.ext E475).keep K511 (allS g_b (allS gvb all0)))
          have f521 := ((K465.ext E475).trans K511 (allS (Or.inl (List.mem_of_getElem? (i := 0) rfl)) (allS (own_pl hozl) all0)))
          exact ih (iloop + 1) v511 kv511 M511 1 (iv ((own_u8s sg).getD iloop 0)) vm475 _ T511 _ T511.heap (by omega) (X511.loosen own_b own_b) (rfl : T511.heap = T511.heap) N511 f520 f521 C514 (Nat.le_trans hk475 K511.1) hS475 hZ475 hown475 f515 Fv511 Fc511 (eqn ▸ Fn511) (eqn ▸ Vv511) Xv511 f516 f517 f518 f519 hM3511 (eqn ▸ (And.intro hcl511 hMm511).1) gv511 hoz511 hR475 nhA_v511 nt457_v511 (Or.inr ⟨_, rfl, rfl⟩)
      have j95 : own_un ((own_u8s sg).getD iloop 0) = own_u3 ((own_u8s sg).getD iloop 0) → own_Go p e below (T465.setTop (mkF m 95 #[.val ar, rv b, .val ar, iv nn, iv jj, rv x, rv t457, iv (Int32.ofNat (own_u8s sg).length), iv (Int32.ofNat iloop), iv ((own_u8s sg).getD iloop 0)] [])) G := by
        intro hu
        refine wm X465 hx hby 95 dq17_3_95 rfl ?_
        refine wp X465 hx hby 97 dq17_3_97 ?_
        try dsimp only [mkF]
        by_cases hc522 : ((own_u8s sg).getD iloop 0) < (48 : Int32)
        · skip
          refine wy X465 hx hby 99 109 dq17_3_99 (tlt hc522).1 ?_
          show own_Go p e below (T465.setTop (mkF m 109 #[.val ar, rv b, .val ar, iv nn, iv jj, rv x, rv t457, iv (Int32.ofNat (own_u8s sg).length), iv (Int32.ofNat iloop), iv ((own_u8s sg).getD iloop 0)] [])) _
          exact j109 (by rw [hu]; unfold own_u3; rw [if_pos hc522])
        · skip
          refine wn X465 hx hby 99 dq17_3_99 (flt hc522).1 ?_
          refine wm X465 hx hby 102 dq17_3_102 rfl ?_
          refine wp X465 hx hby 104 dq17_3_104 ?_
          by_cases hc523 : (57 : Int32) < ((own_u8s sg).getD iloop 0)
          · skip
            refine wn X465 hx hby 106 dq17_3_106 (tlt hc523).2.2.2 ?_
            show own_Go p e below (T465.setTop (mkF m 109 #[.val ar, rv b, .val ar, iv nn, iv jj, rv x, rv t457, iv (Int32.ofNat (own_u8s sg).length), iv (Int32.ofNat iloop), iv ((own_u8s sg).getD iloop 0)] [])) _
            exact j109 (by rw [hu]; unfold own_u3; rw [if_neg hc522, if_pos hc523])
          · skip
            refine wy X465 hx hby 106 119 dq17_3_106 (flt hc523).2.2.2 ?_
            show own_Go p e below (T465.setTop (mkF m 119 #[.val ar, rv b, .val ar, iv nn, iv jj, rv x, rv t457, iv (Int32.ofNat (own_u8s sg).length), iv (Int32.ofNat iloop), iv ((own_u8s sg).getD iloop 0)] [])) _
            exact j119 (by rw [hu]; unfold own_u3; rw [if_neg hc522, if_neg hc523]; decide)
      have j81 : own_un ((own_u8s sg).getD iloop 0) = own_u2 ((own_u8s sg).getD iloop 0) → own_Go p e below (T465.setTop (mkF m 81 #[.val ar, rv b, .val ar, iv nn, iv jj, rv x, rv t457, iv (Int32.ofNat (own_u8s sg).length), iv (Int32.ofNat iloop), iv ((own_u8s sg).getD iloop 0)] [])) G := by
        intro hu
        refine wm X465 hx hby 81 dq17_3_81 rfl ?_
        refine wp X465 hx hby 83 dq17_3_83 ?_
        try dsimp only [mkF]
        by_cases hc524 : ((own_u8s sg).getD iloop 0) < (65 : Int32)
        · skip
          refine wy X465 hx hby 85 95 dq17_3_85 (tlt hc524).1 ?_
          show own_Go p e below (T465.setTop (mkF m 95 #[.val ar, rv b, .val ar, iv nn, iv jj, rv x, rv t457, iv (Int32.ofNat (own_u8s sg).length), iv (Int32.ofNat iloop), iv ((own_u8s sg).getD iloop 0)] [])) _
          exact j95 (by rw [hu]; unfold own_u2; rw [if_pos hc524])
        · skip
          refine wn X465 hx hby 85 dq17_3_85 (flt hc524).1 ?_
          refine wm X465 hx hby 88 dq17_3_88 rfl ?_
          refine wp X465 hx hby 90 dq17_3_90 ?_
          by_cases hc525 : (90 : Int32) < ((own_u8s sg).getD iloop 0)
          · skip
            refine wn X465 hx hby 92 dq17_3_92 (tlt hc525).2.2.2 ?_
            show own_Go p e below (T465.setTop (mkF m 95 #[.val ar, rv b, .val ar, iv nn, iv jj, rv x, rv t457, iv (Int32.ofNat (own_u8s sg).length), iv (Int32.ofNat iloop), iv ((own_u8s sg).getD iloop 0)] [])) _
            exact j95 (by rw [hu]; unfold own_u2; rw [if_neg hc524, if_pos hc525])
          · skip
            refine wy X465 hx hby 92 119 dq17_3_92 (flt hc525).2.2.2 ?_
            show own_Go p e below (T465.setTop (mkF m 119 #[.val ar, rv b, .val ar, iv nn, iv jj, rv x, rv t457, iv (Int32.ofNat (own_u8s sg).length), iv (Int32.ofNat iloop), iv ((own_u8s sg).getD iloop 0)] [])) _
            exact j119 (by rw [hu]; unfold own_u2; rw [if_neg hc524, if_neg hc525]; decide)
      refine wm X465 hx hby 67 dq17_3_67 rfl ?_
      refine wp X465 hx hby 69 dq17_3_69 ?_
      by_cases hc526 : ((own_u8s sg).getD iloop 0) < (97 : Int32)
      · skip
        refine wy X465 hx hby 71 81 dq17_3_71 (tlt hc526).1 ?_
        try dsimp only [mkF]
        show own_Go p e below (T465.setTop (mkF m 81 #[.val ar, rv b, .val ar, iv nn, iv jj, rv x, rv t457, iv (Int32.ofNat (own_u8s sg).length), iv (Int32.ofNat iloop), iv ((own_u8s sg).getD iloop 0)] [])) _
        exact j81 (by unfold own_un; rw [if_pos hc526])
      · skip
        refine wn X465 hx hby 71 dq17_3_71 (flt hc526).1 ?_
        try dsimp only [mkF]
        refine wm X465 hx hby 74 dq17_3_74 rfl ?_
        refine wp X465 hx hby 76 dq17_3_76 ?_
        by_cases hc527 : (122 : Int32) < ((own_u8s sg).getD iloop 0)
        · skip
          refine wn X465 hx hby 78 dq17_3_78 (tlt hc527).2.2.2 ?_
          show own_Go p e below (T465.setTop (mkF m 81 #[.val ar, rv b, .val ar, iv nn, iv jj, rv x, rv t457, iv (Int32.ofNat (own_u8s sg).length), iv (Int32.ofNat iloop), iv ((own_u8s sg).getD iloop 0)] [])) _
          exact j81 (by unfold own_un; rw [if_neg hc526, if_pos hc527])
        · skip
          refine wy X465 hx hby 78 119 dq17_3_78 (flt hc527).2.2.2 ?_
          show own_Go p e below (T465.setTop (mkF m 119 #[.val ar, rv b, .val ar, iv nn, iv jj, rv x, rv t457, iv (Int32.ofNat (own_u8s sg).length), iv (Int32.ofNat iloop), iv ((own_u8s sg).getD iloop 0)] [])) _
          exact j119 (by unfold own_un; rw [if_neg hc526, if_neg hc527]; decide)
  have f528 := (((Keep.refl h0 [b, v]).trans K450 (allS (Or.inl (List.mem_of_getElem? (i := 0) rfl)) (allS (Or.inl (List.mem_of_getElem? (i := 1) rfl)) all0))).trans K457 all0)
  have f529 := ((E_b.keep K450).keep K457)
  have f530 := (Safe.keep K457 sf0 C451.1 (Safe.keep K450 (sfS SF_b (sfS SF_v sf0)) C0.1 sfv450))
  have f531 := (Safe.keep K457 sf0 C451.1 (Safe.keep K450 (sfS SF_b (sfS SF_v sf0)) C0.1 SF_b))
  have f532 := ((V_h.keep K450 (ninS hAb (ninS hAv nin0))).keep K457 nin0)
  exact loop ((own_u8s sg).length) 0 v450 kv450 M450 rs t9 vm0 _ T457 _ T457.heap (by omega) (X457.loosen own_b own_b) (rfl : T457.heap = T457.heap) N457 (f452.keep K457 all0) f528 C458 (Nat.le_trans hk0 (Nat.le_trans K450.1 K457.1)) hS0 hZ hown f529 (Fv450.keep K457 nin0) (Fc450.keep K457 nin0) (own_ct0 (cs ++ [(47 : Int32)]) (own_u8s sg) ▸ (Fn450.keep K457 nin0)) (own_ct0 (cs ++ [(47 : Int32)]) (own_u8s sg) ▸ (Vv450.keep K457 nin0)) (Xv450.keep K457) f530 f531 Vt457 f532 hM3450 (own_ct0 (cs ++ [(47 : Int32)]) (own_u8s sg) ▸ (And.intro hcl450 hMm450).1) gv450 hoz450 hR nhA_v450 (Ne.symm ne460) ht9

theorem dq17_3_0:Dk kq17_3 0 (.new 46) 3:=kk
theorem dq17_3_3:Dk kq17_3 3 (.dup) 1:=kk
theorem dq17_3_4:Dk kq17_3 4 (.invokespecial 48) 3:=kk
theorem pd_38 : parseMethodDescriptor "()V" = some ⟨[], none⟩ := by decide +kernel
theorem dq17_3_7:Dk kq17_3 7 (.astore_n 1) 1:=kk
theorem dq17_3_8:Dk kq17_3 8 (.aload_n 0) 1:=kk
theorem dq17_3_9:Dk kq17_3 9 (.astore_n 2) 1:=kk
theorem dq17_3_10:Dk kq17_3 10 (.aload_n 2) 1:=kk
theorem dq17_3_11:Dk kq17_3 11 (.arraylength) 1:=kk
theorem dq17_3_12:Dk kq17_3 12 (.istore_n 3) 1:=kk
theorem dq17_3_13:Dk kq17_3 13 (.iconst 0) 1:=kk
theorem dq17_3_14:Dk kq17_3 14 (.istore 4) 2:=kk
theorem dq17_3_16:Dk kq17_3 16 (.iload 4) 2:=kk
theorem dq17_3_18:Dk kq17_3 18 (.iload_n 3) 1:=kk
theorem dq17_3_19:Dk kq17_3 19 (.if_icmp .ge 156) 3:=kk
theorem dq17_3_175:Dk kq17_3 175 (.aload_n 1) 1:=kk
theorem dq17_3_176:Dk kq17_3 176 (.invokevirtual 73) 3:=kk
theorem pd_39 : parseMethodDescriptor "()Ljava/lang/String;" = some ⟨[], some (.object "java/lang/String")⟩ := by decide +kernel
theorem dq17_3_179:Dk kq17_3 179 (.areturn) 1:=kk
set_option maxRecDepth 65536 in
set_option maxHeartbeats 40000000 in
theorem rm_pth0 (l : Launch) (Z : State) (a0 : Array Value) (hw : ∀ d ∈ tables_1, d.before a0 Z = true) (ws : List Jvm.Cond) (ar : Addr) (kar : ClassId) (hA : Addr) (kh : ClassId) (u8 : Addr) (G1 : Int32) (G3 : Value) (h0 : Heap) (n0 : Nat) (O0 : Old Z n0 h0) (O2 : Sta Z Z.heap "java/lang/String" "COMPACT_STRINGS" "Z" (.int G1)) (P5 : ¬ (G1 = (0 : Int32))) (O4 : Sta Z Z.heap "jdk/internal/util/Preconditions" "SIOOBE_FORMATTER" "Ljava/util/function/BiFunction;" G3) (rG3 : G3.isRef = true) (OA : Sta Z Z.heap "java/lang/StringUTF16" "$assertionsDisabled" "Z" (.int (1 : Int32))) (OH : Sta Z Z.heap "java/lang/StringUTF16" "HI_BYTE_SHIFT" "I" (.int (0 : Int32))) (OL : Sta Z Z.heap "java/lang/StringUTF16" "LO_BYTE_SHIFT" "I" (.int (8 : Int32))) (OU : Sta Z Z.heap "sun/nio/cs/UTF_8" "INSTANCE" "Lsun/nio/cs/UTF_8;" (.ref u8)) (OS : Sta Z Z.heap "java/nio/charset/StandardCharsets" "UTF_8" "Ljava/nio/charset/Charset;" (.ref u8)) (OX : Sta Z Z.heap "com/example/cohortwise/cohortwise/http/Requests" "HEX" "[C" (.ref hA)) (V_ar : Arv Z h0 ar kar (.object "java/lang/String") (0 : Int32) [] .null) (V_h : Arv Z h0 hA kh .char (16 : Int32) (own_HEX.map Value.int) (.int (0 : Int32))) :
    own_TW l Z ws h0 (⟨"com/example/cohortwise/cohortwise/http/Requests", "path", "([Ljava/lang/String;)Ljava/lang/String;"⟩ : MethodName) prog_17_method_3_code 10 (some (.object "java/lang/String")) ⟨6, 4, 94, 91⟩ #[(.ref ar)] (QStrL Z ([] : List Int32) h0 n0) 4 94 := by
  refine own_bW "com/example/cohortwise/cohortwise/http/Requests" #[rv ar, .unset, .unset, .unset, .unset, .unset, .unset, .unset, .unset, .unset] hw (pf pn_11 rfl) rfl O0 (fun m => own_e) ?_
  intro p e s m below meth cC s₁ hZ hh hx hby hml hown hnm hrt hlk X0 e0 N0 Z0 hS0 C0 own_wS own_hEL
  obtain ⟨T533, h533, X533, e533, E533, A533, D533, U533, st533⟩ := newO X0 hx hZ hown (tw hw 36 rfl) (tw hw 37 rfl) (tw hw 38 rfl) e0 (g := (mkF m 0 #[rv ar, .unset, .unset, .unset, .unset, .unset, .unset, .unset, .unset, .unset] [])) rfl (hb hby dq17_3_0) (by decide) (by decide)
  obtain ⟨b533, g533⟩ : ∃ z, z = h0.size := ⟨_, rfl⟩
  rw [← g533] at A533 D533 U533 st533
  refine own_go st533 ?_
  have C534 := C0.trans (CHr.ext E533 C0.1)
  have F533_value : Fld Z h533 b533 "java/lang/AbstractStringBuilder" "value" "[B" .null := D533 (Or.inl (tw hw 51 rfl)) (ty := (.array .byte)) (by decide)
  have F533_coder : Fld Z h533 b533 "java/lang/AbstractStringBuilder" "coder" "B" (.int (0 : Int32)) := D533 (Or.inl (tw hw 53 rfl)) (ty := .byte) (by decide)
  have F533_count : Fld Z h533 b533 "java/lang/AbstractStringBuilder" "count" "I" (.int (0 : Int32)) := D533 (Or.inl (tw hw 81 rfl)) (ty := .int) (by decide)
  refine og (fun _ k => XS.dup X533.here hx rfl (hb hby dq17_3_3) rfl rfl k) ?_
  obtain ⟨v535, _, ⟨T535, L535, k535, n535⟩, -, X535, ⟨Lc535, hQ535, l535, y535, z535⟩, st535⟩ := X533.specialBack hx (y := (⟨"java/lang/StringBuilder", "<init>", "()V"⟩ : MethodName)) rfl hown (mvT hZ (tw hw 39 rfl)) (mvT hZ (tw hw 40 rfl)) (mvT hZ (tw hw 41 rfl)) (by decide) (backOf (W := 1) (rm_sb l Z a0 hw [] b533 G1 h533 n0 (O0.ext E533) A533 F533_value F533_coder F533_count (Nat.le_trans Z0 (Nat.le_of_eq g533.symm)) O2 P5) hZ (tw hw 41 rfl) (tw hw 38 rfl) (by decide) (by decide)) (g := (mkF m 4 #[rv ar, .unset, .unset, .unset, .unset, .unset, .unset, .unset, .unset, .unset] [(.ref b533), (.ref b533)])) rfl (by rw [hml]; rfl) (Steps.refl _) (a := b533) (argsL := []) (rest := [(.ref b533)]) (lenOf pd_38 rfl) rfl (by show 2 * 0 + _ ≤ _; exact Nat.le_of_eq rfl) (hb hby dq17_3_4) (fun _ _ => ⟨rfl, e533, (by decide : 1 + 1 ≤ _), (by decide : 4 + 16 ≤ _)⟩)
  dsimp only [Pt.U, Pt.locs, Pt.cells, Pt.slots] at X535 l535 y535 z535 st535 hQ535
  subst l535 y535 z535
  refine own_gos st535 ?_
  obtain ⟨v535, kv535, rfl, Nq535, K535, vg535, Fv535, Fc535, Fn535, Vv535, Xv535⟩ := hQ535
  have f536 := (Safe.ext E533 C0.1 (Safe.new (Nat.le_of_eq g533.symm)))
  have C537 := C534.trans (CHr.keep K535 (sfS f536 sf0) C534.1)
  have N535 := Fr.app N0 Nq535
  refine wv X535 hx hby 7 #[rv ar, rv b533, .unset, .unset, .unset, .unset, .unset, .unset, .unset, .unset] dq17_3_7 rfl rfl ?_
  try dsimp only [mkF]
  refine wa X535 hx hby 8 dq17_3_8 rfl rfl ?_
  refine wv X535 hx hby 9 #[rv ar, rv b533, rv ar, .unset, .unset, .unset, .unset, .unset, .unset, .unset] dq17_3_9 rfl rfl ?_
  refine wa X535 hx hby 10 dq17_3_10 rfl rfl ?_
  have ne538 : ar ≠ b533 := Nat.ne_of_lt (Nat.lt_of_lt_of_le V_ar.lt (Nat.le_of_eq g533.symm))
  have f539 := ((V_ar.ext E533).keep K535 (ninS ne538 nin0))
  obtain ⟨c540, A540, q540, S540, M540, Hs540, Gs540⟩ := id f539
  refine og (fun _ k => X535.arraylength hx (by rw [(rfl : T535.heap = T535.heap)]; exact A540.1) (State.isArrayOf_alike hZ.alike A540.2.1) (g := (mkF m 11 #[rv ar, rv b533, rv ar, .unset, .unset, .unset, .unset, .unset, .unset, .unset] [(.ref ar)])) rfl rfl (hb hby dq17_3_11) _ k) ?_
  rw [len_of S540 M540]
  refine wt X535 hx hby 12 #[rv ar, rv b533, rv ar, iv (0 : Int32), .unset, .unset, .unset, .unset, .unset, .unset] dq17_3_12 rfl ?_
  try dsimp only [mkF]
  refine wc X535 hx hby 13 dq17_3_13 ?_
  refine wz X535 hx hby 14 #[rv ar, rv b533, rv ar, iv (0 : Int32), iv (0 : Int32), .unset, .unset, .unset, .unset, .unset] dq17_3_14 rfl ?_
  refine wm X535 hx hby 16 dq17_3_16 rfl ?_
  refine wl X535 hx hby 18 dq17_3_18 rfl ?_
  refine wy X535 hx hby 19 175 dq17_3_19 (flt (by decide : ¬ ((0 : Int32) < (0 : Int32)))).2.1 ?_
  try dsimp only [mkF]
  refine wa X535 hx hby 175 dq17_3_175 rfl rfl ?_
  have f541 := ((O0.ext E533).keep K535 (allS (Nat.le_trans Z0 (Nat.le_of_eq g533.symm)) all0))
  obtain ⟨cq542, kq542, q542a, q542b, q542c⟩ := isOf hZ (rfl : T535.heap = T535.heap) (A533.keep K535)
  obtain ⟨v542, _, ⟨T542, L542, k542, n542⟩, -, X542, ⟨Lc542, hQ542, l542, y542, z542⟩, st542⟩ := X535.virtualBack hx (y := (⟨"java/lang/StringBuilder", "toString", "()Ljava/lang/String;"⟩ : MethodName)) (z := (⟨"java/lang/StringBuilder", "toString", "()Ljava/lang/String;"⟩ : MethodName)) hown (mvT hZ (tw hw 54 rfl)) (mvT hZ (tw hw 55 rfl)) (notFace_of_selects (args := #[]) (mvT hZ (tw hw 57 rfl))) (mvT hZ (tw hw 57 rfl)) (mvT hZ (tw hw 56 rfl)) (by decide) (backOf (W := 0) (rm_tos l Z a0 hw [] b533 v535 kv535 16 ([] : List Int32) G1 G3 T535.heap n0 f541 O2 P5 O4 rG3 OA OH OL (A533.keep K535) Fv535 Fc535 Fn535 Vv535 Xv535 (fun c hc => nomatch hc) own_ok0 ⟨by decide, by decide⟩ (Nat.le_trans Z0 (Nat.le_of_eq g533.symm)) (Nat.le_trans Z0 (Nat.le_trans E533.1 vg535))) hZ (tw hw 58 rfl) (tw hw 38 rfl) (by decide) (by decide)) q542a q542c (g := (mkF m 176 #[rv ar, rv b533, rv ar, iv (0 : Int32), iv (0 : Int32), .unset, .unset, .unset, .unset, .unset] [(.ref b533)])) rfl (by rw [hml]; rfl) (Steps.refl _) (argsL := []) (rest := []) (lenOf pd_39 rfl) rfl (by show 2 * 0 + _ ≤ _; exact Nat.le_of_eq rfl) (hb hby dq17_3_176) (fun _ _ => ⟨rfl, (rfl : T535.heap = T535.heap), (by decide : 2 + 2 ≤ _), (by decide : 20 + 74 ≤ _)⟩)
  dsimp only [Pt.U, Pt.locs, Pt.cells, Pt.slots] at X542 l542 y542 z542 st542 hQ542
  subst l542 y542 z542
  refine own_gos st542 ?_
  obtain ⟨x542, t542, kt542, rfl, Nq542, K542, xg542, Ex542, Fv542, Fc542, Vt542, ho542, ha542⟩ := hQ542
  have C543 := C537.trans (CHr.keep K542 sf0 C537.1)
  have N542 := Fr.app N535 Nq542
  have f544 := ((((Keep.refl h0 []).ext E533).trans K535 (allS (Or.inr (Nat.le_of_eq g533.symm)) all0)).trans K542 all0)
  refine own_finW (v := (some (.ref x542))) X542 hh hZ hS0 (by rw [(rfl : T542.heap = T542.heap)]; exact (Nat.zero_le _)) (fun h => by rw [hrt] at h; cases h) hlk (fun fs hr => retR X542 hx hrt (by rfl) rfl rfl (hb hby dq17_3_179) hr) (QQ := QStrL Z ([] : List Int32) h0 n0) ?_ own_hEL (rfl : T542.heap = T542.heap) (C543) (by decide) (by decide)
  exact ⟨x542, t542, _, rfl, N542, f544, (Nat.le_trans (Nat.le_trans E533.1 K535.1) xg542), Ex542, Fv542, Fc542, Vt542, ho542, ha542⟩

theorem dq17_3_22:Dk kq17_3 22 (.aload_n 2) 1:=kk
theorem dq17_3_23:Dk kq17_3 23 (.iload 4) 2:=kk
theorem dq17_3_25:Dk kq17_3 25 (.aaload) 1:=kk
theorem dq17_3_26:Dk kq17_3 26 (.astore 5) 2:=kk
theorem dq17_3_169:Dk kq17_3 169 (.iinc 4 1) 3:=kk
theorem dq17_3_172:Dk kq17_3 172 (.goto (-156)) 3:=kk
set_option maxRecDepth 65536 in
set_option maxHeartbeats 40000000 in
theorem rm_pth1 (l : Launch) (Z : State) (a0 : Array Value) (hw : ∀ d ∈ tables_1, d.before a0 Z = true) (ws : List Jvm.Cond) (ar : Addr) (kar : ClassId) (x0 t0 : Addr) (k0 : ClassId) (sg0 : List Int32) (cx0 Nx0 : Int32) (vx0 : List Value) (hA : Addr) (kh : ClassId) (u8 : Addr) (G1 : Int32) (G3 : Value) (h0 : Heap) (n0 : Nat) (O0 : Old Z n0 h0) (O2 : Sta Z Z.heap "java/lang/String" "COMPACT_STRINGS" "Z" (.int G1)) (P5 : ¬ (G1 = (0 : Int32))) (O4 : Sta Z Z.heap "jdk/internal/util/Preconditions" "SIOOBE_FORMATTER" "Ljava/util/function/BiFunction;" G3) (rG3 : G3.isRef = true) (OA : Sta Z Z.heap "java/lang/StringUTF16" "$assertionsDisabled" "Z" (.int (1 : Int32))) (OH : Sta Z Z.heap "java/lang/StringUTF16" "HI_BYTE_SHIFT" "I" (.int (0 : Int32))) (OL : Sta Z Z.heap "java/lang/StringUTF16" "LO_BYTE_SHIFT" "I" (.int (8 : Int32))) (OU : Sta Z Z.heap "sun/nio/cs/UTF_8" "INSTANCE" "Lsun/nio/cs/UTF_8;" (.ref u8)) (OS : Sta Z Z.heap "java/nio/charset/StandardCharsets" "UTF_8" "Ljava/nio/charset/Charset;" (.ref u8)) (OX : Sta Z Z.heap "com/example/cohortwise/cohortwise/http/Requests" "HEX" "[C" (.ref hA)) (V_ar : Arv Z h0 ar kar (.object "java/lang/String") (1 : Int32) [(.ref x0)] .null) (E_x0 : Exa Z h0 x0 "java/lang/String") (Fv_x0 : Fld Z h0 x0 "java/lang/String" "value" "[B" (.ref t0)) (Fc_x0 : Fld Z h0 x0 "java/lang/String" "coder" "B" (.int cx0)) (V_t0 : Arv Z h0 t0 k0 .byte Nx0 vx0 (.int (0 : Int32))) (X_t0 : Exa Z h0 t0 "[B") (hC_x0 : StrChars.Road.CodA sg0 cx0 Nx0 vx0) (ho_x0 : own_Ok sg0) (h2_x0 : sg0.length ≤ 2) (hn_x0 : ∀ c ∈ sg0, c < (55296 : Int32) ∨ (57343 : Int32) < c) (V_h : Arv Z h0 hA kh .char (16 : Int32) (own_HEX.map Value.int) (.int (0 : Int32))) :
    own_TW l Z ws h0 (⟨"com/example/cohortwise/cohortwise/http/Requests", "path", "([Ljava/lang/String;)Ljava/lang/String;"⟩ : MethodName) prog_17_method_3_code 10 (some (.object "java/lang/String")) ⟨6, 10, 266, 99⟩ #[(.ref ar)] (QStrL Z ((([] : List Int32) ++ [(47 : Int32)]) ++ own_pcs (own_u8s sg0)) h0 n0) 10 266 := by
  refine own_bW "com/example/cohortwise/cohortwise/http/Requests" #[rv ar, .unset, .unset, .unset, .unset, .unset, .unset, .unset, .unset, .unset] hw (pf pn_11 rfl) rfl O0 (fun m => own_e) ?_
  intro p e s m below meth cC s₁ hZ hh hx hby hml hown hnm hrt hlk X0 e0 N0 Z0 hS0 C0 own_wS own_hEL
  obtain ⟨T545, h545, X545, e545, E545, A545, D545, U545, st545⟩ := newO X0 hx hZ hown (tw hw 36 rfl) (tw hw 37 rfl) (tw hw 38 rfl) e0 (g := (mkF m 0 #[rv ar, .unset, .unset, .unset, .unset, .unset, .unset, .unset, .unset, .unset] [])) rfl (hb hby dq17_3_0) (by decide) (by decide)
  obtain ⟨b545, g545⟩ : ∃ z, z = h0.size := ⟨_, rfl⟩
  rw [← g545] at A545 D545 U545 st545
  refine own_go st545 ?_
  have C546 := C0.trans (CHr.ext E545 C0.1)
  have F545_value : Fld Z h545 b545 "java/lang/AbstractStringBuilder" "value" "[B" .null := D545 (Or.inl (tw hw 51 rfl)) (ty := (.array .byte)) (by decide)
  have F545_coder : Fld Z h545 b545 "java/lang/AbstractStringBuilder" "coder" "B" (.int (0 : Int32)) := D545 (Or.inl (tw hw 53 rfl)) (ty := .byte) (by decide)
  have F545_count : Fld Z h545 b545 "java/lang/AbstractStringBuilder" "count" "I" (.int (0 : Int32)) := D545 (Or.inl (tw hw 81 rfl)) (ty := .int) (by decide)
  refine og (fun _ k => XS.dup X545.here hx rfl (hb hby dq17_3_3) rfl rfl k) ?_
  obtain ⟨v547, _, ⟨T547, L547, k547, n547⟩, -, X547, ⟨Lc547, hQ547, l547, y547, z547⟩, st547⟩ := X545.specialBack hx (y := (⟨"java/lang/StringBuilder", "<init>", "()V"⟩ : MethodName)) rfl hown (mvT hZ (tw hw 39 rfl)) (mvT hZ (tw hw 40 rfl)) (mvT hZ (tw hw 41 rfl)) (by decide) (backOf (W := 1) (rm_sb l Z a0 hw [] b545 G1 h545 n0 (O0.ext E545) A545 F545_value F545_coder F545_count (Nat.le_trans Z0 (Nat.le_of_eq g545.symm)) O2 P5) hZ (tw hw 41 rfl) (tw hw 38 rfl) (by decide) (by decide)) (g := (mkF m 4 #[rv ar, .unset, .unset, .unset, .unset, .unset, .unset, .unset, .unset, .unset] [(.ref b545), (.ref b545)])) rfl (by rw [hml]; rfl) (Steps.refl _) (a := b545) (argsL := []) (rest := [(.ref b545)]) (lenOf pd_38 rfl) rfl (by show 2 * 0 + _ ≤ _; exact Nat.le_of_eq rfl) (hb hby dq17_3_4) (fun _ _ => ⟨rfl, e545, (by decide : 1 + 1 ≤ _), (by decide : 4 + 16 ≤ _)⟩)
  dsimp only [Pt.U, Pt.locs, Pt.cells, Pt.slots] at X547 l547 y547 z547 st547 hQ547
  subst l547 y547 z547
  refine own_gos st547 ?_
  obtain ⟨v547, kv547, rfl, Nq547, K547, vg547, Fv547, Fc547, Fn547, Vv547, Xv547⟩ := hQ547
  have f548 := (Safe.ext E545 C0.1 (Safe.new (Nat.le_of_eq g545.symm)))
  have C549 := C546.trans (CHr.keep K547 (sfS f548 sf0) C546.1)
  have N547 := Fr.app N0 Nq547
  refine wv X547 hx hby 7 #[rv ar, rv b545, .unset, .unset, .unset, .unset, .unset, .unset, .unset, .unset] dq17_3_7 rfl rfl ?_
  try dsimp only [mkF]
  refine wa X547 hx hby 8 dq17_3_8 rfl rfl ?_
  refine wv X547 hx hby 9 #[rv ar, rv b545, rv ar, .unset, .unset, .unset, .unset, .unset, .unset, .unset] dq17_3_9 rfl rfl ?_
  refine wa X547 hx hby 10 dq17_3_10 rfl rfl ?_
  have ne550 : ar ≠ b545 := Nat.ne_of_lt (Nat.lt_of_lt_of_le V_ar.lt (Nat.le_of_eq g545.symm))
  have f551 := ((V_ar.ext E545).keep K547 (ninS ne550 nin0))
  obtain ⟨c552, A552, q552, S552, M552, Hs552, Gs552⟩ := id f551
  refine og (fun _ k => X547.arraylength hx (by rw [(rfl : T547.heap = T547.heap)]; exact A552.1) (State.isArrayOf_alike hZ.alike A552.2.1) (g := (mkF m 11 #[rv ar, rv b545, rv ar, .unset, .unset, .unset, .unset, .unset, .unset, .unset] [(.ref ar)])) rfl rfl (hb hby dq17_3_11) _ k) ?_
  rw [len_of S552 M552]
  refine wt X547 hx hby 12 #[rv ar, rv b545, rv ar, iv (1 : Int32), .unset, .unset, .unset, .unset, .unset, .unset] dq17_3_12 rfl ?_
  try dsimp only [mkF]
  refine wc X547 hx hby 13 dq17_3_13 ?_
  refine wz X547 hx hby 14 #[rv ar, rv b545, rv ar, iv (1 : Int32), iv (0 : Int32), .unset, .unset, .unset, .unset, .unset] dq17_3_14 rfl ?_
  refine wm X547 hx hby 16 dq17_3_16 rfl ?_
  refine wl X547 hx hby 18 dq17_3_18 rfl ?_
  refine wn X547 hx hby 19 dq17_3_19 (tlt (by decide : (0 : Int32) < (1 : Int32))).2.1 ?_
  try dsimp only [mkF]
  refine wa X547 hx hby 22 dq17_3_22 rfl rfl ?_
  refine wm X547 hx hby 23 dq17_3_23 rfl ?_
  obtain ⟨c553, A553, q553, S553, M553, Hs553, Gs553⟩ := id f551
  have hi553 := inb_of (j := (0 : Int32)) S553 ⟨by decide, by decide⟩
  refine og (fun _ k => X547.aaload hx (j := (0 : Int32)) (v := (.ref x0)) (by rw [(rfl : T547.heap = T547.heap)]; exact A553.1) (State.isArrayOf_alike hZ.alike A553.2.1) rfl A553.2.2 hi553 (Has.at Hs553 hi553 rfl) (g := (mkF m 25 #[rv ar, rv b545, rv ar, iv (1 : Int32), iv (0 : Int32), .unset, .unset, .unset, .unset, .unset] [(.int (0 : Int32)), (.ref ar)])) rfl rfl (hb hby dq17_3_25) _ k) ?_
  refine wu X547 hx hby 26 #[rv ar, rv b545, rv ar, iv (1 : Int32), iv (0 : Int32), rv x0, .unset, .unset, .unset, .unset] dq17_3_26 rfl rfl ?_
  have hal0 : ∀ c ∈ ([] : List Int32), ¬ (255 : Int32) < c := fun c hc => nomatch hc
  have f555 := (Safe.keep K547 (sfS f548 sf0) C546.1 (Safe.new vg547))
  have f556 := (Safe.keep K547 (sfS f548 sf0) C546.1 f548)
  have f557 := ((E_x0.ext E545).keep K547)
  have ne558 : x0 ≠ b545 := Nat.ne_of_lt (Nat.lt_of_lt_of_le E_x0.lt (Nat.le_of_eq g545.symm))
  have f559 := ((Fv_x0.ext E545).keep K547 (ninS ne558 nin0))
  have f560 := ((Fc_x0.ext E545).keep K547 (ninS ne558 nin0))
  have ne561 : t0 ≠ b545 := Nat.ne_of_lt (Nat.lt_of_lt_of_le V_t0.lt (Nat.le_of_eq g545.symm))
  have f562 := ((V_t0.ext E545).keep K547 (ninS ne561 nin0))
  have f563 := ((X_t0.ext E545).keep K547)
  have ne564 : hA ≠ b545 := Nat.ne_of_lt (Nat.lt_of_lt_of_le V_h.lt (Nat.le_of_eq g545.symm))
  have f565 := ((V_h.ext E545).keep K547 (ninS ne564 nin0))
  have ne566 : x0 ≠ v547 := Nat.ne_of_lt (Nat.lt_of_lt_of_le (Nat.lt_of_lt_of_le E_x0.lt E545.1) vg547)
  have ne567 : t0 ≠ v547 := Nat.ne_of_lt (Nat.lt_of_lt_of_le (Nat.lt_of_lt_of_le V_t0.lt E545.1) vg547)
  have ne568 : hA ≠ v547 := Nat.ne_of_lt (Nat.lt_of_lt_of_le (Nat.lt_of_lt_of_le V_h.lt E545.1) vg547)
  have f569 := ((O0.ext E545).keep K547 (allS (Nat.le_trans Z0 (Nat.le_of_eq g545.symm)) all0))
  refine rm_psg l Z a0 hw b545 v547 kv547 16 ([] : List Int32) x0 t0 k0 sg0 cx0 Nx0 vx0 hA kh u8 (.ref ar) (1 : Int32) (0 : Int32) (.unset) (.unset) (.unset) (.unset) G1 G3 T547.heap n0 (cB := 2) (sB := 20) (rs := 0) (X547.loosen own_b own_b) hx hby hml hown hZ (rfl : T547.heap = T547.heap) N547 (Nat.le_trans Z0 (Nat.le_trans E545.1 K547.1)) f569 hS0 (Nat.zero_le _) C549.1 (A545.keep K547) Fv547 Fc547 Fn547 Vv547 Xv547 f555 f556 f557 f559 f560 f562 f563 f565 O2 P5 O4 rG3 OA OH OL OU OS OX (fun c hc => nomatch hc) own_ok0 ⟨by decide, by decide⟩ (Nat.le_trans Z0 (Nat.le_of_eq g545.symm)) (Nat.le_trans Z0 (Nat.le_trans E545.1 vg547)) (Or.inl rfl) hC_x0 ho_x0 h2_x0 hn_x0 ne558 ne566 ne561 ne567 ne564 ne568 (Or.inl rfl) (by decide) rfl (Or.inl rfl) (Or.inl rfl) (Or.inl rfl) (Or.inl rfl) own_b own_b own_b own_b ?_
  intro T554 L554 h554 vm554 k1554 v554 kv554 M554 rs554 s6554 s7554 s8554 s9554 X554 e554 N554 O554 K554 A554 hS554 hk554 hZ554 hown554 hoz554 SF554 Fv554 Fc554 Fn554 Vv554 Xv554 hR554 hM3554 hcl554 w6554 w7554 w8554 w9554
  have f570 := (((Keep.refl h0 []).ext E545).trans K547 (allS (Or.inr (Nat.le_of_eq g545.symm)) all0))
  have ne571 : ar ≠ v547 := Nat.ne_of_lt (Nat.lt_of_lt_of_le (Nat.lt_of_lt_of_le V_ar.lt E545.1) vg547)
  have nar_v554 : ar ≠ v554 := hoz554.elim (fun q => q ▸ ne571) (fun q => Nat.ne_of_lt (Nat.lt_of_lt_of_le (Nat.lt_of_lt_of_le V_ar.lt (Nat.le_trans E545.1 K547.1)) q))
  have nhA_v554 : hA ≠ v554 := hoz554.elim (fun q => q ▸ ne568) (fun q => Nat.ne_of_lt (Nat.lt_of_lt_of_le (Nat.lt_of_lt_of_le V_h.lt (Nat.le_trans E545.1 K547.1)) q))
  have gv554 : n0 ≤ v554 := hoz554.elim (fun q => q ▸ (Nat.le_trans Z0 (Nat.le_trans E545.1 vg547))) (fun q => Nat.le_trans (Nat.le_trans Z0 (Nat.le_trans E545.1 K547.1)) q)
  have ge554 : h0.size ≤ v554 := hoz554.elim (fun q => q ▸ (Nat.le_trans E545.1 vg547)) (fun q => Nat.le_trans (Nat.le_trans E545.1 K547.1) q)
  have C572 := C549.trans A554
  have f573 := ((A545.keep K547).keep K554)
  have nb_v554 := Exa.neArv f573 Vv554 (tw hw 37 rfl)
  have hpl554 := own_pcsl (own_u8s sg0)
  have hul554 := own_u8l3 sg0
  have hln554 : ((([] : List Int32) ++ [(47 : Int32)]) ++ own_pcs (own_u8s sg0)).length ≤ 19 := by rw [List.length_append, List.length_append]; show 0 + 1 + _ ≤ _; omega
  have hal554 := own_allA (own_allA hal0 (bs := [(47 : Int32)]) (fun c hc => by rw [List.mem_singleton.mp hc]; decide)) (fun c hc => (own_pcsb (own_u8s sg0) c hc).2)
  have hok554 := own_okAp (own_okAp own_ok0 (bs := [(47 : Int32)]) (fun c hc => by rw [List.mem_singleton.mp hc]; decide) (by show _ + 1 ≤ 4000; decide)) (own_pcsb (own_u8s sg0)) (by rw [List.length_append]; show _ + 1 + _ ≤ 4000; show 0 + 1 + _ ≤ 4000; omega)
  have hrs554 : rs554 ≤ 1 := by rcases hR554 with q | q <;> omega
  have hcm554 : own_cM M554 ≤ 2 ∧ own_sC M554 ≤ 140 ∧ M554 ≤ 70 := by rcases hM3554 with rfl | rfl | rfl <;> decide
  refine wi X554 hx hby 169 #[rv ar, rv b545, rv ar, iv (1 : Int32), iv (1 : Int32), rv x0, s6554, s7554, s8554, s9554] dq17_3_169 rfl rfl ?_
  try dsimp only [mkF]
  refine wg X554 hx hby 172 16 dq17_3_172 ?_
  refine wm X554 hx hby 16 dq17_3_16 rfl ?_
  refine wl X554 hx hby 18 dq17_3_18 rfl ?_
  refine wy X554 hx hby 19 175 dq17_3_19 (flt (by decide : ¬ ((1 : Int32) < (1 : Int32)))).2.1 ?_
  refine wa X554 hx hby 175 dq17_3_175 rfl rfl ?_
  try dsimp only [mkF]
  obtain ⟨cq574, kq574, q574a, q574b, q574c⟩ := isOf hZ554 e554 f573
  obtain ⟨v574, _, ⟨T574, L574, k574, n574⟩, -, X574, ⟨Lc574, hQ574, l574, y574, z574⟩, st574⟩ := X554.virtualBack hx (y := (⟨"java/lang/StringBuilder", "toString", "()Ljava/lang/String;"⟩ : MethodName)) (z := (⟨"java/lang/StringBuilder", "toString", "()Ljava/lang/String;"⟩ : MethodName)) hown554 (mvT hZ554 (tw hw 54 rfl)) (mvT hZ554 (tw hw 55 rfl)) (notFace_of_selects (args := #[]) (mvT hZ554 (tw hw 57 rfl))) (mvT hZ554 (tw hw 57 rfl)) (mvT hZ554 (tw hw 56 rfl)) own_b (backOf (W := 0) (rm_tos l Z a0 hw [] b545 v554 kv554 M554 ((([] : List Int32) ++ [(47 : Int32)]) ++ own_pcs (own_u8s sg0)) G1 G3 h554 n0 O554 O2 P5 O4 rG3 OA OH OL f573 Fv554 Fc554 Fn554 Vv554 Xv554 hal554 hok554 ⟨hcl554, hcm554.2.2⟩ (Nat.le_trans Z0 (Nat.le_of_eq g545.symm)) (Nat.le_trans Z0 ge554)) hZ554 (tw hw 58 rfl) (tw hw 38 rfl) own_b own_b) q574a q574c (g := (mkF m 176 #[rv ar, rv b545, rv ar, iv (1 : Int32), iv (1 : Int32), rv x0, s6554, s7554, s8554, s9554] [(.ref b545)])) rfl (by rw [hml]; rfl) (Steps.refl _) (argsL := []) (rest := []) (lenOf pd_39 rfl) rfl (by show 2 * 0 + _ ≤ _; exact Nat.le_of_eq rfl) (hb hby dq17_3_176) (fun _ _ => ⟨rfl, e554, own_b, own_b⟩)
  dsimp only [Pt.U, Pt.locs, Pt.cells, Pt.slots] at X574 l574 y574 z574 st574 hQ574
  subst l574 y574 z574
  refine own_gos st574 ?_
  obtain ⟨x574, t574, kt574, rfl, Nq574, K574, xg574, Ex574, Fv574, Fc574, Vt574, ho574, ha574⟩ := hQ574
  have C575 := C572.trans (CHr.keep K574 sf0 C572.1)
  have N574 := Fr.app N554 Nq574
  have f576 := ((f570.trans K554 (allS (Or.inr (Nat.le_of_eq g545.symm)) (allS (Or.inr (Nat.le_trans E545.1 vg547)) all0))).trans K574 all0)
  have z577 := (Nat.le_trans (Nat.le_trans E545.1 K547.1) K554.1)
  refine own_finW (v := (some (.ref x574))) X574 hh hZ554 hS554 (by rw [(rfl : T574.heap = T574.heap)]; exact (Nat.le_trans hk554 K574.1)) (fun h => by rw [hrt] at h; cases h) hlk (fun fs hr => retR X574 hx hrt (by rfl) rfl rfl (hb hby dq17_3_179) hr) (QQ := QStrL Z ((([] : List Int32) ++ [(47 : Int32)]) ++ own_pcs (own_u8s sg0)) h0 n0) ?_ own_hEL (rfl : T574.heap = T574.heap) (C575) own_b own_b
  exact ⟨x574, t574, _, rfl, N574, f576, (Nat.le_trans z577 xg574), Ex574, Fv574, Fc574, Vt574, ho574, ha574⟩

set_option maxRecDepth 65536 in
set_option maxHeartbeats 40000000 in
theorem rm_pth2 (l : Launch) (Z : State) (a0 : Array Value) (hw : ∀ d ∈ tables_1, d.before a0 Z = true) (ws : List Jvm.Cond) (ar : Addr) (kar : ClassId) (x0 t0 : Addr) (k0 : ClassId) (sg0 : List Int32) (cx0 Nx0 : Int32) (vx0 : List Value) (x1 t1 : Addr) (k1 : ClassId) (sg1 : List Int32) (cx1 Nx1 : Int32) (vx1 : List Value) (hA : Addr) (kh : ClassId) (u8 : Addr) (G1 : Int32) (G3 : Value) (h0 : Heap) (n0 : Nat) (O0 : Old Z n0 h0) (O2 : Sta Z Z.heap "java/lang/String" "COMPACT_STRINGS" "Z" (.int G1)) (P5 : ¬ (G1 = (0 : Int32))) (O4 : Sta Z Z.heap "jdk/internal/util/Preconditions" "SIOOBE_FORMATTER" "Ljava/util/function/BiFunction;" G3) (rG3 : G3.isRef = true) (OA : Sta Z Z.heap "java/lang/StringUTF16" "$assertionsDisabled" "Z" (.int (1 : Int32))) (OH : Sta Z Z.heap "java/lang/StringUTF16" "HI_BYTE_SHIFT" "I" (.int (0 : Int32))) (OL : Sta Z Z.heap "java/lang/StringUTF16" "LO_BYTE_SHIFT" "I" (.int (8 : Int32))) (OU : Sta Z Z.heap "sun/nio/cs/UTF_8" "INSTANCE" "Lsun/nio/cs/UTF_8;" (.ref u8)) (OS : Sta Z Z.heap "java/nio/charset/StandardCharsets" "UTF_8" "Ljava/nio/charset/Charset;" (.ref u8)) (OX : Sta Z Z.heap "com/example/cohortwise/cohortwise/http/Requests" "HEX" "[C" (.ref hA)) (V_ar : Arv Z h0 ar kar (.object "java/lang/String") (2 : Int32) [(.ref x0), (.ref x1)] .null) (E_x0 : Exa Z h0 x0 "java/lang/String") (Fv_x0 : Fld Z h0 x0 "java/lang/String" "value" "[B" (.ref t0)) (Fc_x0 : Fld Z h0 x0 "java/lang/String" "coder" "B" (.int cx0)) (V_t0 : Arv Z h0 t0 k0 .byte Nx0 vx0 (.int (0 : Int32))) (X_t0 : Exa Z h0 t0 "[B") (hC_x0 : StrChars.Road.CodA sg0 cx0 Nx0 vx0) (ho_x0 : own_Ok sg0) (h2_x0 : sg0.length ≤ 2) (hn_x0 : ∀ c ∈ sg0, c < (55296 : Int32) ∨ (57343 : Int32) < c) (E_x1 : Exa Z h0 x1 "java/lang/String") (Fv_x1 : Fld Z h0 x1 "java/lang/String" "value" "[B" (.ref t1)) (Fc_x1 : Fld Z h0 x1 "java/lang/String" "coder" "B" (.int cx1)) (V_t1 : Arv Z h0 t1 k1 .byte Nx1 vx1 (.int (0 : Int32))) (X_t1 : Exa Z h0 t1 "[B") (hC_x1 : StrChars.Road.CodA sg1 cx1 Nx1 vx1) (ho_x1 : own_Ok sg1) (h2_x1 : sg1.length ≤ 2) (hn_x1 : ∀ c ∈ sg1, c < (55296 : Int32) ∨ (57343 : Int32) < c) (V_h : Arv Z h0 hA kh .char (16 : Int32) (own_HEX.map Value.int) (.int (0 : Int32))) :
    own_TW l Z ws h0 (⟨"com/example/cohortwise/cohortwise/http/Requests", "path", "([Ljava/lang/String;)Ljava/lang/String;"⟩ : MethodName) prog_17_method_3_code 10 (some (.object "java/lang/String")) ⟨6, 12, 278, 99⟩ #[(.ref ar)] (QStrL Z ((((([] : List Int32) ++ [(47 : Int32)]) ++ own_pcs (own_u8s sg0)) ++ [(47 : Int32)]) ++ own_pcs (own_u8s sg1)) h0 n0) 12 278 := by
  refine own_bW "com/example/cohortwise/cohortwise/http/Requests" #[rv ar, .unset, .unset, .unset, .unset, .unset, .unset, .unset, .unset, .unset] hw (pf pn_11 rfl) rfl O0 (fun m => own_e) ?_
  intro p e s m below meth cC s₁ hZ hh hx hby hml hown hnm hrt hlk X0 e0 N0 Z0 hS0 C0 own_wS own_hEL
  obtain ⟨T578, h578, X578, e578, E578, A578, D578, U578, st578⟩ := newO X0 hx hZ hown (tw hw 36 rfl) (tw hw 37 rfl) (tw hw 38 rfl) e0 (g := (mkF m 0 #[rv ar, .unset, .unset, .unset, .unset, .unset, .unset, .unset, .unset, .unset] [])) rfl (hb hby dq17_3_0) (by decide) (by decide)
  obtain ⟨b578, g578⟩ : ∃ z, z = h0.size := ⟨_, rfl⟩
  rw [← g578] at A578 D578 U578 st578
  refine own_go st578 ?_
  have C579 := C0.trans (CHr.ext E578 C0.1)
  have F578_value : Fld Z h578 b578 "java/lang/AbstractStringBuilder" "value" "[B" .null := D578 (Or.inl (tw hw 51 rfl)) (ty := (.array .byte)) (by decide)
  have F578_coder : Fld Z h578 b578 "java/lang/AbstractStringBuilder" "coder" "B" (.int (0 : Int32)) := D578 (Or.inl (tw hw 53 rfl)) (ty := .byte) (by decide)
  have F578_count : Fld Z h578 b578 "java/lang/AbstractStringBuilder" "count" "I" (.int (0 : Int32)) := D578 (Or.inl (tw hw 81 rfl)) (ty := .int) (by decide)
  refine og (fun _ k => XS.dup X578.here hx rfl (hb hby dq17_3_3) rfl rfl k) ?_
  obtain ⟨v580, _, ⟨T580, L580, k580, n580⟩, -, X580, ⟨Lc580, hQ580, l580, y580, z580⟩, st580⟩ := X578.specialBack hx (y := (⟨"java/lang/StringBuilder", "<init>", "()V"⟩ : MethodName)) rfl hown (mvT hZ (tw hw 39 rfl)) (mvT hZ (tw hw 40 rfl)) (mvT hZ (tw hw 41 rfl)) (by decide) (backOf (W := 1) (rm_sb l Z a0 hw [] b578 G1 h578 n0 (O0.ext E578) A578 F578_value F578_coder F578_count (Nat.le_trans Z0 (Nat.le_of_eq g578.symm)) O2 P5) hZ (tw hw 41 rfl) (tw hw 38 rfl) (by decide) (by decide)) (g := (mkF m 4 #[rv ar, .unset, .unset, .unset, .unset, .unset, .unset, .unset, .unset, .unset] [(.ref b578), (.ref b578)])) rfl (by rw [hml]; rfl) (Steps.refl _) (a := b578) (argsL := []) (rest := [(.ref b578)]) (lenOf pd_38 rfl) rfl (by show 2 * 0 + _ ≤ _; exact Nat.le_of_eq rfl) (hb hby dq17_3_4) (fun _ _ => ⟨rfl, e578, (by decide : 1 + 1 ≤ _), (by decide : 4 + 16 ≤ _)⟩)
  dsimp only [Pt.U, Pt.locs, Pt.cells, Pt.slots] at X580 l580 y580 z580 st580 hQ580
  subst l580 y580 z580
  refine own_gos st580 ?_
  obtain ⟨v580, kv580, rfl, Nq580, K580, vg580, Fv580, Fc580, Fn580, Vv580, Xv580⟩ := hQ580
  have f581 := (Safe.ext E578 C0.1 (Safe.new (Nat.le_of_eq g578.symm)))
  have C582 := C579.trans (CHr.keep K580 (sfS f581 sf0) C579.1)
  have N580 := Fr.app N0 Nq580
  refine wv X580 hx hby 7 #[rv ar, rv b578, .unset, .unset, .unset, .unset, .unset, .unset, .unset, .unset] dq17_3_7 rfl rfl ?_
  try dsimp only [mkF]
  refine wa X580 hx hby 8 dq17_3_8 rfl rfl ?_
  refine wv X580 hx hby 9 #[rv ar, rv b578, rv ar, .unset, .unset, .unset, .unset, .unset, .unset, .unset] dq17_3_9 rfl rfl ?_
  refine wa X580 hx hby 10 dq17_3_10 rfl rfl ?_
  have ne583 : ar ≠ b578 := Nat.ne_of_lt (Nat.lt_of_lt_of_le V_ar.lt (Nat.le_of_eq g578.symm))
  have f584 := ((V_ar.ext E578).keep K580 (ninS ne583 nin0))
  obtain ⟨c585, A585, q585, S585, M585, Hs585, Gs585⟩ := id f584
  refine og (fun _ k => X580.arraylength hx (by rw [(rfl : T580.heap = T580.heap)]; exact A585.1) (State.isArrayOf_alike hZ.alike A585.2.1) (g := (mkF m 11 #[rv ar, rv b578, rv ar, .unset, .unset, .unset, .unset, .unset, .unset, .unset] [(.ref ar)])) rfl rfl (hb hby dq17_3_11) _ k) ?_
  rw [len_of S585 M585]
  refine wt X580 hx hby 12 #[rv ar, rv b578, rv ar, iv (2 : Int32), .unset, .unset, .unset, .unset, .unset, .unset] dq17_3_12 rfl ?_
  try dsimp only [mkF]
  refine wc X580 hx hby 13 dq17_3_13 ?_
  refine wz X580 hx hby 14 #[rv ar, rv b578, rv ar, iv (2 : Int32), iv (0 : Int32), .unset, .unset, .unset, .unset, .unset] dq17_3_14 rfl ?_
  refine wm X580 hx hby 16 dq17_3_16 rfl ?_
  refine wl X580 hx hby 18 dq17_3_18 rfl ?_
  refine wn X580 hx hby 19 dq17_3_19 (tlt (by decide : (0 : Int32) < (2 : Int32))).2.1 ?_
  try dsimp only [mkF]
  refine wa X580 hx hby 22 dq17_3_22 rfl rfl ?_
  refine wm X580 hx hby 23 dq17_3_23 rfl ?_
  obtain ⟨c586, A586, q586, S586, M586, Hs586, Gs586⟩ := id f584
  have hi586 := inb_of (j := (0 : Int32)) S586 ⟨by decide, by decide⟩
  refine og (fun _ k => X580.aaload hx (j := (0 : Int32)) (v := (.ref x0)) (by rw [(rfl : T580.heap = T580.heap)]; exact A586.1) (State.isArrayOf_alike hZ.alike A586.2.1) rfl A586.2.2 hi586 (Has.at Hs586 hi586 rfl) (g := (mkF m 25 #[rv ar, rv b578, rv ar, iv (2 : Int32), iv (0 : Int32), .unset, .unset, .unset, .unset, .unset] [(.int (0 : Int32)), (.ref ar)])) rfl rfl (hb hby dq17_3_25) _ k) ?_
  refine wu X580 hx hby 26 #[rv ar, rv b578, rv ar, iv (2 : Int32), iv (0 : Int32), rv x0, .unset, .unset, .unset, .unset] dq17_3_26 rfl rfl ?_
  have hal0 : ∀ c ∈ ([] : List Int32), ¬ (255 : Int32) < c := fun c hc => nomatch hc
  have f588 := (Safe.keep K580 (sfS f581 sf0) C579.1 (Safe.new vg580))
  have f589 := (Safe.keep K580 (sfS f581 sf0) C579.1 f581)
  have f590 := ((E_x0.ext E578).keep K580)
  have ne591 : x0 ≠ b578 := Nat.ne_of_lt (Nat.lt_of_lt_of_le E_x0.lt (Nat.le_of_eq g578.symm))
  have f592 := ((Fv_x0.ext E578).keep K580 (ninS ne591 nin0))
  have f593 := ((Fc_x0.ext E578).keep K580 (ninS ne591 nin0))
  have ne594 : t0 ≠ b578 := Nat.ne_of_lt (Nat.lt_of_lt_of_le V_t0.lt (Nat.le_of_eq g578.symm))
  have f595 := ((V_t0.ext E578).keep K580 (ninS ne594 nin0))
  have f596 := ((X_t0.ext E578).keep K580)
  have ne597 : hA ≠ b578 := Nat.ne_of_lt (Nat.lt_of_lt_of_le V_h.lt (Nat.le_of_eq g578.symm))
  have f598 := ((V_h.ext E578).keep K580 (ninS ne597 nin0))
  have ne599 : x0 ≠ v580 := Nat.ne_of_lt (Nat.lt_of_lt_of_le (Nat.lt_of_lt_of_le E_x0.lt E578.1) vg580)
  have ne600 : t0 ≠ v580 := Nat.ne_of_lt (Nat.lt_of_lt_of_le (Nat.lt_of_lt_of_le V_t0.lt E578.1) vg580)
  have ne601 : hA ≠ v580 := Nat.ne_of_lt (Nat.lt_of_lt_of_le (Nat.lt_of_lt_of_le V_h.lt E578.1) vg580)
  have f602 := ((O0.ext E578).keep K580 (allS (Nat.le_trans Z0 (Nat.le_of_eq g578.symm)) all0))
  refine rm_psg l Z a0 hw b578 v580 kv580 16 ([] : List Int32) x0 t0 k0 sg0 cx0 Nx0 vx0 hA kh u8 (.ref ar) (2 : Int32) (0 : Int32) (.unset) (.unset) (.unset) (.unset) G1 G3 T580.heap n0 (cB := 2) (sB := 20) (rs := 0) (X580.loosen own_b own_b) hx hby hml hown hZ (rfl : T580.heap = T580.heap) N580 (Nat.le_trans Z0 (Nat.le_trans E578.1 K580.1)) f602 hS0 (Nat.zero_le _) C582.1 (A578.keep K580) Fv580 Fc580 Fn580 Vv580 Xv580 f588 f589 f590 f592 f593 f595 f596 f598 O2 P5 O4 rG3 OA OH OL OU OS OX (fun c hc => nomatch hc) own_ok0 ⟨by decide, by decide⟩ (Nat.le_trans Z0 (Nat.le_of_eq g578.symm)) (Nat.le_trans Z0 (Nat.le_trans E578.1 vg580)) (Or.inl rfl) hC_x0 ho_x0 h2_x0 hn_x0 ne591 ne599 ne594 ne600 ne597 ne601 (Or.inl rfl) (by decide) rfl (Or.inl rfl) (Or.inl rfl) (Or.inl rfl) (Or.inl rfl) own_b own_b own_b own_b ?_
  intro T587 L587 h587 vm587 k1587 v587 kv587 M587 rs587 s6587 s7587 s8587 s9587 X587 e587 N587 O587 K587 A587 hS587 hk587 hZ587 hown587 hoz587 SF587 Fv587 Fc587 Fn587 Vv587 Xv587 hR587 hM3587 hcl587 w6587 w7587 w8587 w9587
  have f603 := (((Keep.refl h0 []).ext E578).trans K580 (allS (Or.inr (Nat.le_of_eq g578.symm)) all0))
  have ne604 : ar ≠ v580 := Nat.ne_of_lt (Nat.lt_of_lt_of_le (Nat.lt_of_lt_of_le V_ar.lt E578.1) vg580)
  have nar_v587 : ar ≠ v587 := hoz587.elim (fun q => q ▸ ne604) (fun q => Nat.ne_of_lt (Nat.lt_of_lt_of_le (Nat.lt_of_lt_of_le V_ar.lt (Nat.le_trans E578.1 K580.1)) q))
  have nhA_v587 : hA ≠ v587 := hoz587.elim (fun q => q ▸ ne601) (fun q => Nat.ne_of_lt (Nat.lt_of_lt_of_le (Nat.lt_of_lt_of_le V_h.lt (Nat.le_trans E578.1 K580.1)) q))
  have ne605 : x1 ≠ v580 := Nat.ne_of_lt (Nat.lt_of_lt_of_le (Nat.lt_of_lt_of_le E_x1.lt E578.1) vg580)
  have nx1_v587 : x1 ≠ v587 := hoz587.elim (fun q => q ▸ ne605) (fun q => Nat.ne_of_lt (Nat.lt_of_lt_of_le (Nat.lt_of_lt_of_le E_x1.lt (Nat.le_trans E578.1 K580.1)) q))
  have ne606 : t1 ≠ v580 := Nat.ne_of_lt (Nat.lt_of_lt_of_le (Nat.lt_of_lt_of_le V_t1.lt E578.1) vg580)
  have nt1_v587 : t1 ≠ v587 := hoz587.elim (fun q => q ▸ ne606) (fun q => Nat.ne_of_lt (Nat.lt_of_lt_of_le (Nat.lt_of_lt_of_le V_t1.lt (Nat.le_trans E578.1 K580.1)) q))
  have gv587 : n0 ≤ v587 := hoz587.elim (fun q => q ▸ (Nat.le_trans Z0 (Nat.le_trans E578.1 vg580))) (fun q => Nat.le_trans (Nat.le_trans Z0 (Nat.le_trans E578.1 K580.1)) q)
  have ge587 : h0.size ≤ v587 := hoz587.elim (fun q => q ▸ (Nat.le_trans E578.1 vg580)) (fun q => Nat.le_trans (Nat.le_trans E578.1 K580.1) q)
  have C607 := C582.trans A587
  have f608 := ((A578.keep K580).keep K587)
  have nb_v587 := Exa.neArv f608 Vv587 (tw hw 37 rfl)
  have hpl587 := own_pcsl (own_u8s sg0)
  have hul587 := own_u8l3 sg0
  have hln587 : ((([] : List Int32) ++ [(47 : Int32)]) ++ own_pcs (own_u8s sg0)).length ≤ 19 := by rw [List.length_append, List.length_append]; show 0 + 1 + _ ≤ _; omega
  have hal587 := own_allA (own_allA hal0 (bs := [(47 : Int32)]) (fun c hc => by rw [List.mem_singleton.mp hc]; decide)) (fun c hc => (own_pcsb (own_u8s sg0) c hc).2)
  have hok587 := own_okAp (own_okAp own_ok0 (bs := [(47 : Int32)]) (fun c hc => by rw [List.mem_singleton.mp hc]; decide) (by show _ + 1 ≤ 4000; decide)) (own_pcsb (own_u8s sg0)) (by rw [List.length_append]; show _ + 1 + _ ≤ 4000; show 0 + 1 + _ ≤ 4000; omega)
  have hrs587 : rs587 ≤ 1 := by rcases hR587 with q | q <;> omega
  have hcm587 : own_cM M587 ≤ 2 ∧ own_sC M587 ≤ 140 ∧ M587 ≤ 70 := by rcases hM3587 with rfl | rfl | rfl <;> decide
  refine wi X587 hx hby 169 #[rv ar, rv b578, rv ar, iv (2 : Int32), iv (1 : Int32), rv x0, s6587, s7587, s8587, s9587] dq17_3_169 rfl rfl ?_
  try dsimp only [mkF]
  refine wg X587 hx hby 172 16 dq17_3_172 ?_
  refine wm X587 hx hby 16 dq17_3_16 rfl ?_
  refine wl X587 hx hby 18 dq17_3_18 rfl ?_
  refine wn X587 hx hby 19 dq17_3_19 (tlt (by decide : (1 : Int32) < (2 : Int32))).2.1 ?_
  refine wa X587 hx hby 22 dq17_3_22 rfl rfl ?_
  try dsimp only [mkF]
  refine wm X587 hx hby 23 dq17_3_23 rfl ?_
  have f609 := (f584.keep K587 (ninS ne583 (ninS ne604 nin0)))
  obtain ⟨c610, A610, q610, S610, M610, Hs610, Gs610⟩ := id f609
  have hi610 := inb_of (j := (1 : Int32)) S610 ⟨by decide, by decide⟩
  refine og (fun _ k => X587.aaload hx (j := (1 : Int32)) (v := (.ref x1)) (by rw [e587]; exact A610.1) (State.isArrayOf_alike hZ587.alike A610.2.1) rfl A610.2.2 hi610 (Has.at Hs610 hi610 rfl) (g := (mkF m 25 #[rv ar, rv b578, rv ar, iv (2 : Int32), iv (1 : Int32), rv x0, s6587, s7587, s8587, s9587] [(.int (1 : Int32)), (.ref ar)])) rfl rfl (hb hby dq17_3_25) _ k) ?_
  refine wu X587 hx hby 26 #[rv ar, rv b578, rv ar, iv (2 : Int32), iv (1 : Int32), rv x1, s6587, s7587, s8587, s9587] dq17_3_26 rfl rfl ?_
  have f612 := (A587.safe (Nat.lt_of_lt_of_le A578.lt K580.1) f589)
  have f613 := (((E_x1.ext E578).keep K580).keep K587)
  have ne614 : x1 ≠ b578 := Nat.ne_of_lt (Nat.lt_of_lt_of_le E_x1.lt (Nat.le_of_eq g578.symm))
  have f615 := (((Fv_x1.ext E578).keep K580 (ninS ne614 nin0)).keep K587 (ninS ne614 (ninS ne605 nin0)))
  have f616 := (((Fc_x1.ext E578).keep K580 (ninS ne614 nin0)).keep K587 (ninS ne614 (ninS ne605 nin0)))
  have ne617 : t1 ≠ b578 := Nat.ne_of_lt (Nat.lt_of_lt_of_le V_t1.lt (Nat.le_of_eq g578.symm))
  have f618 := (((V_t1.ext E578).keep K580 (ninS ne617 nin0)).keep K587 (ninS ne617 (ninS ne606 nin0)))
  have f619 := (((X_t1.ext E578).keep K580).keep K587)
  have f620 := (f598.keep K587 (ninS ne597 (ninS ne601 nin0)))
  have z621 := (Nat.le_trans (Nat.le_trans E578.1 K580.1) K587.1)
  refine rm_psg l Z a0 hw b578 v587 kv587 M587 ((([] : List Int32) ++ [(47 : Int32)]) ++ own_pcs (own_u8s sg0)) x1 t1 k1 sg1 cx1 Nx1 vx1 hA kh u8 (.ref ar) (2 : Int32) (1 : Int32) s6587 s7587 s8587 s9587 G1 G3 h587 n0 (cB := (2 + 2)) (sB := (20 + 12)) (rs := rs587) (X587.loosen own_b own_b) hx hby hml hown587 hZ587 e587 N587 (Nat.le_trans Z0 z621) O587 hS587 hk587 C607.1 f608 Fv587 Fc587 Fn587 Vv587 Xv587 SF587 f612 f613 f615 f616 f618 f619 f620 O2 P5 O4 rG3 OA OH OL OU OS OX hal587 hok587 ⟨hcl587, hcm587.2.2⟩ (Nat.le_trans Z0 (Nat.le_of_eq g578.symm)) (Nat.le_trans Z0 ge587) hM3587 hC_x1 ho_x1 h2_x1 hn_x1 ne614 nx1_v587 ne617 nt1_v587 ne597 nhA_v587 hR587 (by omega) rfl (Or.inr w6587) (Or.inr w7587) (Or.inr w8587) w9587 own_b own_b own_b own_b ?_
  intro T611 L611 h611 vm611 k1611 v611 kv611 M611 rs611 s6611 s7611 s8611 s9611 X611 e611 N611 O611 K611 A611 hS611 hk611 hZ611 hown611 hoz611 SF611 Fv611 Fc611 Fn611 Vv611 Xv611 hR611 hM3611 hcl611 w6611 w7611 w8611 w9611
  have f622 := (f603.trans K587 (allS (Or.inr (Nat.le_of_eq g578.symm)) (allS (Or.inr (Nat.le_trans E578.1 vg580)) all0)))
  have nar_v611 : ar ≠ v611 := hoz611.elim (fun q => q ▸ nar_v587) (fun q => Nat.ne_of_lt (Nat.lt_of_lt_of_le (Nat.lt_of_lt_of_le V_ar.lt z621) q))
  have nhA_v611 : hA ≠ v611 := hoz611.elim (fun q => q ▸ nhA_v587) (fun q => Nat.ne_of_lt (Nat.lt_of_lt_of_le (Nat.lt_of_lt_of_le V_h.lt z621) q))
  have gv611 : n0 ≤ v611 := hoz611.elim (fun q => q ▸ (Nat.le_trans Z0 ge587)) (fun q => Nat.le_trans (Nat.le_trans Z0 z621) q)
  have ge611 : h0.size ≤ v611 := hoz611.elim (fun q => q ▸ ge587) (fun q => Nat.le_trans z621 q)
  have C623 := C607.trans A611
  have nb_v611 := Exa.neArv (f608.keep K611) Vv611 (tw hw 37 rfl)
  have hpl611 := own_pcsl (own_u8s sg1)
  have hul611 := own_u8l3 sg1
  have hln611 : ((((([] : List Int32) ++ [(47 : Int32)]) ++ own_pcs (own_u8s sg0)) ++ [(47 : Int32)]) ++ own_pcs (own_u8s sg1)).length ≤ 38 := by rw [List.length_append, List.length_append]; show _ + 1 + _ ≤ _; omega
  have hal611 := own_allA (own_allA hal587 (bs := [(47 : Int32)]) (fun c hc => by rw [List.mem_singleton.mp hc]; decide)) (fun c hc => (own_pcsb (own_u8s sg1) c hc).2)
  have hok611 := own_okAp (own_okAp hok587 (bs := [(47 : Int32)]) (fun c hc => by rw [List.mem_singleton.mp hc]; decide) (by show _ + 1 ≤ 4000; omega)) (own_pcsb (own_u8s sg1)) (by rw [List.length_append]; show _ + 1 + _ ≤ 4000; omega)
  have hrs611 : rs611 ≤ 1 := by rcases hR611 with q | q <;> omega
  have hcm611 : own_cM M611 ≤ 2 ∧ own_sC M611 ≤ 140 ∧ M611 ≤ 70 := by rcases hM3611 with rfl | rfl | rfl <;> decide
  refine wi X611 hx hby 169 #[rv ar, rv b578, rv ar, iv (2 : Int32), iv (2 : Int32), rv x1, s6611, s7611, s8611, s9611] dq17_3_169 rfl rfl ?_
  refine wg X611 hx hby 172 16 dq17_3_172 ?_
  try dsimp only [mkF]
  refine wm X611 hx hby 16 dq17_3_16 rfl ?_
  refine wl X611 hx hby 18 dq17_3_18 rfl ?_
  refine wy X611 hx hby 19 175 dq17_3_19 (flt (by decide : ¬ ((2 : Int32) < (2 : Int32)))).2.1 ?_
  refine wa X611 hx hby 175 dq17_3_175 rfl rfl ?_
  obtain ⟨cq624, kq624, q624a, q624b, q624c⟩ := isOf hZ611 e611 (f608.keep K611)
  obtain ⟨v624, _, ⟨T624, L624, k624, n624⟩, -, X624, ⟨Lc624, hQ624, l624, y624, z624⟩, st624⟩ := X611.virtualBack hx (y := (⟨"java/lang/StringBuilder", "toString", "()Ljava/lang/String;"⟩ : MethodName)) (z := (⟨"java/lang/StringBuilder", "toString", "()Ljava/lang/String;"⟩ : MethodName)) hown611 (mvT hZ611 (tw hw 54 rfl)) (mvT hZ611 (tw hw 55 rfl)) (notFace_of_selects (args := #[]) (mvT hZ611 (tw hw 57 rfl))) (mvT hZ611 (tw hw 57 rfl)) (mvT hZ611 (tw hw 56 rfl)) own_b (backOf (W := 0) (rm_tos l Z a0 hw [] b578 v611 kv611 M611 ((((([] : List Int32) ++ [(47 : Int32)]) ++ own_pcs (own_u8s sg0)) ++ [(47 : Int32)]) ++ own_pcs (own_u8s sg1)) G1 G3 h611 n0 O611 O2 P5 O4 rG3 OA OH OL (f608.keep K611) Fv611 Fc611 Fn611 Vv611 Xv611 hal611 hok611 ⟨hcl611, hcm611.2.2⟩ (Nat.le_trans Z0 (Nat.le_of_eq g578.symm)) (Nat.le_trans Z0 ge611)) hZ611 (tw hw 58 rfl) (tw hw 38 rfl) own_b own_b) q624a q624c (g := (mkF m 176 #[rv ar, rv b578, rv ar, iv (2 : Int32), iv (2 : Int32), rv x1, s6611, s7611, s8611, s9611] [(.ref b578)])) rfl (by rw [hml]; rfl) (Steps.refl _) (argsL := []) (rest := []) (lenOf pd_39 rfl) rfl (by show 2 * 0 + _ ≤ _; exact Nat.le_of_eq rfl) (hb hby dq17_3_176) (fun _ _ => ⟨rfl, e611, own_b, own_b⟩)
  dsimp only [Pt.U, Pt.locs, Pt.cells, Pt.slots] at X624 l624 y624 z624 st624 hQ624
  subst l624 y624 z624
  refine own_gos st624 ?_
  obtain ⟨x624, t624, kt624, rfl, Nq624, K624, xg624, Ex624, Fv624, Fc624, Vt624, ho624, ha624⟩ := hQ624
  have C625 := C623.trans (CHr.keep K624 sf0 C623.1)
  have N624 := Fr.app N611 Nq624
  try dsimp only [mkF]
  have f626 := ((f622.trans K611 (allS (Or.inr (Nat.le_of_eq g578.symm)) (allS (Or.inr ge587) all0))).trans K624 all0)
  refine own_finW (v := (some (.ref x624))) X624 hh hZ611 hS611 (by rw [(rfl : T624.heap = T624.heap)]; exact (Nat.le_trans hk611 K624.1)) (fun h => by rw [hrt] at h; cases h) hlk (fun fs hr => retR X624 hx hrt (by rfl) rfl rfl (hb hby dq17_3_179) hr) (QQ := QStrL Z ((((([] : List Int32) ++ [(47 : Int32)]) ++ own_pcs (own_u8s sg0)) ++ [(47 : Int32)]) ++ own_pcs (own_u8s sg1)) h0 n0) ?_ own_hEL (rfl : T624.heap = T624.heap) (C625) own_b own_b
  exact ⟨x624, t624, _, rfl, N624, f626, (Nat.le_trans (Nat.le_trans z621 K611.1) xg624), Ex624, Fv624, Fc624, Vt624, ho624, ha624⟩

set_option maxRecDepth 65536 in
set_option maxHeartbeats 40000000 in
theorem rm_pth3 (l : Launch) (Z : State) (a0 : Array Value) (hw : ∀ d ∈ tables_1, d.before a0 Z = true) (ws : List Jvm.Cond) (ar : Addr) (kar : ClassId) (x0 t0 : Addr) (k0 : ClassId) (sg0 : List Int32) (cx0 Nx0 : Int32) (vx0 : List Value) (x1 t1 : Addr) (k1 : ClassId) (sg1 : List Int32) (cx1 Nx1 : Int32) (vx1 : List Value) (x2 t2 : Addr) (k2 : ClassId) (sg2 : List Int32) (cx2 Nx2 : Int32) (vx2 : List Value) (hA : Addr) (kh : ClassId) (u8 : Addr) (G1 : Int32) (G3 : Value) (h0 : Heap) (n0 : Nat) (O0 : Old Z n0 h0) (O2 : Sta Z Z.heap "java/lang/String" "COMPACT_STRINGS" "Z" (.int G1)) (P5 : ¬ (G1 = (0 : Int32))) (O4 : Sta Z Z.heap "jdk/internal/util/Preconditions" "SIOOBE_FORMATTER" "Ljava/util/function/BiFunction;" G3) (rG3 : G3.isRef = true) (OA : Sta Z Z.heap "java/lang/StringUTF16" "$assertionsDisabled" "Z" (.int (1 : Int32))) (OH : Sta Z Z.heap "java/lang/StringUTF16" "HI_BYTE_SHIFT" "I" (.int (0 : Int32))) (OL : Sta Z Z.heap "java/lang/StringUTF16" "LO_BYTE_SHIFT" "I" (.int (8 : Int32))) (OU : Sta Z Z.heap "sun/nio/cs/UTF_8" "INSTANCE" "Lsun/nio/cs/UTF_8;" (.ref u8)) (OS : Sta Z Z.heap "java/nio/charset/StandardCharsets" "UTF_8" "Ljava/nio/charset/Charset;" (.ref u8)) (OX : Sta Z Z.heap "com/example/cohortwise/cohortwise/http/Requests" "HEX" "[C" (.ref hA)) (V_ar : Arv Z h0 ar kar (.object "java/lang/String") (3 : Int32) [(.ref x0), (.ref x1), (.ref x2)] .null) (E_x0 : Exa Z h0 x0 "java/lang/String") (Fv_x0 : Fld Z h0 x0 "java/lang/String" "value" "[B" (.ref t0)) (Fc_x0 : Fld Z h0 x0 "java/lang/String" "coder" "B" (.int cx0)) (V_t0 : Arv Z h0 t0 k0 .byte Nx0 vx0 (.int (0 : Int32))) (X_t0 : Exa Z h0 t0 "[B") (hC_x0 : StrChars.Road.CodA sg0 cx0 Nx0 vx0) (ho_x0 : own_Ok sg0) (h2_x0 : sg0.length ≤ 2) (hn_x0 : ∀ c ∈ sg0, c < (55296 : Int32) ∨ (57343 : Int32) < c) (E_x1 : Exa Z h0 x1 "java/lang/String") (Fv_x1 : Fld Z h0 x1 "java/lang/String" "value" "[B" (.ref t1)) (Fc_x1 : Fld Z h0 x1 "java/lang/String" "coder" "B" (.int cx1)) (V_t1 : Arv Z h0 t1 k1 .byte Nx1 vx1 (.int (0 : Int32))) (X_t1 : Exa Z h0 t1 "[B") (hC_x1 : StrChars.Road.CodA sg1 cx1 Nx1 vx1) (ho_x1 : own_Ok sg1) (h2_x1 : sg1.length ≤ 2) (hn_x1 : ∀ c ∈ sg1, c < (55296 : Int32) ∨ (57343 : Int32) < c) (E_x2 : Exa Z h0 x2 "java/lang/String") (Fv_x2 : Fld Z h0 x2 "java/lang/String" "value" "[B" (.ref t2)) (Fc_x2 : Fld Z h0 x2 "java/lang/String" "coder" "B" (.int cx2)) (V_t2 : Arv Z h0 t2 k2 .byte Nx2 vx2 (.int (0 : Int32))) (X_t2 : Exa Z h0 t2 "[B") (hC_x2 : StrChars.Road.CodA sg2 cx2 Nx2 vx2) (ho_x2 : own_Ok sg2) (h2_x2 : sg2.length ≤ 2) (hn_x2 : ∀ c ∈ sg2, c < (55296 : Int32) ∨ (57343 : Int32) < c) (V_h : Arv Z h0 hA kh .char (16 : Int32) (own_HEX.map Value.int) (.int (0 : Int32))) :
    own_TW l Z ws h0 (⟨"com/example/cohortwise/cohortwise/http/Requests", "path", "([Ljava/lang/String;)Ljava/lang/String;"⟩ : MethodName) prog_17_method_3_code 10 (some (.object "java/lang/String")) ⟨6, 14, 290, 99⟩ #[(.ref ar)] (QStrL Z ((((((([] : List Int32) ++ [(47 : Int32)]) ++ own_pcs (own_u8s sg0)) ++ [(47 : Int32)]) ++ own_pcs (own_u8s sg1)) ++ [(47 : Int32)]) ++ own_pcs (own_u8s sg2)) h0 n0) 14 290 := by
  refine own_bW "com/example/cohortwise/cohortwise/http/Requests" #[rv ar, .unset, .unset, .unset, .unset, .unset, .unset, .unset, .unset, .unset] hw (pf pn_11 rfl) rfl O0 (fun m => own_e) ?_
  intro p e s m below meth cC s₁ hZ hh hx hby hml hown hnm hrt hlk X0 e0 N0 Z0 hS0 C0 own_wS own_hEL
  obtain ⟨T627, h627, X627, e627, E627, A627, D627, U627, st627⟩ := newO X0 hx hZ hown (tw hw 36 rfl) (tw hw 37 rfl) (tw hw 38 rfl) e0 (g := (mkF m 0 #[rv ar, .unset, .unset, .unset, .unset, .unset, .unset, .unset, .unset, .unset] [])) rfl (hb hby dq17_3_0) (by decide) (by decide)
  obtain ⟨b627, g627⟩ : ∃ z, z = h0.size := ⟨_, rfl⟩
  rw [← g627] at A627 D627 U627 st627
  refine own_go st627 ?_
  have C628 := C0.trans (CHr.ext E627 C0.1)
  have F627_value : Fld Z h627 b627 "java/lang/AbstractStringBuilder" "value" "[B" .null := D627 (Or.inl (tw hw 51 rfl)) (ty := (.array .byte)) (by decide)
  have F627_coder : Fld Z h627 b627 "java/lang/AbstractStringBuilder" "coder" "B" (.int (0 : Int32)) := D627 (Or.inl (tw hw 53 rfl)) (ty := .byte) (by decide)
  have F627_count : Fld Z h627 b627 "java/lang/AbstractStringBuilder" "count" "I" (.int (0 : Int32)) := D627 (Or.inl (tw hw 81 rfl)) (ty := .int) (by decide)
  refine og (fun _ k => XS.dup X627.here hx rfl (hb hby dq17_3_3) rfl rfl k) ?_
  obtain ⟨v629, _, ⟨T629, L629, k629, n629⟩, -, X629, ⟨Lc629, hQ629, l629, y629, z629⟩, st629⟩ := X627.specialBack hx (y := (⟨"java/lang/StringBuilder", "<init>", "()V"⟩ : MethodName)) rfl hown (mvT hZ (tw hw 39 rfl)) (mvT hZ (tw hw 40 rfl)) (mvT hZ (tw hw 41 rfl)) (by decide) (backOf (W := 1) (rm_sb l Z a0 hw [] b627 G1 h627 n0 (O0.ext E627) A627 F627_value F627_coder F627_count (Nat.le_trans Z0 (Nat.le_of_eq g627.symm)) O2 P5) hZ (tw hw 41 rfl) (tw hw 38 rfl) (by decide) (by decide)) (g := (mkF m 4 #[rv ar, .unset, .unset, .unset, .unset, .unset, .unset, .unset, .unset, .unset] [(.ref b627), (.ref b627)])) rfl (by rw [hml]; rfl) (Steps.refl _) (a := b627) (argsL := []) (rest := [(.ref b627)]) (lenOf pd_38 rfl) rfl (by show 2 * 0 + _ ≤ _; exact Nat.le_of_eq rfl) (hb hby dq17_3_4) (fun _ _ => ⟨rfl, e627, (by decide : 1 + 1 ≤ _), (by decide : 4 + 16 ≤ _)⟩)
  dsimp only [Pt.U, Pt.locs, Pt.cells, Pt.slots] at X629 l629 y629 z629 st629 hQ629
  subst l629 y629 z629
  refine own_gos st629 ?_
  obtain ⟨v629, kv629, rfl, Nq629, K629, vg629, Fv629, Fc629, Fn629, Vv629, Xv629⟩ := hQ629
  have f630 := (Safe.ext E627 C0.1 (Safe.new (Nat.le_of_eq g627.symm)))
  have C631 := C628.trans (CHr.keep K629 (sfS f630 sf0) C628.1)
  have N629 := Fr.app N0 Nq629
  refine wv X629 hx hby 7 #[rv ar, rv b627, .unset, .unset, .unset, .unset, .unset, .unset, .unset, .unset] dq17_3_7 rfl rfl ?_
  try dsimp only [mkF]
  refine wa X629 hx hby 8 dq17_3_8 rfl rfl ?_
  refine wv X629 hx hby 9 #[rv ar, rv b627, rv ar, .unset, .unset, .unset, .unset, .unset, .unset, .unset] dq17_3_9 rfl rfl ?_
  refine wa X629 hx hby 10 dq17_3_10 rfl rfl ?_
  have ne632 : ar ≠ b627 := Nat.ne_of_lt (Nat.lt_of_lt_of_le V_ar.lt (Nat.le_of_eq g627.symm))
  have f633 := ((V_ar.ext E627).keep K629 (ninS ne632 nin0))
  obtain ⟨c634, A634, q634, S634, M634, Hs634, Gs634⟩ := id f633
  refine og (fun _ k => X629.arraylength hx (by rw [(rfl : T629.heap = T629.heap)]; exact A634.1) (State.isArrayOf_alike hZ.alike A634.2.1) (g := (mkF m 11 #[rv ar, rv b627, rv ar, .unset, .unset, .unset, .unset, .unset, .unset, .unset] [(.ref ar)])) rfl rfl (hb hby dq17_3_11) _ k) ?_
  rw [len_of S634 M634]
  refine wt X629 hx hby 12 #[rv ar, rv b627, rv ar, iv (3 : Int32), .unset, .unset, .unset, .unset, .unset, .unset] dq17_3_12 rfl ?_
  try dsimp only [mkF]
  refine wc X629 hx hby 13 dq17_3_13 ?_
  refine wz X629 hx hby 14 #[rv ar, rv b627, rv ar, iv (3 : Int32), iv (0 : Int32), .unset, .unset, .unset, .unset, .unset] dq17_3_14 rfl ?_
  refine wm X629 hx hby 16 dq17_3_16 rfl ?_
  refine wl X629 hx hby 18 dq17_3_18 rfl ?_
  refine wn X629 hx hby 19 dq17_3_19 (tlt (by decide : (0 : Int32) < (3 : Int32))).2.1 ?_
  try dsimp only [mkF]
  refine wa X629 hx hby 22 dq17_3_22 rfl rfl ?_
  refine wm X629 hx hby 23 dq17_3_23 rfl ?_
  obtain ⟨c635, A635, q635, S635, M635, Hs635, Gs635⟩ := id f633
  have hi635 := inb_of (j := (0 : Int32)) S635 ⟨by decide, by decide⟩
  refine og (fun _ k => X629.aaload hx (j := (0 : Int32)) (v := (.ref x0)) (by rw [(rfl : T629.heap = T629.heap)]; exact A635.1) (State.isArrayOf_alike hZ.alike A635.2.1) rfl A635.2.2 hi635 (Has.at Hs635 hi635 rfl) (g := (mkF m 25 #[rv ar, rv b627, rv ar, iv (3 : Int32), iv (0 : Int32), .unset, .unset, .unset, .unset, .unset] [(.int (0 : Int32)), (.ref ar)])) rfl rfl (hb hby dq17_3_25) _ k) ?_
  refine wu X629 hx hby 26 #[rv ar, rv b627, rv ar, iv (3 : Int32), iv (0 : Int32), rv x0, .unset, .unset, .unset, .unset] dq17_3_26 rfl rfl ?_
  have hal0 : ∀ c ∈ ([] : List Int32), ¬ (255 : Int32) < c := fun c hc => nomatch hc
  have f637 := (Safe.keep K629 (sfS f630 sf0) C628.1 (Safe.new vg629))
  have f638 := (Safe.keep K629 (sfS f630 sf0) C628.1 f630)
  have f639 := ((E_x0.ext E627).keep K629)
  have ne640 : x0 ≠ b627 := Nat.ne_of_lt (Nat.lt_of_lt_of_le E_x0.lt (Nat.le_of_eq g627.symm))
  have f641 := ((Fv_x0.ext E627).keep K629 (ninS ne640 nin0))
  have f642 := ((Fc_x0.ext E627).keep K629 (ninS ne640 nin0))
  have ne643 : t0 ≠ b627 := Nat.ne_of_lt (Nat.lt_of_lt_of_le V_t0.lt (Nat.le_of_eq g627.symm))
  have f644 := ((V_t0.ext E627).keep K629 (ninS ne643 nin0))
  have f645 := ((X_t0.ext E627).keep K629)
  have ne646 : hA ≠ b627 := Nat.ne_of_lt (Nat.lt_of_lt_of_le V_h.lt (Nat.le_of_eq g627.symm))
  have f647 := ((V_h.ext E627).keep K629 (ninS ne646 nin0))
  have ne648 : x0 ≠ v629 := Nat.ne_of_lt (Nat.lt_of_lt_of_le (Nat.lt_of_lt_of_le E_x0.lt E627.1) vg629)
  have ne649 : t0 ≠ v629 := Nat.ne_of_lt (Nat.lt_of_lt_of_le (Nat.lt_of_lt_of_le V_t0.lt E627.1) vg629)
  have ne650 : hA ≠ v629 := Nat.ne_of_lt (Nat.lt_of_lt_of_le (Nat.lt_of_lt_of_le V_h.lt E627.1) vg629)
  have f651 := ((O0.ext E627).keep K629 (allS (Nat.le_trans Z0 (Nat.le_of_eq g627.symm)) all0))
  refine rm_psg l Z a0 hw b627 v629 kv629 16 ([] : List Int32) x0 t0 k0 sg0 cx0 Nx0 vx0 hA kh u8 (.ref ar) (3 : Int32) (0 : Int32) (.unset) (.unset) (.unset) (.unset) G1 G3 T629.heap n0 (cB := 2) (sB := 20) (rs := 0) (X629.loosen own_b own_b) hx hby hml hown hZ (rfl : T629.heap = T629.heap) N629 (Nat.le_trans Z0 (Nat.le_trans E627.1 K629.1)) f651 hS0 (Nat.zero_le _) C631.1 (A627.keep K629) Fv629 Fc629 Fn629 Vv629 Xv629 f637 f638 f639 f641 f642 f644 f645 f647 O2 P5 O4 rG3 OA OH OL OU OS OX (fun c hc => nomatch hc) own_ok0 ⟨by decide, by decide⟩ (Nat.le_trans Z0 (Nat.le_of_eq g627.symm)) (Nat.le_trans Z0 (Nat.le_trans E627.1 vg629)) (Or.inl rfl) hC_x0 ho_x0 h2_x0 hn_x0 ne640 ne648 ne643 ne649 ne646 ne650 (Or.inl rfl) (by decide) rfl (Or.inl rfl) (Or.inl rfl) (Or.inl rfl) (Or.inl rfl) own_b own_b own_b own_b ?_
  intro T636 L636 h636 vm636 k1636 v636 kv636 M636 rs636 s6636 s7636 s8636 s9636 X636 e636 N636 O636 K636 A636 hS636 hk636 hZ636 hown636 hoz636 SF636 Fv636 Fc636 Fn636 Vv636 Xv636 hR636 hM3636 hcl636 w6636 w7636 w8636 w9636
  have f652 := (((Keep.refl h0 []).ext E627).trans K629 (allS (Or.inr (Nat.le_of_eq g627.symm)) all0))
  have ne653 : ar ≠ v629 := Nat.ne_of_lt (Nat.lt_of_lt_of_le (Nat.lt_of_lt_of_le V_ar.lt E627.1) vg629)
  have nar_v636 : ar ≠ v636 := hoz636.elim (fun q => q ▸ ne653) (fun q => Nat.ne_of_lt (Nat.lt_of_lt_of_le (Nat.lt_of_lt_of_le V_ar.lt (Nat.le_trans E627.1 K629.1)) q))
  have nhA_v636 : hA ≠ v636 := hoz636.elim (fun q => q ▸ ne650) (fun q => Nat.ne_of_lt (Nat.lt_of_lt_of_le (Nat.lt_of_lt_of_le V_h.lt (Nat.le_trans E627.1 K629.1)) q))
  have ne654 : x1 ≠ v629 := Nat.ne_of_lt (Nat.lt_of_lt_of_le (Nat.lt_of_lt_of_le E_x1.lt E627.1) vg629)
  have nx1_v636 : x1 ≠ v636 := hoz636.elim (fun q => q ▸ ne654) (fun q => Nat.ne_of_lt (Nat.lt_of_lt_of_le (Nat.lt_of_lt_of_le E_x1.lt (Nat.le_trans E627.1 K629.1)) q))
  have ne655 : t1 ≠ v629 := Nat.ne_of_lt (Nat.lt_of_lt_of_le (Nat.lt_of_lt_of_le V_t1.lt E627.1) vg629)
  have nt1_v636 : t1 ≠ v636 := hoz636.elim (fun q => q ▸ ne655) (fun q => Nat.ne_of_lt (Nat.lt_of_lt_of_le (Nat.lt_of_lt_of_le V_t1.lt (Nat.le_trans E627.1 K629.1)) q))
  have ne656 : x2 ≠ v629 := Nat.ne_of_lt (Nat.lt_of_lt_of_le (Nat.lt_of_lt_of_le E_x2.lt E627.1) vg629)
  have nx2_v636 : x2 ≠ v636 := hoz636.elim (fun q => q ▸ ne656) (fun q => Nat.ne_of_lt (Nat.lt_of_lt_of_le (Nat.lt_of_lt_of_le E_x2.lt (Nat.le_trans E627.1 K629.1)) q))
  have ne657 : t2 ≠ v629 := Nat.ne_of_lt (Nat.lt_of_lt_of_le (Nat.lt_of_lt_of_le V_t2.lt E627.1) vg629)
  have nt2_v636 : t2 ≠ v636 := hoz636.elim (fun q => q ▸ ne657) (fun q => Nat.ne_of_lt (Nat.lt_of_lt_of_le (Nat.lt_of_lt_of_le V_t2.lt (Nat.le_trans E627.1 K629.1)) q))
  have gv636 : n0 ≤ v636 := hoz636.elim (fun q => q ▸ (Nat.le_trans Z0 (Nat.le_trans E627.1 vg629))) (fun q => Nat.le_trans (Nat.le_trans Z0 (Nat.le_trans E627.1 K629.1)) q)
  have ge636 : h0.size ≤ v636 := hoz636.elim (fun q => q ▸ (Nat.le_trans E627.1 vg629)) (fun q => Nat.le_trans (Nat.le_trans E627.1 K629.1) q)
  have C658 := C631.trans A636
  have f659 := ((A627.keep K629).keep K636)
  have nb_v636 := Exa.neArv f659 Vv636 (tw hw 37 rfl)
  have hpl636 := own_pcsl (own_u8s sg0)
  have hul636 := own_u8l3 sg0
  have hln636 : ((([] : List Int32) ++ [(47 : Int32)]) ++ own_pcs (own_u8s sg0)).length ≤ 19 := by rw [List.length_append, List.length_append]; show 0 + 1 + _ ≤ _; omega
  have hal636 := own_allA (own_allA hal0 (bs := [(47 : Int32)]) (fun c hc => by rw [List.mem_singleton.mp hc]; decide)) (fun c hc => (own_pcsb (own_u8s sg0) c hc).2)
  have hok636 := own_okAp (own_okAp own_ok0 (bs := [(47 : Int32)]) (fun c hc => by rw [List.mem_singleton.mp hc]; decide) (by show _ + 1 ≤ 4000; decide)) (own_pcsb (own_u8s sg0)) (by rw [List.length_append]; show _ + 1 + _ ≤ 4000; show 0 + 1 + _ ≤ 4000; omega)
  have hrs636 : rs636 ≤ 1 := by rcases hR636 with q | q <;> omega
  have hcm636 : own_cM M636 ≤ 2 ∧ own_sC M636 ≤ 140 ∧ M636 ≤ 70 := by rcases hM3636 with rfl | rfl | rfl <;> decide
  refine wi X636 hx hby 169 #[rv ar, rv b627, rv ar, iv (3 : Int32), iv (1 : Int32), rv x0, s6636, s7636, s8636, s9636] dq17_3_169 rfl rfl ?_
  try dsimp only [mkF]
  refine wg X636 hx hby 172 16 dq17_3_172 ?_
  refine wm X636 hx hby 16 dq17_3_16 rfl ?_
  refine wl X636 hx hby 18 dq17_3_18 rfl ?_
  refine wn X636 hx hby 19 dq17_3_19 (tlt (by decide : (1 : Int32) < (3 : Int32))).2.1 ?_
  refine wa X636 hx hby 22 dq17_3_22 rfl rfl ?_
  try dsimp only [mkF]
  refine wm X636 hx hby 23 dq17_3_23 rfl ?_
  have f660 := (f633.keep K636 (ninS ne632 (ninS ne653 nin0)))
  obtain ⟨c661, A661, q661, S661, M661, Hs661, Gs661⟩ := id f660
  have hi661 := inb_of (j := (1 : Int32)) S661 ⟨by decide, by decide⟩
  refine og (fun _ k => X636.aaload hx (j := (1 : Int32)) (v := (.ref x1)) (by rw [e636]; exact A661.1) (State.isArrayOf_alike hZ636.alike A661.2.1) rfl A661.2.2 hi661 (Has.at Hs661 hi661 rfl) (g := (mkF m 25 #[rv ar, rv b627, rv ar, iv (3 : Int32), iv (1 : Int32), rv x0, s6636, s7636, s8636, s9636] [(.int (1 : Int32)), (.ref ar)])) rfl rfl (hb hby dq17_3_25) _ k) ?_
  refine wu X636 hx hby 26 #[rv ar, rv b627, rv ar, iv (3 : Int32), iv (1 : Int32), rv x1, s6636, s7636, s8636, s9636] dq17_3_26 rfl rfl ?_
  have f663 := (A636.safe (Nat.lt_of_lt_of_le A627.lt K629.1) f638)
  have f664 := (((E_x1.ext E627).keep K629).keep K636)
  have ne665 : x1 ≠ b627 := Nat.ne_of_lt (Nat.lt_of_lt_of_le E_x1.lt (Nat.le_of_eq g627.symm))
  have f666 := (((Fv_x1.ext E627).keep K629 (ninS ne665 nin0)).keep K636 (ninS ne665 (ninS ne654 nin0)))
  have f667 := (((Fc_x1.ext E627).keep K629 (ninS ne665 nin0)).keep K636 (ninS ne665 (ninS ne654 nin0)))
  have ne668 : t1 ≠ b627 := Nat.ne_of_lt (Nat.lt_of_lt_of_le V_t1.lt (Nat.le_of_eq g627.symm))
  have f669 := (((V_t1.ext E627).keep K629 (ninS ne668 nin0)).keep K636 (ninS ne668 (ninS ne655 nin0)))
  have f670 := (((X_t1.ext E627).keep K629).keep K636)
  have f671 := (f647.keep K636 (ninS ne646 (ninS ne650 nin0)))
  have z672 := (Nat.le_trans (Nat.le_trans E627.1 K629.1) K636.1)
  refine rm_psg l Z a0 hw b627 v636 kv636 M636 ((([] : List Int32) ++ [(47 : Int32)]) ++ own_pcs (own_u8s sg0)) x1 t1 k1 sg1 cx1 Nx1 vx1 hA kh u8 (.ref ar) (3 : Int32) (1 : Int32) s6636 s7636 s8636 s9636 G1 G3 h636 n0 (cB := (2 + 2)) (sB := (20 + 12)) (rs := rs636) (X636.loosen own_b own_b) hx hby hml hown636 hZ636 e636 N636 (Nat.le_trans Z0 z672) O636 hS636 hk636 C658.1 f659 Fv636 Fc636 Fn636 Vv636 Xv636 SF636 f663 f664 f666 f667 f669 f670 f671 O2 P5 O4 rG3 OA OH OL OU OS OX hal636 hok636 ⟨hcl636, hcm636.2.2⟩ (Nat.le_trans Z0 (Nat.le_of_eq g627.symm)) (Nat.le_trans Z0 ge636) hM3636 hC_x1 ho_x1 h2_x1 hn_x1 ne665 nx1_v636 ne668 nt1_v636 ne646 nhA_v636 hR636 (by omega) rfl (Or.inr w6636) (Or.inr w7636) (Or.inr w8636) w9636 own_b own_b own_b own_b ?_
  intro T662 L662 h662 vm662 k1662 v662 kv662 M662 rs662 s6662 s7662 s8662 s9662 X662 e662 N662 O662 K662 A662 hS662 hk662 hZ662 hown662 hoz662 SF662 Fv662 Fc662 Fn662 Vv662 Xv662 hR662 hM3662 hcl662 w6662 w7662 w8662 w9662
  have f673 := (f652.trans K636 (allS (Or.inr (Nat.le_of_eq g627.symm)) (allS (Or.inr (Nat.le_trans E627.1 vg629)) all0)))
  have nar_v662 : ar ≠ v662 := hoz662.elim (fun q => q ▸ nar_v636) (fun q => Nat.ne_of_lt (Nat.lt_of_lt_of_le (Nat.lt_of_lt_of_le V_ar.lt z672) q))
  have nhA_v662 : hA ≠ v662 := hoz662.elim (fun q => q ▸ nhA_v636) (fun q => Nat.ne_of_lt (Nat.lt_of_lt_of_le (Nat.lt_of_lt_of_le V_h.lt z672) q))
  have nx2_v662 : x2 ≠ v662 := hoz662.elim (fun q => q ▸ nx2_v636) (fun q => Nat.ne_of_lt (Nat.lt_of_lt_of_le (Nat.lt_of_lt_of_le E_x2.lt z672) q))
  have nt2_v662 : t2 ≠ v662 := hoz662.elim (fun q => q ▸ nt2_v636) (fun q => Nat.ne_of_lt (Nat.lt_of_lt_of_le (Nat.lt_of_lt_of_le V_t2.lt z672) q))
  have gv662 : n0 ≤ v662 := hoz662.elim (fun q => q ▸ (Nat.le_trans Z0 ge636)) (fun q => Nat.le_trans (Nat.le_trans Z0 z672) q)
  have ge662 : h0.size ≤ v662 := hoz662.elim (fun q => q ▸ ge636) (fun q => Nat.le_trans z672 q)
  have C674 := C658.trans A662
  have nb_v662 := Exa.neArv (f659.keep K662) Vv662 (tw hw 37 rfl)
  have hpl662 := own_pcsl (own_u8s sg1)
  have hul662 := own_u8l3 sg1
  have hln662 : ((((([] : List Int32) ++ [(47 : Int32)]) ++ own_pcs (own_u8s sg0)) ++ [(47 : Int32)]) ++ own_pcs (own_u8s sg1)).length ≤ 38 := by rw [List.length_append, List.length_append]; show _ + 1 + _ ≤ _; omega
  have hal662 := own_allA (own_allA hal636 (bs := [(47 : Int32)]) (fun c hc => by rw [List.mem_singleton.mp hc]; decide)) (fun c hc => (own_pcsb (own_u8s sg1) c hc).2)
  have hok662 := own_okAp (own_okAp hok636 (bs := [(47 : Int32)]) (fun c hc => by rw [List.mem_singleton.mp hc]; decide) (by show _ + 1 ≤ 4000; omega)) (own_pcsb (own_u8s sg1)) (by rw [List.length_append]; show _ + 1 + _ ≤ 4000; omega)
  have hrs662 : rs662 ≤ 1 := by rcases hR662 with q | q <;> omega
  have hcm662 : own_cM M662 ≤ 2 ∧ own_sC M662 ≤ 140 ∧ M662 ≤ 70 := by rcases hM3662 with rfl | rfl | rfl <;> decide
  refine wi X662 hx hby 169 #[rv ar, rv b627, rv ar, iv (3 : Int32), iv (2 : Int32), rv x1, s6662, s7662, s8662, s9662] dq17_3_169 rfl rfl ?_
  refine wg X662 hx hby 172 16 dq17_3_172 ?_
  try dsimp only [mkF]
  refine wm X662 hx hby 16 dq17_3_16 rfl ?_
  refine wl X662 hx hby 18 dq17_3_18 rfl ?_
  refine wn X662 hx hby 19 dq17_3_19 (tlt (by decide : (2 : Int32) < (3 : Int32))).2.1 ?_
  refine wa X662 hx hby 22 dq17_3_22 rfl rfl ?_
  refine wm X662 hx hby 23 dq17_3_23 rfl ?_
  try dsimp only [mkF]
  have f675 := (f660.keep K662 (ninS ne632 (ninS nar_v636 nin0)))
  obtain ⟨c676, A676, q676, S676, M676, Hs676, Gs676⟩ := id f675
  have hi676 := inb_of (j := (2 : Int32)) S676 ⟨by decide, by decide⟩
  refine og (fun _ k => X662.aaload hx (j := (2 : Int32)) (v := (.ref x2)) (by rw [e662]; exact A676.1) (State.isArrayOf_alike hZ662.alike A676.2.1) rfl A676.2.2 hi676 (Has.at Hs676 hi676 rfl) (g := (mkF m 25 #[rv ar, rv b627, rv ar, iv (3 : Int32), iv (2 : Int32), rv x1, s6662, s7662, s8662, s9662] [(.int (2 : Int32)), (.ref ar)])) rfl rfl (hb hby dq17_3_25) _ k) ?_
  refine wu X662 hx hby 26 #[rv ar, rv b627, rv ar, iv (3 : Int32), iv (2 : Int32), rv x2, s6662, s7662, s8662, s9662] dq17_3_26 rfl rfl ?_
  have f678 := (A662.safe (Nat.lt_of_lt_of_le A627.lt (Nat.le_trans K629.1 K636.1)) f663)
  have f679 := ((((E_x2.ext E627).keep K629).keep K636).keep K662)
  have ne680 : x2 ≠ b627 := Nat.ne_of_lt (Nat.lt_of_lt_of_le E_x2.lt (Nat.le_of_eq g627.symm))
  have f681 := ((((Fv_x2.ext E627).keep K629 (ninS ne680 nin0)).keep K636 (ninS ne680 (ninS ne656 nin0))).keep K662 (ninS ne680 (ninS nx2_v636 nin0)))
  have f682 := ((((Fc_x2.ext E627).keep K629 (ninS ne680 nin0)).keep K636 (ninS ne680 (ninS ne656 nin0))).keep K662 (ninS ne680 (ninS nx2_v636 nin0)))
  have ne683 : t2 ≠ b627 := Nat.ne_of_lt (Nat.lt_of_lt_of_le V_t2.lt (Nat.le_of_eq g627.symm))
  have f684 := ((((V_t2.ext E627).keep K629 (ninS ne683 nin0)).keep K636 (ninS ne683 (ninS ne657 nin0))).keep K662 (ninS ne683 (ninS nt2_v636 nin0)))
  have f685 := ((((X_t2.ext E627).keep K629).keep K636).keep K662)
  have f686 := (f671.keep K662 (ninS ne646 (ninS nhA_v636 nin0)))
  refine rm_psg l Z a0 hw b627 v662 kv662 M662 ((((([] : List Int32) ++ [(47 : Int32)]) ++ own_pcs (own_u8s sg0)) ++ [(47 : Int32)]) ++ own_pcs (own_u8s sg1)) x2 t2 k2 sg2 cx2 Nx2 vx2 hA kh u8 (.ref ar) (3 : Int32) (2 : Int32) s6662 s7662 s8662 s9662 G1 G3 h662 n0 (cB := ((2 + 2) + 2)) (sB := ((20 + 12) + 12)) (rs := rs662) (X662.loosen own_b own_b) hx hby hml hown662 hZ662 e662 N662 (Nat.le_trans Z0 (Nat.le_trans z672 K662.1)) O662 hS662 hk662 C674.1 (f659.keep K662) Fv662 Fc662 Fn662 Vv662 Xv662 SF662 f678 f679 f681 f682 f684 f685 f686 O2 P5 O4 rG3 OA OH OL OU OS OX hal662 hok662 ⟨hcl662, hcm662.2.2⟩ (Nat.le_trans Z0 (Nat.le_of_eq g627.symm)) (Nat.le_trans Z0 ge662) hM3662 hC_x2 ho_x2 h2_x2 hn_x2 ne680 nx2_v662 ne683 nt2_v662 ne646 nhA_v662 hR662 (by omega) rfl (Or.inr w6662) (Or.inr w7662) (Or.inr w8662) w9662 own_b own_b own_b own_b ?_
  intro T677 L677 h677 vm677 k1677 v677 kv677 M677 rs677 s6677 s7677 s8677 s9677 X677 e677 N677 O677 K677 A677 hS677 hk677 hZ677 hown677 hoz677 SF677 Fv677 Fc677 Fn677 Vv677 Xv677 hR677 hM3677 hcl677 w6677 w7677 w8677 w9677
  have f687 := (f673.trans K662 (allS (Or.inr (Nat.le_of_eq g627.symm)) (allS (Or.inr ge636) all0)))
  have nar_v677 : ar ≠ v677 := hoz677.elim (fun q => q ▸ nar_v662) (fun q => Nat.ne_of_lt (Nat.lt_of_lt_of_le (Nat.lt_of_lt_of_le V_ar.lt (Nat.le_trans z672 K662.1)) q))
  have nhA_v677 : hA ≠ v677 := hoz677.elim (fun q => q ▸ nhA_v662) (fun q => Nat.ne_of_lt (Nat.lt_of_lt_of_le (Nat.lt_of_lt_of_le V_h.lt (Nat.le_trans z672 K662.1)) q))
  have gv677 : n0 ≤ v677 := hoz677.elim (fun q => q ▸ (Nat.le_trans Z0 ge662)) (fun q => Nat.le_trans (Nat.le_trans Z0 (Nat.le_trans z672 K662.1)) q)
  have ge677 : h0.size ≤ v677 := hoz677.elim (fun q => q ▸ ge662) (fun q => Nat.le_trans (Nat.le_trans z672 K662.1) q)
  have C688 := C674.trans A677
  have f689 := ((f659.keep K662).keep K677)
  have nb_v677 := Exa.neArv f689 Vv677 (tw hw 37 rfl)
  have hpl677 := own_pcsl (own_u8s sg2)
  have hul677 := own_u8l3 sg2
  have hln677 : ((((((([] : List Int32) ++ [(47 : Int32)]) ++ own_pcs (own_u8s sg0)) ++ [(47 : Int32)]) ++ own_pcs (own_u8s sg1)) ++ [(47 : Int32)]) ++ own_pcs (own_u8s sg2)).length ≤ 57 := by rw [List.length_append, List.length_append]; show _ + 1 + _ ≤ _; omega
  have hal677 := own_allA (own_allA hal662 (bs := [(47 : Int32)]) (fun c hc => by rw [List.mem_singleton.mp hc]; decide)) (fun c hc => (own_pcsb (own_u8s sg2) c hc).2)
  have hok677 := own_okAp (own_okAp hok662 (bs := [(47 : Int32)]) (fun c hc => by rw [List.mem_singleton.mp hc]; decide) (by show _ + 1 ≤ 4000; omega)) (own_pcsb (own_u8s sg2)) (by rw [List.length_append]; show _ + 1 + _ ≤ 4000; omega)
  have hrs677 : rs677 ≤ 1 := by rcases hR677 with q | q <;> omega
  have hcm677 : own_cM M677 ≤ 2 ∧ own_sC M677 ≤ 140 ∧ M677 ≤ 70 := by rcases hM3677 with rfl | rfl | rfl <;> decide
  refine wi X677 hx hby 169 #[rv ar, rv b627, rv ar, iv (3 : Int32), iv (3 : Int32), rv x2, s6677, s7677, s8677, s9677] dq17_3_169 rfl rfl ?_
  refine wg X677 hx hby 172 16 dq17_3_172 ?_
  refine wm X677 hx hby 16 dq17_3_16 rfl ?_
  try dsimp only [mkF]
  refine wl X677 hx hby 18 dq17_3_18 rfl ?_
  refine wy X677 hx hby 19 175 dq17_3_19 (flt (by decide : ¬ ((3 : Int32) < (3 : Int32)))).2.1 ?_
  refine wa X677 hx hby 175 dq17_3_175 rfl rfl ?_
  obtain ⟨cq690, kq690, q690a, q690b, q690c⟩ := isOf hZ677 e677 f689
  obtain ⟨v690, _, ⟨T690, L690, k690, n690⟩, -, X690, ⟨Lc690, hQ690, l690, y690, z690⟩, st690⟩ := X677.virtualBack hx (y := (⟨"java/lang/StringBuilder", "toString", "()Ljava/lang/String;"⟩ : MethodName)) (z := (⟨"java/lang/StringBuilder", "toString", "()Ljava/lang/String;"⟩ : MethodName)) hown677 (mvT hZ677 (tw hw 54 rfl)) (mvT hZ677 (tw hw 55 rfl)) (notFace_of_selects (args := #[]) (mvT hZ677 (tw hw 57 rfl))) (mvT hZ677 (tw hw 57 rfl)) (mvT hZ677 (tw hw 56 rfl)) own_b (backOf (W := 0) (rm_tos l Z a0 hw [] b627 v677 kv677 M677 ((((((([] : List Int32) ++ [(47 : Int32)]) ++ own_pcs (own_u8s sg0)) ++ [(47 : Int32)]) ++ own_pcs (own_u8s sg1)) ++ [(47 : Int32)]) ++ own_pcs (own_u8s sg2)) G1 G3 h677 n0 O677 O2 P5 O4 rG3 OA OH OL f689 Fv677 Fc677 Fn677 Vv677 Xv677 hal677 hok677 ⟨hcl677, hcm677.2.2⟩ (Nat.le_trans Z0 (Nat.le_of_eq g627.symm)) (Nat.le_trans Z0 ge677)) hZ677 (tw hw 58 rfl) (tw hw 38 rfl) own_b own_b) q690a q690c (g := (mkF m 176 #[rv ar, rv b627, rv ar, iv (3 : Int32), iv (3 : Int32), rv x2, s6677, s7677, s8677, s9677] [(.ref b627)])) rfl (by rw [hml]; rfl) (Steps.refl _) (argsL := []) (rest := []) (lenOf pd_39 rfl) rfl (by show 2 * 0 + _ ≤ _; exact Nat.le_of_eq rfl) (hb hby dq17_3_176) (fun _ _ => ⟨rfl, e677, own_b, own_b⟩)
  dsimp only [Pt.U, Pt.locs, Pt.cells, Pt.slots] at X690 l690 y690 z690 st690 hQ690
  subst l690 y690 z690
  refine own_gos st690 ?_
  obtain ⟨x690, t690, kt690, rfl, Nq690, K690, xg690, Ex690, Fv690, Fc690, Vt690, ho690, ha690⟩ := hQ690
  have C691 := C688.trans (CHr.keep K690 sf0 C688.1)
  have N690 := Fr.app N677 Nq690
  have f692 := ((f687.trans K677 (allS (Or.inr (Nat.le_of_eq g627.symm)) (allS (Or.inr ge662) all0))).trans K690 all0)
  have z693 := (Nat.le_trans (Nat.le_trans z672 K662.1) K677.1)
  refine own_finW (v := (some (.ref x690))) X690 hh hZ677 hS677 (by rw [(rfl : T690.heap = T690.heap)]; exact (Nat.le_trans hk677 K690.1)) (fun h => by rw [hrt] at h; cases h) hlk (fun fs hr => retR X690 hx hrt (by rfl) rfl rfl (hb hby dq17_3_179) hr) (QQ := QStrL Z ((((((([] : List Int32) ++ [(47 : Int32)]) ++ own_pcs (own_u8s sg0)) ++ [(47 : Int32)]) ++ own_pcs (own_u8s sg1)) ++ [(47 : Int32)]) ++ own_pcs (own_u8s sg2)) h0 n0) ?_ own_hEL (rfl : T690.heap = T690.heap) (C691) own_b own_b
  exact ⟨x690, t690, _, rfl, N690, f692, (Nat.le_trans z693 xg690), Ex690, Fv690, Fc690, Vt690, ho690, ha690⟩

theorem own_m3 (x : Int32) : (x &&& (3 : Int32)) % (3 : Int32) = 0 ∨ (x &&& (3 : Int32)) % (3 : Int32) = 1 ∨ (x &&& (3 : Int32)) % (3 : Int32) = 2 := by
  have t : ∀ k : Fin 4, (Int32.ofNat k.val) % (3 : Int32) = 0 ∨ (Int32.ofNat k.val) % (3 : Int32) = 1 ∨ (Int32.ofNat k.val) % (3 : Int32) = 2 := by decide +kernel
  have h : (x &&& 3).toBitVec.toNat < 4 := by
    simp only [Int32.toBitVec_and, BitVec.toNat_and]
    exact Nat.lt_succ_of_le Nat.and_le_right
  have e : (x &&& 3) = Int32.ofNat (x &&& 3).toBitVec.toNat := by
    apply Int32.toBitVec_inj.mp
    show _ = BitVec.ofNat 32 _
    rw [BitVec.ofNat_toNat]; simp
  rw [e]
  exact t ⟨_, h⟩
theorem own_i3 (x : Int32) : (x &&& (3 : Int32)) = 0 ∨ (x &&& (3 : Int32)) = 1 ∨ (x &&& (3 : Int32)) = 2 ∨ (x &&& (3 : Int32)) = 3 := by
  have t : ∀ k : Fin 4, (Int32.ofNat k.val) = 0 ∨ (Int32.ofNat k.val) = 1 ∨ (Int32.ofNat k.val) = 2 ∨ (Int32.ofNat k.val) = 3 := by decide +kernel
  have h : (x &&& 3).toBitVec.toNat < 4 := by
    simp only [Int32.toBitVec_and, BitVec.toNat_and]
    exact Nat.lt_succ_of_le Nat.and_le_right
  have e : (x &&& 3) = Int32.ofNat (x &&& 3).toBitVec.toNat := by
    apply Int32.toBitVec_inj.mp
    show _ = BitVec.ofNat 32 _
    rw [BitVec.ofNat_toNat]; simp
  rw [e]
  exact t ⟨_, h⟩
theorem own_preN {OC bs E : List Int32} {p : Nat} (h : own_pre OC (p + ([47] ++ E).length) bs) : own_pre OC (p + 1 + E.length) bs := by
  have e : p + ([47] ++ E).length = p + 1 + E.length := by rw [List.length_append]; show p + (1 + E.length) = _; omega
  rw [← e]; exact h
def QQ0 (n0 : Nat) (v : Option Value) (h : Heap) (L : List Loc) : Prop := v = some (.int 1) ∧ Fr n0 L
theorem pd_40 : parseMethodDescriptor "([Ljava/lang/String;)Ljava/lang/String;" = some ⟨[(.array (.object "java/lang/String"))], some (.object "java/lang/String")⟩ := by decide +kernel
set_option maxRecDepth 65536 in
set_option maxHeartbeats 40000000 in
theorem own_fst0 (l : Launch) (Z : State) (a0 : Array Value) (hw : ∀ d ∈ tables_1, d.before a0 Z = true) (p1 p2 p3 p4 l1 l2 l3 y0 y1 y2 y3 y4 y5 : Int32) (x1 t1 : Addr) (k1 : ClassId) (cx1 Nx1 : Int32) (vx1 : List Value) (x2 t2 : Addr) (k2 : ClassId) (cx2 Nx2 : Int32) (vx2 : List Value) (x3 t3 : Addr) (k3 : ClassId) (cx3 Nx3 : Int32) (vx3 : List Value) (hA : Addr) (kh : ClassId) (u8 : Addr) (G1 : Int32) (G3 : Value) (h0 : Heap) (n0 : Nat) {p : Program} {e : Env} {s : State} {vm0 : Vm} {m : MethodId} {below : List Frame} {meth : Method} {cC : Code} {T0 : State} {locs : List Loc} (X0 : Stand p l e room_1 (s.setVm vm0) m #[(.int p1), (.int p2), (.int p3), (.int p4)] below meth cC T0 locs 18 36) (hx : p.tables.exec = Jvm.exec) (hby : cC.code = code) (hml : cC.maxLocals = maxLocals) (hown : (s.setVm vm0).vm.findClass "com/example/cohortwise/cohortwise/http/RequestsPathPinLaw" = some m.cls) (hZ : Z.Warmed39 (s.setVm vm0).vm) (hrt : meth.sig.returnType = ret) (hlk : meth.locks = false) (h1 : Heap) (e0 : T0.heap = h1) (N0 : Fr n0 locs) (Z0 : n0 ≤ h1.size) (O1 : Old Z n0 h1) (hh : s.heap = h0) {k0 : Nat} (hS0 : s.Since vm0 k0) (hk0 : k0 ≤ h1.size) (C0 : CHr Z own_EL s.vm h0 vm0 h1) (E_x1 : Exa Z h1 x1 "java/lang/String") (Fv_x1 : Fld Z h1 x1 "java/lang/String" "value" "[B" (.ref t1)) (Fc_x1 : Fld Z h1 x1 "java/lang/String" "coder" "B" (.int cx1)) (V_t1 : Arv Z h1 t1 k1 .byte Nx1 vx1 (.int (0 : Int32))) (X_t1 : Exa Z h1 t1 "[B") (E_x2 : Exa Z h1 x2 "java/lang/String") (Fv_x2 : Fld Z h1 x2 "java/lang/String" "value" "[B" (.ref t2)) (Fc_x2 : Fld Z h1 x2 "java/lang/String" "coder" "B" (.int cx2)) (V_t2 : Arv Z h1 t2 k2 .byte Nx2 vx2 (.int (0 : Int32))) (X_t2 : Exa Z h1 t2 "[B") (E_x3 : Exa Z h1 x3 "java/lang/String") (Fv_x3 : Fld Z h1 x3 "java/lang/String" "value" "[B" (.ref t3)) (Fc_x3 : Fld Z h1 x3 "java/lang/String" "coder" "B" (.int cx3)) (V_t3 : Arv Z h1 t3 k3 .byte Nx3 vx3 (.int (0 : Int32))) (X_t3 : Exa Z h1 t3 "[B") (V_h : Arv Z h1 hA kh .char (16 : Int32) (own_HEX.map Value.int) (.int (0 : Int32))) (O2 : Sta Z Z.heap "java/lang/String" "COMPACT_STRINGS" "Z" (.int G1)) (P5 : ¬ (G1 = (0 : Int32))) (O4 : Sta Z Z.heap "jdk/internal/util/Preconditions" "SIOOBE_FORMATTER" "Ljava/util/function/BiFunction;" G3) (rG3 : G3.isRef = true) (OA : Sta Z Z.heap "java/lang/StringUTF16" "$assertionsDisabled" "Z" (.int (1 : Int32))) (OH : Sta Z Z.heap "java/lang/StringUTF16" "HI_BYTE_SHIFT" "I" (.int (0 : Int32))) (OL : Sta Z Z.heap "java/lang/StringUTF16" "LO_BYTE_SHIFT" "I" (.int (8 : Int32))) (OU : Sta Z Z.heap "sun/nio/cs/UTF_8" "INSTANCE" "Lsun/nio/cs/UTF_8;" (.ref u8)) (OS : Sta Z Z.heap "java/nio/charset/StandardCharsets" "UTF_8" "Ljava/nio/charset/Charset;" (.ref u8)) (OX : Sta Z Z.heap "com/example/cohortwise/cohortwise/http/Requests" "HEX" "[C" (.ref hA)) (hC_x1 : StrChars.Road.CodA (own_sg l1 y0 y1) cx1 Nx1 vx1) (hC_x2 : StrChars.Road.CodA (own_sg l2 y2 y3) cx2 Nx2 vx2) (hC_x3 : StrChars.Road.CodA (own_sg l3 y4 y5) cx3 Nx3 vx3) (hb_y0 : ¬ y0 < 0 ∧ ¬ (65535 : Int32) < y0) (hb_y1 : ¬ y1 < 0 ∧ ¬ (65535 : Int32) < y1) (hb_y2 : ¬ y2 < 0 ∧ ¬ (65535 : Int32) < y2) (hb_y3 : ¬ y3 < 0 ∧ ¬ (65535 : Int32) < y3) (hb_y4 : ¬ y4 < 0 ∧ ¬ (65535 : Int32) < y4) (hb_y5 : ¬ y5 < 0 ∧ ¬ (65535 : Int32) < y5) (hs_y0 : y0 < (55296 : Int32) ∨ (57343 : Int32) < y0) (hs_y1 : y1 < (55296 : Int32) ∨ (57343 : Int32) < y1) (hs_y2 : y2 < (55296 : Int32) ∨ (57343 : Int32) < y2) (hs_y3 : y3 < (55296 : Int32) ∨ (57343 : Int32) < y3) (hs_y4 : y4 < (55296 : Int32) ∨ (57343 : Int32) < y4) (hs_y5 : y5 < (55296 : Int32) ∨ (57343 : Int32) < y5) (hn_l1 : l1 = 0 ∨ l1 = 1 ∨ l1 = 2) (hn_l2 : l2 = 0 ∨ l2 = 1 ∨ l2 = 2) (hn_l3 : l3 = 0 ∨ l3 = 1 ∨ l3 = 2) :
    own_Go p e below (T0.setTop (mkF m 111 #[iv p1, iv p2, iv p3, iv p4, iv (0 : Int32), iv l1, iv l2, iv l3, iv y0, iv y1, iv y2, iv y3, iv y4, iv y5, rv x1, rv x2, rv x3, .unset, .unset] [])) (fun oO U' => ∃ rV rL, oO = .returned rV ∧ QQ0 n0 rV U'.heap rL ∧ CHr Z own_EL s.vm s.heap U'.vm U'.heap ∧ ReturnedEndW s oO U' rL 56 2624) := by
  have own_wS := own_wSt hw
  have own_hEL := own_hELt hw
  refine wm X0 hx hby 111 at_111 rfl ?_
  refine we X0 hx hby 113 at_113 ((if0 _ _).trans (teq (by decide : (0 : Int32) = (0 : Int32))).2) ?_
  refine wc X0 hx hby 116 at_116 ?_
  obtain ⟨T694, h694, k694, X694, e694, E694, A694, O694, st694⟩ := newR X0 hx hZ hown (tw hw 9 rfl) (tw hw 31 rfl) e0 (g := (mkF m 117 #[iv p1, iv p2, iv p3, iv p4, iv (0 : Int32), iv l1, iv l2, iv l3, iv y0, iv y1, iv y2, iv y3, iv y4, iv y5, rv x1, rv x2, rv x3, .unset, .unset] [(.int (0 : Int32))])) rfl (hb hby at_117) rfl (by decide) (cap := 0) (by decide) (by decide) (by decide) (by decide)
  obtain ⟨b694, g694⟩ : ∃ z, z = h1.size := ⟨_, rfl⟩
  rw [← g694] at A694 st694
  refine own_go st694 ?_
  have C695 := C0.trans (CHr.ext E694 C0.1)
  have V694 : Arv Z h694 b694 k694 (.object "java/lang/String") (0 : Int32) [] .null := (Arv.new A694 (by decide)).pad (pad_rep [] .null 0)
  try dsimp only [mkF]
  obtain ⟨v696, _, ⟨T696, L696, k696, n696⟩, -, X696, hS696, hg696, ⟨Lc696, hQ696, l696, y696, z696, A696⟩, st696⟩ := callSS X694 hx (y := (⟨"com/example/cohortwise/cohortwise/http/Requests", "path", "([Ljava/lang/String;)Ljava/lang/String;"⟩ : MethodName)) hown (mvT hZ (tw hw 32 rfl)) (mvT hZ (tw hw 33 rfl)) (mvT hZ (tw hw 34 rfl)) (mvT hZ (tw hw 35 rfl)) (by decide) (backOfSH (W := 0) (rm_pth0 l Z a0 hw [] b694 k694  hA kh u8 G1 G3 h694 n0 (O1.ext E694) O2 P5 O4 rG3 OA OH OL OU OS OX V694  (V_h.ext E694)) hZ (tw hw 35 rfl) (tw hw 34 rfl) (by decide) (by decide) own_hEL C695.1) (g := (mkF m 120 #[iv p1, iv p2, iv p3, iv p4, iv (0 : Int32), iv l1, iv l2, iv l3, iv y0, iv y1, iv y2, iv y3, iv y4, iv y5, rv x1, rv x2, rv x3, .unset, .unset] [(.ref b694)])) rfl (by rw [hml]; rfl) (argsL := [(.ref b694)]) (rest := []) (lenOf pd_40 rfl) rfl (by show 2 * 0 + _ ≤ _; exact Nat.le_of_eq rfl) (hb hby at_120) (fun _ _ => ⟨rfl, e694, (by decide : 19 + 4 ≤ _), (by decide : 36 + 94 ≤ _)⟩)
  dsimp only [Pt.U, Pt.locs, Pt.cells, Pt.slots] at X696 l696 y696 z696 st696 hQ696 hS696 hg696 A696
  subst l696 y696 z696
  refine own_gos st696 ?_
  obtain ⟨X696, hS696, hZ696, hown696⟩ := rebS hS0 (k0 := _) (n1 := T694.heap.size) (by rw [e694]; exact (Nat.le_trans hk0 E694.1)) X696 hS696 hg696 hZ hown
  obtain ⟨x696, t696, kt696, rfl, Nq696, K696, xg696, Ex696, Fv696, Fc696, Vt696, ho696, ha696⟩ := hQ696
  have C697 := C695.trans A696
  have N696 := Fr.app N0 Nq696
  refine wu X696 hx hby 123 #[iv p1, iv p2, iv p3, iv p4, iv (0 : Int32), iv l1, iv l2, iv l3, iv y0, iv y1, iv y2, iv y3, iv y4, iv y5, rv x1, rv x2, rv x3, rv x696, .unset] at_123 rfl rfl ?_
  refine wg X696 hx hby 125 203 at_125 ?_
  refine wb X696 hx hby 203 at_203 rfl rfl ?_
  refine og (fun _ k => XS.ifnonnullYes X696.here hx rfl (pc0 := 205) (pc' := 210) rfl (hb hby at_205) rfl (by decide) (by decide) k) ?_
  try dsimp only [mkF]
  have eOC : ([] : List Int32) = ([] : List Int32) := by simp
  refine wc X696 hx hby 210 at_210 ?_
  refine wz X696 hx hby 211 #[iv p1, iv p2, iv p3, iv p4, iv (0 : Int32), iv l1, iv l2, iv l3, iv y0, iv y1, iv y2, iv y3, iv y4, iv y5, rv x1, rv x2, rv x3, rv x696, iv (0 : Int32)] at_211 rfl ?_
  refine wm X696 hx hby 213 at_213 rfl ?_
  refine wc X696 hx hby 215 at_215 ?_
  refine wy X696 hx hby 216 234 at_216 (tlt (by decide : (0 : Int32) < (1 : Int32))).1 ?_
  try dsimp only [mkF]
  refine wm X696 hx hby 234 at_234 rfl ?_
  refine wc X696 hx hby 236 at_236 ?_
  refine wy X696 hx hby 237 255 at_237 (tlt (by decide : (0 : Int32) < (2 : Int32))).1 ?_
  refine wm X696 hx hby 255 at_255 rfl ?_
  refine wc X696 hx hby 257 at_257 ?_
  try dsimp only [mkF]
  refine wy X696 hx hby 258 276 at_258 (tlt (by decide : (0 : Int32) < (3 : Int32))).1 ?_
  refine wm X696 hx hby 276 at_276 rfl ?_
  refine wb X696 hx hby 278 at_278 rfl rfl ?_
  have f698 := ((O1.ext E694).keep K696 all0)
  obtain ⟨cq699, kq699, q699a, q699b, q699c⟩ := isOf hZ696 (rfl : T696.heap = T696.heap) Ex696
  obtain ⟨v699, _, ⟨T699, L699, k699, n699⟩, -, X699, ⟨Lc699, hQ699, l699, y699, z699⟩, st699⟩ := X696.virtualBack hx (y := (⟨"java/lang/String", "length", "()I"⟩ : MethodName)) (z := (⟨"java/lang/String", "length", "()I"⟩ : MethodName)) hown696 (mvT hZ696 (tw hw 105 rfl)) (mvT hZ696 (tw hw 106 rfl)) (notFace_of_selects (args := #[]) (mvT hZ696 (tw hw 108 rfl))) (mvT hZ696 (tw hw 108 rfl)) (mvT hZ696 (tw hw 107 rfl)) (by decide) (StrChars.Road.lenW (W := 1) hZ696 (own_wLen hw) (kI := 4) (tw hw 10 rfl) Ex696 Fv696 Fc696 Vt696 (Or.inl ⟨rfl, rfl, rfl, ha696⟩) (ho696.1) (O2.ext f698.2) P5 ho696.2 (by decide) (by decide)) q699a q699c (g := (mkF m 280 #[iv p1, iv p2, iv p3, iv p4, iv (0 : Int32), iv l1, iv l2, iv l3, iv y0, iv y1, iv y2, iv y3, iv y4, iv y5, rv x1, rv x2, rv x3, rv x696, iv (0 : Int32)] [(.ref x696), (.int (0 : Int32))])) rfl (by rw [hml]; rfl) (Steps.refl _) (argsL := []) (rest := [(.int (0 : Int32))]) (lenOf pd_1 rfl) rfl (by show 2 * 0 + _ ≤ _; exact Nat.le_of_eq rfl) (hb hby at_280) (fun _ _ => ⟨rfl, (rfl : T696.heap = T696.heap), (by decide : 23 + 0 ≤ _), (by decide : 130 + 0 ≤ _)⟩)
  dsimp only [Pt.U, Pt.locs, Pt.cells, Pt.slots] at X699 l699 y699 z699 st699 hQ699
  subst l699 y699 z699
  refine own_gos st699 ?_
  obtain ⟨rfl, rfl, e699⟩ := hQ699
  have Nq699 : Fr n0 ([] : List Loc) := Fr.nil n0
  have N699 := Fr.app N696 Nq699
  refine wn X699 hx hby 283 at_283 (teq (by rw [eOC] <;> first | rfl | (congr 1; simp only [List.length_append, List.length_cons, List.length_nil] <;> omega) : (0 : Int32) = (Int32.ofNat ([] : List Int32).length))).2 ?_
  try dsimp only [mkF]
  refine wc X699 hx hby 286 at_286 ?_
  refine wg X699 hx hby 287 291 at_287 ?_
  refine own_finW (v := (some (.int (nar .boolean (1 : Int32))))) X699 hh hZ696 hS696 (by rw [e699]; exact (Nat.le_refl _)) (fun h => by rw [hrt] at h; cases h) hlk (fun fs hr => retN X699 hx (t := .boolean) hrt (by simp) (hb hby at_291) hr) (QQ := QQ0 n0) ?_ own_hEL e699 (C697) (by decide) (by decide)
  rw [e699]
  exact ⟨rfl, N699⟩

theorem pd_41 : parseMethodDescriptor "(Ljava/lang/String;IICC)I" = some ⟨[(.object "java/lang/String"), .int, .int, .char, .char], some .int⟩ := by decide +kernel
set_option maxRecDepth 65536 in
set_option maxHeartbeats 40000000 in
theorem own_fst1 (l : Launch) (Z : State) (a0 : Array Value) (hw : ∀ d ∈ tables_1, d.before a0 Z = true) (p1 p2 p3 p4 l1 l2 l3 y0 y1 y2 y3 y4 y5 : Int32) (x1 t1 : Addr) (k1 : ClassId) (cx1 Nx1 : Int32) (vx1 : List Value) (x2 t2 : Addr) (k2 : ClassId) (cx2 Nx2 : Int32) (vx2 : List Value) (x3 t3 : Addr) (k3 : ClassId) (cx3 Nx3 : Int32) (vx3 : List Value) (hA : Addr) (kh : ClassId) (u8 : Addr) (G1 : Int32) (G3 : Value) (h0 : Heap) (n0 : Nat) {p : Program} {e : Env} {s : State} {vm0 : Vm} {m : MethodId} {below : List Frame} {meth : Method} {cC : Code} {T0 : State} {locs : List Loc} (X0 : Stand p l e room_1 (s.setVm vm0) m #[(.int p1), (.int p2), (.int p3), (.int p4)] below meth cC T0 locs 18 36) (hx : p.tables.exec = Jvm.exec) (hby : cC.code = code) (hml : cC.maxLocals = maxLocals) (hown : (s.setVm vm0).vm.findClass "com/example/cohortwise/cohortwise/http/RequestsPathPinLaw" = some m.cls) (hZ : Z.Warmed39 (s.setVm vm0).vm) (hrt : meth.sig.returnType = ret) (hlk : meth.locks = false) (h1 : Heap) (e0 : T0.heap = h1) (N0 : Fr n0 locs) (Z0 : n0 ≤ h1.size) (O1 : Old Z n0 h1) (hh : s.heap = h0) {k0 : Nat} (hS0 : s.Since vm0 k0) (hk0 : k0 ≤ h1.size) (C0 : CHr Z own_EL s.vm h0 vm0 h1) (E_x1 : Exa Z h1 x1 "java/lang/String") (Fv_x1 : Fld Z h1 x1 "java/lang/String" "value" "[B" (.ref t1)) (Fc_x1 : Fld Z h1 x1 "java/lang/String" "coder" "B" (.int cx1)) (V_t1 : Arv Z h1 t1 k1 .byte Nx1 vx1 (.int (0 : Int32))) (X_t1 : Exa Z h1 t1 "[B") (E_x2 : Exa Z h1 x2 "java/lang/String") (Fv_x2 : Fld Z h1 x2 "java/lang/String" "value" "[B" (.ref t2)) (Fc_x2 : Fld Z h1 x2 "java/lang/String" "coder" "B" (.int cx2)) (V_t2 : Arv Z h1 t2 k2 .byte Nx2 vx2 (.int (0 : Int32))) (X_t2 : Exa Z h1 t2 "[B") (E_x3 : Exa Z h1 x3 "java/lang/String") (Fv_x3 : Fld Z h1 x3 "java/lang/String" "value" "[B" (.ref t3)) (Fc_x3 : Fld Z h1 x3 "java/lang/String" "coder" "B" (.int cx3)) (V_t3 : Arv Z h1 t3 k3 .byte Nx3 vx3 (.int (0 : Int32))) (X_t3 : Exa Z h1 t3 "[B") (V_h : Arv Z h1 hA kh .char (16 : Int32) (own_HEX.map Value.int) (.int (0 : Int32))) (O2 : Sta Z Z.heap "java/lang/String" "COMPACT_STRINGS" "Z" (.int G1)) (P5 : ¬ (G1 = (0 : Int32))) (O4 : Sta Z Z.heap "jdk/internal/util/Preconditions" "SIOOBE_FORMATTER" "Ljava/util/function/BiFunction;" G3) (rG3 : G3.isRef = true) (OA : Sta Z Z.heap "java/lang/StringUTF16" "$assertionsDisabled" "Z" (.int (1 : Int32))) (OH : Sta Z Z.heap "java/lang/StringUTF16" "HI_BYTE_SHIFT" "I" (.int (0 : Int32))) (OL : Sta Z Z.heap "java/lang/StringUTF16" "LO_BYTE_SHIFT" "I" (.int (8 : Int32))) (OU : Sta Z Z.heap "sun/nio/cs/UTF_8" "INSTANCE" "Lsun/nio/cs/UTF_8;" (.ref u8)) (OS : Sta Z Z.heap "java/nio/charset/StandardCharsets" "UTF_8" "Ljava/nio/charset/Charset;" (.ref u8)) (OX : Sta Z Z.heap "com/example/cohortwise/cohortwise/http/Requests" "HEX" "[C" (.ref hA)) (hC_x1 : StrChars.Road.CodA (own_sg l1 y0 y1) cx1 Nx1 vx1) (hC_x2 : StrChars.Road.CodA (own_sg l2 y2 y3) cx2 Nx2 vx2) (hC_x3 : StrChars.Road.CodA (own_sg l3 y4 y5) cx3 Nx3 vx3) (hb_y0 : ¬ y0 < 0 ∧ ¬ (65535 : Int32) < y0) (hb_y1 : ¬ y1 < 0 ∧ ¬ (65535 : Int32) < y1) (hb_y2 : ¬ y2 < 0 ∧ ¬ (65535 : Int32) < y2) (hb_y3 : ¬ y3 < 0 ∧ ¬ (65535 : Int32) < y3) (hb_y4 : ¬ y4 < 0 ∧ ¬ (65535 : Int32) < y4) (hb_y5 : ¬ y5 < 0 ∧ ¬ (65535 : Int32) < y5) (hs_y0 : y0 < (55296 : Int32) ∨ (57343 : Int32) < y0) (hs_y1 : y1 < (55296 : Int32) ∨ (57343 : Int32) < y1) (hs_y2 : y2 < (55296 : Int32) ∨ (57343 : Int32) < y2) (hs_y3 : y3 < (55296 : Int32) ∨ (57343 : Int32) < y3) (hs_y4 : y4 < (55296 : Int32) ∨ (57343 : Int32) < y4) (hs_y5 : y5 < (55296 : Int32) ∨ (57343 : Int32) < y5) (hn_l1 : l1 = 0 ∨ l1 = 1 ∨ l1 = 2) (hn_l2 : l2 = 0 ∨ l2 = 1 ∨ l2 = 2) (hn_l3 : l3 = 0 ∨ l3 = 1 ∨ l3 = 2) :
    own_Go p e below (T0.setTop (mkF m 111 #[iv p1, iv p2, iv p3, iv p4, iv (1 : Int32), iv l1, iv l2, iv l3, iv y0, iv y1, iv y2, iv y3, iv y4, iv y5, rv x1, rv x2, rv x3, .unset, .unset] [])) (fun oO U' => ∃ rV rL, oO = .returned rV ∧ QQ0 n0 rV U'.heap rL ∧ CHr Z own_EL s.vm s.heap U'.vm U'.heap ∧ ReturnedEndW s oO U' rL 56 2624) := by
  have own_wS := own_wSt hw
  have own_hEL := own_hELt hw
  refine wm X0 hx hby 111 at_111 rfl ?_
  refine wf X0 hx hby 113 128 at_113 ((if0 _ _).trans (feq (by decide : ¬ ((1 : Int32) = (0 : Int32)))).2) ?_
  refine wm X0 hx hby 128 at_128 rfl ?_
  refine wc X0 hx hby 130 at_130 ?_
  try dsimp only [mkF]
  refine wn X0 hx hby 131 at_131 (teq (by decide : (1 : Int32) = (1 : Int32))).2 ?_
  refine wc X0 hx hby 134 at_134 ?_
  obtain ⟨T700, h700, k700, X700, e700, E700, A700, O700, st700⟩ := newR X0 hx hZ hown (tw hw 9 rfl) (tw hw 31 rfl) e0 (g := (mkF m 135 #[iv p1, iv p2, iv p3, iv p4, iv (1 : Int32), iv l1, iv l2, iv l3, iv y0, iv y1, iv y2, iv y3, iv y4, iv y5, rv x1, rv x2, rv x3, .unset, .unset] [(.int (1 : Int32))])) rfl (hb hby at_135) rfl (by decide) (cap := 1) (by decide) (by decide) (by decide) (by decide)
  obtain ⟨b700, g700⟩ : ∃ z, z = h1.size := ⟨_, rfl⟩
  rw [← g700] at A700 st700
  refine own_go st700 ?_
  have C701 := C0.trans (CHr.ext E700 C0.1)
  have V700 : Arv Z h700 b700 k700 (.object "java/lang/String") (1 : Int32) [.null] .null := (Arv.new A700 (by decide)).pad (pad_rep [] .null 1)
  refine og (fun _ k => XS.dup X700.here hx rfl (hb hby at_138) rfl rfl k) ?_
  refine wc X700 hx hby 139 at_139 ?_
  try dsimp only [mkF]
  refine wb X700 hx hby 140 at_140 rfl rfl ?_
  obtain ⟨c702, A702, q702, S702, M702, Hs702, Gs702⟩ := id V700
  obtain ⟨T703, h703, X703, e703, W703, st703⟩ := stR X700 hx hZ e700 A702 (j := (0 : Int32)) (inb_of S702 ⟨by decide, by decide⟩) rfl (Sto.ofV A702 q702 O700 (Ins.self (E_x1.ext E700))) (g := (mkF m 142 #[iv p1, iv p2, iv p3, iv p4, iv (1 : Int32), iv l1, iv l2, iv l3, iv y0, iv y1, iv y2, iv y3, iv y4, iv y5, rv x1, rv x2, rv x3, .unset, .unset] [(.ref x1), (.int (0 : Int32)), (.ref b700), (.ref b700)])) rfl rfl (hb hby at_142)
  refine own_go st703 ?_
  have N703 := Fr.snoc X703 N0 (Nat.le_trans Z0 (Nat.le_of_eq g700.symm))
  have f704 := (Safe.ext E700 C0.1 (Safe.new (Nat.le_of_eq g700.symm)))
  have C705 := C701.trans (CHr.wr W703 f704 C701.1)
  have V703 : Arv Z h703 b700 k700 (.object "java/lang/String") (1 : Int32) [(.ref x1)] .null := Arv.set A702 q702 S702 M702 Hs702 Gs702 rfl W703 0 rfl (Nat.le_of_ble_eq_true rfl)
  have f706 := ((E_x1.ext E700).wr W703)
  have ne707 : x1 ≠ b700 := Nat.ne_of_lt (Nat.lt_of_lt_of_le E_x1.lt (Nat.le_of_eq g700.symm))
  have f708 := ((Fv_x1.ext E700).other W703 (Or.inl ne707))
  have f709 := ((Fc_x1.ext E700).other W703 (Or.inl ne707))
  have ne710 : t1 ≠ b700 := Nat.ne_of_lt (Nat.lt_of_lt_of_le V_t1.lt (Nat.le_of_eq g700.symm))
  have f711 := ((V_t1.ext E700).other W703 ne710)
  have f712 := ((X_t1.ext E700).wr W703)
  have ne713 : hA ≠ b700 := Nat.ne_of_lt (Nat.lt_of_lt_of_le V_h.lt (Nat.le_of_eq g700.symm))
  have f714 := ((V_h.ext E700).other W703 ne713)
  have f715 := ((O1.ext E700).wr W703 (Nat.le_trans Z0 (Nat.le_of_eq g700.symm)))
  obtain ⟨v716, _, ⟨T716, L716, k716, n716⟩, -, X716, hS716, hg716, ⟨Lc716, hQ716, l716, y716, z716, A716⟩, st716⟩ := callSS X703 hx (y := (⟨"com/example/cohortwise/cohortwise/http/Requests", "path", "([Ljava/lang/String;)Ljava/lang/String;"⟩ : MethodName)) hown (mvT hZ (tw hw 32 rfl)) (mvT hZ (tw hw 33 rfl)) (mvT hZ (tw hw 34 rfl)) (mvT hZ (tw hw 35 rfl)) (by decide) (backOfSH (W := 0) (rm_pth1 l Z a0 hw [] b700 k700 x1 t1 k1 (own_sg l1 y0 y1) cx1 Nx1 vx1 hA kh u8 G1 G3 h703 n0 f715 O2 P5 O4 rG3 OA OH OL OU OS OX V703 f706 f708 f709 f711 f712 hC_x1 (own_sgo (n := l1) hb_y0 hb_y1).1 (own_sgo (n := l1) hb_y0 hb_y1).2 (own_sgn hs_y0 hs_y1) f714) hZ (tw hw 35 rfl) (tw hw 34 rfl) (by decide) (by decide) own_hEL C705.1) (g := (mkF m 143 #[iv p1, iv p2, iv p3, iv p4, iv (1 : Int32), iv l1, iv l2, iv l3, iv y0, iv y1, iv y2, iv y3, iv y4, iv y5, rv x1, rv x2, rv x3, .unset, .unset] [(.ref b700)])) rfl (by rw [hml]; rfl) (argsL := [(.ref b700)]) (rest := []) (lenOf pd_40 rfl) rfl (by show 2 * 0 + _ ≤ _; exact Nat.le_of_eq rfl) (hb hby at_143) (fun _ _ => ⟨rfl, e703, (by decide : 19 + 10 ≤ _), (by decide : 37 + 266 ≤ _)⟩)
  dsimp only [Pt.U, Pt.locs, Pt.cells, Pt.slots] at X716 l716 y716 z716 st716 hQ716 hS716 hg716 A716
  subst l716 y716 z716
  refine own_gos st716 ?_
  have z717 := (Nat.le_trans E700.1 (Keep.of_wr W703).1)
  obtain ⟨X716, hS716, hZ716, hown716⟩ := rebS hS0 (k0 := _) (n1 := T703.heap.size) (by rw [e703]; exact (Nat.le_trans hk0 z717)) X716 hS716 hg716 hZ hown
  obtain ⟨x716, t716, kt716, rfl, Nq716, K716, xg716, Ex716, Fv716, Fc716, Vt716, ho716, ha716⟩ := hQ716
  have C718 := C705.trans A716
  have N716 := Fr.app N703 Nq716
  refine wu X716 hx hby 146 #[iv p1, iv p2, iv p3, iv p4, iv (1 : Int32), iv l1, iv l2, iv l3, iv y0, iv y1, iv y2, iv y3, iv y4, iv y5, rv x1, rv x2, rv x3, rv x716, .unset] at_146 rfl rfl ?_
  refine wg X716 hx hby 148 203 at_148 ?_
  try dsimp only [mkF]
  refine wb X716 hx hby 203 at_203 rfl rfl ?_
  refine og (fun _ k => XS.ifnonnullYes X716.here hx rfl (pc0 := 205) (pc' := 210) rfl (hb hby at_205) rfl (by decide) (by decide) k) ?_
  have eOC : ((([] : List Int32) ++ [(47 : Int32)]) ++ own_pcs (own_u8s (own_sg l1 y0 y1))) = ([47] ++ (own_encs (own_sg l1 y0 y1))) := by rw [own_encsU (own_sg l1 y0 y1) (own_sgo hb_y0 hb_y1).1.1]; simp
  have hq0 : own_pre ((([] : List Int32) ++ [(47 : Int32)]) ++ own_pcs (own_u8s (own_sg l1 y0 y1))) 0 ([47] ++ (own_encs (own_sg l1 y0 y1))) := by rw [eOC]; exact own_pre0 _
  have hq1 := hq0
  refine wc X716 hx hby 210 at_210 ?_
  refine wz X716 hx hby 211 #[iv p1, iv p2, iv p3, iv p4, iv (1 : Int32), iv l1, iv l2, iv l3, iv y0, iv y1, iv y2, iv y3, iv y4, iv y5, rv x1, rv x2, rv x3, rv x716, iv (0 : Int32)] at_211 rfl ?_
  refine wm X716 hx hby 213 at_213 rfl ?_
  try dsimp only [mkF]
  refine wc X716 hx hby 215 at_215 ?_
  refine wn X716 hx hby 216 at_216 (flt (by decide : ¬ ((1 : Int32) < (1 : Int32)))).1 ?_
  refine wb X716 hx hby 219 at_219 rfl rfl ?_
  refine wm X716 hx hby 221 at_221 rfl ?_
  show own_Go p e below (T716.setTop (mkF m 223 #[iv p1, iv p2, iv p3, iv p4, iv (1 : Int32), iv l1, iv l2, iv l3, iv y0, iv y1, iv y2, iv y3, iv y4, iv y5, rv x1, rv x2, rv x3, rv x716, iv (0 : Int32)] [(.int (Int32.ofNat 0)), (.ref x716)])) _
  refine wm X716 hx hby 223 at_223 rfl ?_
  try dsimp only [mkF]
  refine wm X716 hx hby 225 at_225 rfl ?_
  refine wm X716 hx hby 227 at_227 rfl ?_
  obtain ⟨v719, _, ⟨T719, L719, k719, n719⟩, -, X719, ⟨Lc719, hQ719, l719, y719, z719⟩, st719⟩ := Jvm.LawKit.callS X716 hx (y := (⟨"com/example/cohortwise/cohortwise/http/RequestsPathPinLaw", "segChk", "(Ljava/lang/String;IICC)I"⟩ : MethodName)) hown716 (mvT hZ716 (tw hw 210 rfl)) (mvT hZ716 (tw hw 211 rfl)) (mvT hZ716 (tw hw 2 rfl)) (mvT hZ716 (tw hw 212 rfl)) (by decide) (backOf (W := 0) (rm_sgc l Z a0 hw [] x716 t716 kt716 ((([] : List Int32) ++ [(47 : Int32)]) ++ own_pcs (own_u8s (own_sg l1 y0 y1))) 0 l1 y0 y1 G1 G3 T716.heap n0 (f715.keep K716 all0) O2 P5 O4 rG3 OA OH OL Ex716 Fv716 Fc716 Vt716 ha716 ho716 hq1 hn_l1) hZ716 (tw hw 212 rfl) (tw hw 2 rfl) (by decide) (by decide)) (g := (mkF m 229 #[iv p1, iv p2, iv p3, iv p4, iv (1 : Int32), iv l1, iv l2, iv l3, iv y0, iv y1, iv y2, iv y3, iv y4, iv y5, rv x1, rv x2, rv x3, rv x716, iv (0 : Int32)] [(.int y1), (.int y0), (.int l1), (.int (Int32.ofNat 0)), (.ref x716)])) rfl (by rw [hml]; rfl) (argsL := [(.ref x716), (.int (Int32.ofNat 0)), (.int l1), (.int y0), (.int y1)]) (rest := []) (lenOf pd_41 rfl) rfl (by show 2 * 0 + _ ≤ _; exact Nat.le_of_eq rfl) (hb hby at_229) (fun _ _ => ⟨rfl, (rfl : T716.heap = T716.heap), (by decide : 29 + 0 ≤ _), (by decide : 303 + 0 ≤ _)⟩)
  dsimp only [Pt.U, Pt.locs, Pt.cells, Pt.slots] at X719 l719 y719 z719 st719 hQ719
  subst l719 y719 z719
  refine own_go st719 ?_
  obtain ⟨rfl, Nq719, e719⟩ := hQ719
  have N719 := Fr.app N716 Nq719
  refine wz X719 hx hby 232 #[iv p1, iv p2, iv p3, iv p4, iv (1 : Int32), iv l1, iv l2, iv l3, iv y0, iv y1, iv y2, iv y3, iv y4, iv y5, rv x1, rv x2, rv x3, rv x716, iv (Int32.ofNat (0 + 1 + (own_encs (own_sg l1 y0 y1)).length))] at_232 rfl ?_
  refine wm X719 hx hby 234 at_234 rfl ?_
  try dsimp only [mkF]
  refine wc X719 hx hby 236 at_236 ?_
  refine wy X719 hx hby 237 255 at_237 (tlt (by decide : (1 : Int32) < (2 : Int32))).1 ?_
  refine wm X719 hx hby 255 at_255 rfl ?_
  refine wc X719 hx hby 257 at_257 ?_
  refine wy X719 hx hby 258 276 at_258 (tlt (by decide : (1 : Int32) < (3 : Int32))).1 ?_
  try dsimp only [mkF]
  refine wm X719 hx hby 276 at_276 rfl ?_
  refine wb X719 hx hby 278 at_278 rfl rfl ?_
  obtain ⟨cq720, kq720, q720a, q720b, q720c⟩ := isOf hZ716 e719 Ex716
  obtain ⟨v720, _, ⟨T720, L720, k720, n720⟩, -, X720, ⟨Lc720, hQ720, l720, y720, z720⟩, st720⟩ := X719.virtualBack hx (y := (⟨"java/lang/String", "length", "()I"⟩ : MethodName)) (z := (⟨"java/lang/String", "length", "()I"⟩ : MethodName)) hown716 (mvT hZ716 (tw hw 105 rfl)) (mvT hZ716 (tw hw 106 rfl)) (notFace_of_selects (args := #[]) (mvT hZ716 (tw hw 108 rfl))) (mvT hZ716 (tw hw 108 rfl)) (mvT hZ716 (tw hw 107 rfl)) (by decide) (StrChars.Road.lenW (W := 1) hZ716 (own_wLen hw) (kI := 4) (tw hw 10 rfl) Ex716 Fv716 Fc716 Vt716 (Or.inl ⟨rfl, rfl, rfl, ha716⟩) (ho716.1) (O2.ext (f715.keep K716 all0).2) P5 ho716.2 (by decide) (by decide)) q720a q720c (g := (mkF m 280 #[iv p1, iv p2, iv p3, iv p4, iv (1 : Int32), iv l1, iv l2, iv l3, iv y0, iv y1, iv y2, iv y3, iv y4, iv y5, rv x1, rv x2, rv x3, rv x716, iv (Int32.ofNat (0 + 1 + (own_encs (own_sg l1 y0 y1)).length))] [(.ref x716), (.int (Int32.ofNat (0 + 1 + (own_encs (own_sg l1 y0 y1)).length)))])) rfl (by rw [hml]; rfl) (Steps.refl _) (argsL := []) (rest := [(.int (Int32.ofNat (0 + 1 + (own_encs (own_sg l1 y0 y1)).length)))]) (lenOf pd_1 rfl) rfl (by show 2 * 0 + _ ≤ _; exact Nat.le_of_eq rfl) (hb hby at_280) (fun _ _ => ⟨rfl, e719, (by decide : 29 + 0 ≤ _), (by decide : 303 + 0 ≤ _)⟩)
  dsimp only [Pt.U, Pt.locs, Pt.cells, Pt.slots] at X720 l720 y720 z720 st720 hQ720
  subst l720 y720 z720
  refine own_gos st720 ?_
  obtain ⟨rfl, rfl, e720⟩ := hQ720
  have Nq720 : Fr n0 ([] : List Loc) := Fr.nil n0
  have N720 := Fr.app N719 Nq720
  refine wn X720 hx hby 283 at_283 (teq (by rw [eOC] <;> first | rfl | (congr 1; simp only [List.length_append, List.length_cons, List.length_nil] <;> omega) : (Int32.ofNat (0 + 1 + (own_encs (own_sg l1 y0 y1)).length)) = (Int32.ofNat ((([] : List Int32) ++ [(47 : Int32)]) ++ own_pcs (own_u8s (own_sg l1 y0 y1))).length))).2 ?_
  refine wc X720 hx hby 286 at_286 ?_
  try dsimp only [mkF]
  refine wg X720 hx hby 287 291 at_287 ?_
  refine own_finW (v := (some (.int (nar .boolean (1 : Int32))))) X720 hh hZ716 hS716 (by rw [e720]; exact (Nat.le_refl _)) (fun h => by rw [hrt] at h; cases h) hlk (fun fs hr => retN X720 hx (t := .boolean) hrt (by simp) (hb hby at_291) hr) (QQ := QQ0 n0) ?_ own_hEL e720 (C718) (by decide) (by decide)
  rw [e720]
  exact ⟨rfl, N720⟩

set_option maxRecDepth 65536 in
set_option maxHeartbeats 40000000 in
theorem own_fst2 (l : Launch) (Z : State) (a0 : Array Value) (hw : ∀ d ∈ tables_1, d.before a0 Z = true) (p1 p2 p3 p4 l1 l2 l3 y0 y1 y2 y3 y4 y5 : Int32) (x1 t1 : Addr) (k1 : ClassId) (cx1 Nx1 : Int32) (vx1 : List Value) (x2 t2 : Addr) (k2 : ClassId) (cx2 Nx2 : Int32) (vx2 : List Value) (x3 t3 : Addr) (k3 : ClassId) (cx3 Nx3 : Int32) (vx3 : List Value) (hA : Addr) (kh : ClassId) (u8 : Addr) (G1 : Int32) (G3 : Value) (h0 : Heap) (n0 : Nat) {p : Program} {e : Env} {s : State} {vm0 : Vm} {m : MethodId} {below : List Frame} {meth : Method} {cC : Code} {T0 : State} {locs : List Loc} (X0 : Stand p l e room_1 (s.setVm vm0) m #[(.int p1), (.int p2), (.int p3), (.int p4)] below meth cC T0 locs 18 36) (hx : p.tables.exec = Jvm.exec) (hby : cC.code = code) (hml : cC.maxLocals = maxLocals) (hown : (s.setVm vm0).vm.findClass "com/example/cohortwise/cohortwise/http/RequestsPathPinLaw" = some m.cls) (hZ : Z.Warmed39 (s.setVm vm0).vm) (hrt : meth.sig.returnType = ret) (hlk : meth.locks = false) (h1 : Heap) (e0 : T0.heap = h1) (N0 : Fr n0 locs) (Z0 : n0 ≤ h1.size) (O1 : Old Z n0 h1) (hh : s.heap = h0) {k0 : Nat} (hS0 : s.Since vm0 k0) (hk0 : k0 ≤ h1.size) (C0 : CHr Z own_EL s.vm h0 vm0 h1) (E_x1 : Exa Z h1 x1 "java/lang/String") (Fv_x1 : Fld Z h1 x1 "java/lang/String" "value" "[B" (.ref t1)) (Fc_x1 : Fld Z h1 x1 "java/lang/String" "coder" "B" (.int cx1)) (V_t1 : Arv Z h1 t1 k1 .byte Nx1 vx1 (.int (0 : Int32))) (X_t1 : Exa Z h1 t1 "[B") (E_x2 : Exa Z h1 x2 "java/lang/String") (Fv_x2 : Fld Z h1 x2 "java/lang/String" "value" "[B" (.ref t2)) (Fc_x2 : Fld Z h1 x2 "java/lang/String" "coder" "B" (.int cx2)) (V_t2 : Arv Z h1 t2 k2 .byte Nx2 vx2 (.int (0 : Int32))) (X_t2 : Exa Z h1 t2 "[B") (E_x3 : Exa Z h1 x3 "java/lang/String") (Fv_x3 : Fld Z h1 x3 "java/lang/String" "value" "[B" (.ref t3)) (Fc_x3 : Fld Z h1 x3 "java/lang/String" "coder" "B" (.int cx3)) (V_t3 : Arv Z h1 t3 k3 .byte Nx3 vx3 (.int (0 : Int32))) (X_t3 : Exa Z h1 t3 "[B") (V_h : Arv Z h1 hA kh .char (16 : Int32) (own_HEX.map Value.int) (.int (0 : Int32))) (O2 : Sta Z Z.heap "java/lang/String" "COMPACT_STRINGS" "Z" (.int G1)) (P5 : ¬ (G1 = (0 : Int32))) (O4 : Sta Z Z.heap "jdk/internal/util/Preconditions" "SIOOBE_FORMATTER" "Ljava/util/function/BiFunction;" G3) (rG3 : G3.isRef = true) (OA : Sta Z Z.heap "java/lang/StringUTF16" "$assertionsDisabled" "Z" (.int (1 : Int32))) (OH : Sta Z Z.heap "java/lang/StringUTF16" "HI_BYTE_SHIFT" "I" (.int (0 : Int32))) (OL : Sta Z Z.heap "java/lang/StringUTF16" "LO_BYTE_SHIFT" "I" (.int (8 : Int32))) (OU : Sta Z Z.heap "sun/nio/cs/UTF_8" "INSTANCE" "Lsun/nio/cs/UTF_8;" (.ref u8)) (OS : Sta Z Z.heap "java/nio/charset/StandardCharsets" "UTF_8" "Ljava/nio/charset/Charset;" (.ref u8)) (OX : Sta Z Z.heap "com/example/cohortwise/cohortwise/http/Requests" "HEX" "[C" (.ref hA)) (hC_x1 : StrChars.Road.CodA (own_sg l1 y0 y1) cx1 Nx1 vx1) (hC_x2 : StrChars.Road.CodA (own_sg l2 y2 y3) cx2 Nx2 vx2) (hC_x3 : StrChars.Road.CodA (own_sg l3 y4 y5) cx3 Nx3 vx3) (hb_y0 : ¬ y0 < 0 ∧ ¬ (65535 : Int32) < y0) (hb_y1 : ¬ y1 < 0 ∧ ¬ (65535 : Int32) < y1) (hb_y2 : ¬ y2 < 0 ∧ ¬ (65535 : Int32) < y2) (hb_y3 : ¬ y3 < 0 ∧ ¬ (65535 : Int32) < y3) (hb_y4 : ¬ y4 < 0 ∧ ¬ (65535 : Int32) < y4) (hb_y5 : ¬ y5 < 0 ∧ ¬ (65535 : Int32) < y5) (hs_y0 : y0 < (55296 : Int32) ∨ (57343 : Int32) < y0) (hs_y1 : y1 < (55296 : Int32) ∨ (57343 : Int32) < y1) (hs_y2 : y2 < (55296 : Int32) ∨ (57343 : Int32) < y2) (hs_y3 : y3 < (55296 : Int32) ∨ (57343 : Int32) < y3) (hs_y4 : y4 < (55296 : Int32) ∨ (57343 : Int32) < y4) (hs_y5 : y5 < (55296 : Int32) ∨ (57343 : Int32) < y5) (hn_l1 : l1 = 0 ∨ l1 = 1 ∨ l1 = 2) (hn_l2 : l2 = 0 ∨ l2 = 1 ∨ l2 = 2) (hn_l3 : l3 = 0 ∨ l3 = 1 ∨ l3 = 2) :
    own_Go p e below (T0.setTop (mkF m 111 #[iv p1, iv p2, iv p3, iv p4, iv (2 : Int32), iv l1, iv l2, iv l3, iv y0, iv y1, iv y2, iv y3, iv y4, iv y5, rv x1, rv x2, rv x3, .unset, .unset] [])) (fun oO U' => ∃ rV rL, oO = .returned rV ∧ QQ0 n0 rV U'.heap rL ∧ CHr Z own_EL s.vm s.heap U'.vm U'.heap ∧ ReturnedEndW s oO U' rL 56 2624) := by
  have own_wS := own_wSt hw
  have own_hEL := own_hELt hw
  refine wm X0 hx hby 111 at_111 rfl ?_
  refine wf X0 hx hby 113 128 at_113 ((if0 _ _).trans (feq (by decide : ¬ ((2 : Int32) = (0 : Int32)))).2) ?_
  refine wm X0 hx hby 128 at_128 rfl ?_
  refine wc X0 hx hby 130 at_130 ?_
  try dsimp only [mkF]
  refine wy X0 hx hby 131 151 at_131 (feq (by decide : ¬ ((2 : Int32) = (1 : Int32)))).2 ?_
  refine wm X0 hx hby 151 at_151 rfl ?_
  refine wc X0 hx hby 153 at_153 ?_
  refine wn X0 hx hby 154 at_154 (teq (by decide : (2 : Int32) = (2 : Int32))).2 ?_
  refine wc X0 hx hby 157 at_157 ?_
  try dsimp only [mkF]
  obtain ⟨T721, h721, k721, X721, e721, E721, A721, O721, st721⟩ := newR X0 hx hZ hown (tw hw 9 rfl) (tw hw 31 rfl) e0 (g := (mkF m 158 #[iv p1, iv p2, iv p3, iv p4, iv (2 : Int32), iv l1, iv l2, iv l3, iv y0, iv y1, iv y2, iv y3, iv y4, iv y5, rv x1, rv x2, rv x3, .unset, .unset] [(.int (2 : Int32))])) rfl (hb hby at_158) rfl (by decide) (cap := 2) (by decide) (by decide) (by decide) (by decide)
  obtain ⟨b721, g721⟩ : ∃ z, z = h1.size := ⟨_, rfl⟩
  rw [← g721] at A721 st721
  refine own_go st721 ?_
  have C722 := C0.trans (CHr.ext E721 C0.1)
  have V721 : Arv Z h721 b721 k721 (.object "java/lang/String") (2 : Int32) [.null, .null] .null := (Arv.new A721 (by decide)).pad (pad_rep [] .null 2)
  refine og (fun _ k => XS.dup X721.here hx rfl (hb hby at_161) rfl rfl k) ?_
  refine wc X721 hx hby 162 at_162 ?_
  refine wb X721 hx hby 163 at_163 rfl rfl ?_
  obtain ⟨c723, A723, q723, S723, M723, Hs723, Gs723⟩ := id V721
  obtain ⟨T724, h724, X724, e724, W724, st724⟩ := stR X721 hx hZ e721 A723 (j := (0 : Int32)) (inb_of S723 ⟨by decide, by decide⟩) rfl (Sto.ofV A723 q723 O721 (Ins.self (E_x1.ext E721))) (g := (mkF m 165 #[iv p1, iv p2, iv p3, iv p4, iv (2 : Int32), iv l1, iv l2, iv l3, iv y0, iv y1, iv y2, iv y3, iv y4, iv y5, rv x1, rv x2, rv x3, .unset, .unset] [(.ref x1), (.int (0 : Int32)), (.ref b721), (.ref b721)])) rfl rfl (hb hby at_165)
  refine own_go st724 ?_
  have N724 := Fr.snoc X724 N0 (Nat.le_trans Z0 (Nat.le_of_eq g721.symm))
  have f725 := (Safe.ext E721 C0.1 (Safe.new (Nat.le_of_eq g721.symm)))
  have C726 := C722.trans (CHr.wr W724 f725 C722.1)
  have V724 : Arv Z h724 b721 k721 (.object "java/lang/String") (2 : Int32) [(.ref x1), .null] .null := Arv.set A723 q723 S723 M723 Hs723 Gs723 rfl W724 0 rfl (Nat.le_of_ble_eq_true rfl)
  try dsimp only [mkF]
  refine og (fun _ k => XS.dup X724.here hx rfl (hb hby at_166) rfl rfl k) ?_
  refine wc X724 hx hby 167 at_167 ?_
  refine wb X724 hx hby 168 at_168 rfl rfl ?_
  obtain ⟨c727, A727, q727, S727, M727, Hs727, Gs727⟩ := id V724
  have f728 := ((E_x2.ext E721).wr W724)
  obtain ⟨T729, h729, X729, e729, W729, st729⟩ := stR X724 hx hZ e724 A727 (j := (1 : Int32)) (inb_of S727 ⟨by decide, by decide⟩) rfl (Sto.ofV A727 q727 O721 (Ins.self f728)) (g := (mkF m 170 #[iv p1, iv p2, iv p3, iv p4, iv (2 : Int32), iv l1, iv l2, iv l3, iv y0, iv y1, iv y2, iv y3, iv y4, iv y5, rv x1, rv x2, rv x3, .unset, .unset] [(.ref x2), (.int (1 : Int32)), (.ref b721), (.ref b721)])) rfl rfl (hb hby at_170)
  refine own_go st729 ?_
  have N729 := Fr.snoc X729 N724 (Nat.le_trans Z0 (Nat.le_of_eq g721.symm))
  have f730 := (Safe.wr W724 f725 C722.1 f725)
  have C731 := C726.trans (CHr.wr W729 f730 C726.1)
  have V729 : Arv Z h729 b721 k721 (.object "java/lang/String") (2 : Int32) [(.ref x1), (.ref x2)] .null := Arv.set A727 q727 S727 M727 Hs727 Gs727 rfl W729 1 rfl (Nat.le_of_ble_eq_true rfl)
  have f732 := (((E_x1.ext E721).wr W724).wr W729)
  have ne733 : x1 ≠ b721 := Nat.ne_of_lt (Nat.lt_of_lt_of_le E_x1.lt (Nat.le_of_eq g721.symm))
  have f734 := (((Fv_x1.ext E721).other W724 (Or.inl ne733)).other W729 (Or.inl ne733))
  have f735 := (((Fc_x1.ext E721).other W724 (Or.inl ne733)).other W729 (Or.inl ne733))
  have ne736 : t1 ≠ b721 := Nat.ne_of_lt (Nat.lt_of_lt_of_le V_t1.lt (Nat.le_of_eq g721.symm))
  have f737 := (((V_t1.ext E721).other W724 ne736).other W729 ne736)
  have f738 := (((X_t1.ext E721).wr W724).wr W729)
  have ne739 : x2 ≠ b721 := Nat.ne_of_lt (Nat.lt_of_lt_of_le E_x2.lt (Nat.le_of_eq g721.symm))
  have f740 := (((Fv_x2.ext E721).other W724 (Or.inl ne739)).other W729 (Or.inl ne739))
  have f741 := (((Fc_x2.ext E721).other W724 (Or.inl ne739)).other W729 (Or.inl ne739))
  have ne742 : t2 ≠ b721 := Nat.ne_of_lt (Nat.lt_of_lt_of_le V_t2.lt (Nat.le_of_eq g721.symm))
  have f743 := (((V_t2.ext E721).other W724 ne742).other W729 ne742)
  have f744 := (((X_t2.ext E721).wr W724).wr W729)
  have ne745 : hA ≠ b721 := Nat.ne_of_lt (Nat.lt_of_lt_of_le V_h.lt (Nat.le_of_eq g721.symm))
  have f746 := (((V_h.ext E721).other W724 ne745).other W729 ne745)
  have f747 := (((O1.ext E721).wr W724 (Nat.le_trans Z0 (Nat.le_of_eq g721.symm))).wr W729 (Nat.le_trans Z0 (Nat.le_of_eq g721.symm)))
  obtain ⟨v748, _, ⟨T748, L748, k748, n748⟩, -, X748, hS748, hg748, ⟨Lc748, hQ748, l748, y748, z748, A748⟩, st748⟩ := callSS X729 hx (y := (⟨"com/example/cohortwise/cohortwise/http/Requests", "path", "([Ljava/lang/String;)Ljava/lang/String;"⟩ : MethodName)) hown (mvT hZ (tw hw 32 rfl)) (mvT hZ (tw hw 33 rfl)) (mvT hZ (tw hw 34 rfl)) (mvT hZ (tw hw 35 rfl)) (by decide) (backOfSH (W := 0) (rm_pth2 l Z a0 hw [] b721 k721 x1 t1 k1 (own_sg l1 y0 y1) cx1 Nx1 vx1 x2 t2 k2 (own_sg l2 y2 y3) cx2 Nx2 vx2 hA kh u8 G1 G3 h729 n0 f747 O2 P5 O4 rG3 OA OH OL OU OS OX V729 f732 f734 f735 f737 f738 hC_x1 (own_sgo (n := l1) hb_y0 hb_y1).1 (own_sgo (n := l1) hb_y0 hb_y1).2 (own_sgn hs_y0 hs_y1) (f728.wr W729) f740 f741 f743 f744 hC_x2 (own_sgo (n := l2) hb_y2 hb_y3).1 (own_sgo (n := l2) hb_y2 hb_y3).2 (own_sgn hs_y2 hs_y3) f746) hZ (tw hw 35 rfl) (tw hw 34 rfl) (by decide) (by decide) own_hEL C731.1) (g := (mkF m 171 #[iv p1, iv p2, iv p3, iv p4, iv (2 : Int32), iv l1, iv l2, iv l3, iv y0, iv y1, iv y2, iv y3, iv y4, iv y5, rv x1, rv x2, rv x3, .unset, .unset] [(.ref b721)])) rfl (by rw [hml]; rfl) (argsL := [(.ref b721)]) (rest := []) (lenOf pd_40 rfl) rfl (by show 2 * 0 + _ ≤ _; exact Nat.le_of_eq rfl) (hb hby at_171) (fun _ _ => ⟨rfl, e729, (by decide : 19 + 12 ≤ _), (by decide : 38 + 278 ≤ _)⟩)
  dsimp only [Pt.U, Pt.locs, Pt.cells, Pt.slots] at X748 l748 y748 z748 st748 hQ748 hS748 hg748 A748
  subst l748 y748 z748
  refine own_gos st748 ?_
  have z749 := (Nat.le_trans (Nat.le_trans E721.1 (Keep.of_wr W724).1) (Keep.of_wr W729).1)
  obtain ⟨X748, hS748, hZ748, hown748⟩ := rebS hS0 (k0 := _) (n1 := T729.heap.size) (by rw [e729]; exact (Nat.le_trans hk0 z749)) X748 hS748 hg748 hZ hown
  obtain ⟨x748, t748, kt748, rfl, Nq748, K748, xg748, Ex748, Fv748, Fc748, Vt748, ho748, ha748⟩ := hQ748
  have C750 := C731.trans A748
  have N748 := Fr.app N729 Nq748
  try dsimp only [mkF]
  refine wu X748 hx hby 174 #[iv p1, iv p2, iv p3, iv p4, iv (2 : Int32), iv l1, iv l2, iv l3, iv y0, iv y1, iv y2, iv y3, iv y4, iv y5, rv x1, rv x2, rv x3, rv x748, .unset] at_174 rfl rfl ?_
  refine wg X748 hx hby 176 203 at_176 ?_
  refine wb X748 hx hby 203 at_203 rfl rfl ?_
  refine og (fun _ k => XS.ifnonnullYes X748.here hx rfl (pc0 := 205) (pc' := 210) rfl (hb hby at_205) rfl (by decide) (by decide) k) ?_
  have eOC : ((((([] : List Int32) ++ [(47 : Int32)]) ++ own_pcs (own_u8s (own_sg l1 y0 y1))) ++ [(47 : Int32)]) ++ own_pcs (own_u8s (own_sg l2 y2 y3))) = (([47] ++ (own_encs (own_sg l1 y0 y1))) ++ ([47] ++ (own_encs (own_sg l2 y2 y3)))) := by rw [own_encsU (own_sg l1 y0 y1) (own_sgo hb_y0 hb_y1).1.1, own_encsU (own_sg l2 y2 y3) (own_sgo hb_y2 hb_y3).1.1]; simp
  have hq0 : own_pre ((((([] : List Int32) ++ [(47 : Int32)]) ++ own_pcs (own_u8s (own_sg l1 y0 y1))) ++ [(47 : Int32)]) ++ own_pcs (own_u8s (own_sg l2 y2 y3))) 0 (([47] ++ (own_encs (own_sg l1 y0 y1))) ++ ([47] ++ (own_encs (own_sg l2 y2 y3)))) := by rw [eOC]; exact own_pre0 _
  have hq1 := (own_preA hq0).1
  have hq2 := own_preN (own_preA hq0).2
  refine wc X748 hx hby 210 at_210 ?_
  try dsimp only [mkF]
  refine wz X748 hx hby 211 #[iv p1, iv p2, iv p3, iv p4, iv (2 : Int32), iv l1, iv l2, iv l3, iv y0, iv y1, iv y2, iv y3, iv y4, iv y5, rv x1, rv x2, rv x3, rv x748, iv (0 : Int32)] at_211 rfl ?_
  refine wm X748 hx hby 213 at_213 rfl ?_
  refine wc X748 hx hby 215 at_215 ?_
  refine wn X748 hx hby 216 at_216 (flt (by decide : ¬ ((2 : Int32) < (1 : Int32)))).1 ?_
  refine wb X748 hx hby 219 at_219 rfl rfl ?_
  try dsimp only [mkF]
  refine wm X748 hx hby 221 at_221 rfl ?_
  show own_Go p e below (T748.setTop (mkF m 223 #[iv p1, iv p2, iv p3, iv p4, iv (2 : Int32), iv l1, iv l2, iv l3, iv y0, iv y1, iv y2, iv y3, iv y4, iv y5, rv x1, rv x2, rv x3, rv x748, iv (0 : Int32)] [(.int (Int32.ofNat 0)), (.ref x748)])) _
  refine wm X748 hx hby 223 at_223 rfl ?_
  refine wm X748 hx hby 225 at_225 rfl ?_
  refine wm X748 hx hby 227 at_227 rfl ?_
  obtain ⟨v751, _, ⟨T751, L751, k751, n751⟩, -, X751, ⟨Lc751, hQ751, l751, y751, z751⟩, st751⟩ := Jvm.LawKit.callS X748 hx (y := (⟨"com/example/cohortwise/cohortwise/http/RequestsPathPinLaw", "segChk", "(Ljava/lang/String;IICC)I"⟩ : MethodName)) hown748 (mvT hZ748 (tw hw 210 rfl)) (mvT hZ748 (tw hw 211 rfl)) (mvT hZ748 (tw hw 2 rfl)) (mvT hZ748 (tw hw 212 rfl)) (by decide) (backOf (W := 0) (rm_sgc l Z a0 hw [] x748 t748 kt748 ((((([] : List Int32) ++ [(47 : Int32)]) ++ own_pcs (own_u8s (own_sg l1 y0 y1))) ++ [(47 : Int32)]) ++ own_pcs (own_u8s (own_sg l2 y2 y3))) 0 l1 y0 y1 G1 G3 T748.heap n0 (f747.keep K748 all0) O2 P5 O4 rG3 OA OH OL Ex748 Fv748 Fc748 Vt748 ha748 ho748 hq1 hn_l1) hZ748 (tw hw 212 rfl) (tw hw 2 rfl) (by decide) (by decide)) (g := (mkF m 229 #[iv p1, iv p2, iv p3, iv p4, iv (2 : Int32), iv l1, iv l2, iv l3, iv y0, iv y1, iv y2, iv y3, iv y4, iv y5, rv x1, rv x2, rv x3, rv x748, iv (0 : Int32)] [(.int y1), (.int y0), (.int l1), (.int (Int32.ofNat 0)), (.ref x748)])) rfl (by rw [hml]; rfl) (argsL := [(.ref x748), (.int (Int32.ofNat 0)), (.int l1), (.int y0), (.int y1)]) (rest := []) (lenOf pd_41 rfl) rfl (by show 2 * 0 + _ ≤ _; exact Nat.le_of_eq rfl) (hb hby at_229) (fun _ _ => ⟨rfl, (rfl : T748.heap = T748.heap), (by decide : 31 + 0 ≤ _), (by decide : 316 + 0 ≤ _)⟩)
  dsimp only [Pt.U, Pt.locs, Pt.cells, Pt.slots] at X751 l751 y751 z751 st751 hQ751
  subst l751 y751 z751
  refine own_go st751 ?_
  obtain ⟨rfl, Nq751, e751⟩ := hQ751
  have N751 := Fr.app N748 Nq751
  try dsimp only [mkF]
  refine wz X751 hx hby 232 #[iv p1, iv p2, iv p3, iv p4, iv (2 : Int32), iv l1, iv l2, iv l3, iv y0, iv y1, iv y2, iv y3, iv y4, iv y5, rv x1, rv x2, rv x3, rv x748, iv (Int32.ofNat (0 + 1 + (own_encs (own_sg l1 y0 y1)).length))] at_232 rfl ?_
  refine wm X751 hx hby 234 at_234 rfl ?_
  refine wc X751 hx hby 236 at_236 ?_
  refine wn X751 hx hby 237 at_237 (flt (by decide : ¬ ((2 : Int32) < (2 : Int32)))).1 ?_
  refine wb X751 hx hby 240 at_240 rfl rfl ?_
  try dsimp only [mkF]
  refine wm X751 hx hby 242 at_242 rfl ?_
  refine wm X751 hx hby 244 at_244 rfl ?_
  refine wm X751 hx hby 246 at_246 rfl ?_
  refine wm X751 hx hby 248 at_248 rfl ?_
  obtain ⟨v752, _, ⟨T752, L752, k752, n752⟩, -, X752, ⟨Lc752, hQ752, l752, y752, z752⟩, st752⟩ := Jvm.LawKit.callS X751 hx (y := (⟨"com/example/cohortwise/cohortwise/http/RequestsPathPinLaw", "segChk", "(Ljava/lang/String;IICC)I"⟩ : MethodName)) hown748 (mvT hZ748 (tw hw 210 rfl)) (mvT hZ748 (tw hw 211 rfl)) (mvT hZ748 (tw hw 2 rfl)) (mvT hZ748 (tw hw 212 rfl)) (by decide) (backOf (W := 0) (rm_sgc l Z a0 hw [] x748 t748 kt748 ((((([] : List Int32) ++ [(47 : Int32)]) ++ own_pcs (own_u8s (own_sg l1 y0 y1))) ++ [(47 : Int32)]) ++ own_pcs (own_u8s (own_sg l2 y2 y3))) (0 + 1 + (own_encs (own_sg l1 y0 y1)).length) l2 y2 y3 G1 G3 T748.heap n0 (f747.keep K748 all0) O2 P5 O4 rG3 OA OH OL Ex748 Fv748 Fc748 Vt748 ha748 ho748 hq2 hn_l2) hZ748 (tw hw 212 rfl) (tw hw 2 rfl) (by decide) (by decide)) (g := (mkF m 250 #[iv p1, iv p2, iv p3, iv p4, iv (2 : Int32), iv l1, iv l2, iv l3, iv y0, iv y1, iv y2, iv y3, iv y4, iv y5, rv x1, rv x2, rv x3, rv x748, iv (Int32.ofNat (0 + 1 + (own_encs (own_sg l1 y0 y1)).length))] [(.int y3), (.int y2), (.int l2), (.int (Int32.ofNat (0 + 1 + (own_encs (own_sg l1 y0 y1)).length))), (.ref x748)])) rfl (by rw [hml]; rfl) (argsL := [(.ref x748), (.int (Int32.ofNat (0 + 1 + (own_encs (own_sg l1 y0 y1)).length))), (.int l2), (.int y2), (.int y3)]) (rest := []) (lenOf pd_41 rfl) rfl (by show 2 * 0 + _ ≤ _; exact Nat.le_of_eq rfl) (hb hby at_250) (fun _ _ => ⟨rfl, e751, (by decide : 31 + 0 ≤ _), (by decide : 316 + 0 ≤ _)⟩)
  dsimp only [Pt.U, Pt.locs, Pt.cells, Pt.slots] at X752 l752 y752 z752 st752 hQ752
  subst l752 y752 z752
  refine own_go st752 ?_
  obtain ⟨rfl, Nq752, e752⟩ := hQ752
  have N752 := Fr.app N751 Nq752
  try dsimp only [mkF]
  refine wz X752 hx hby 253 #[iv p1, iv p2, iv p3, iv p4, iv (2 : Int32), iv l1, iv l2, iv l3, iv y0, iv y1, iv y2, iv y3, iv y4, iv y5, rv x1, rv x2, rv x3, rv x748, iv (Int32.ofNat ((0 + 1 + (own_encs (own_sg l1 y0 y1)).length) + 1 + (own_encs (own_sg l2 y2 y3)).length))] at_253 rfl ?_
  refine wm X752 hx hby 255 at_255 rfl ?_
  refine wc X752 hx hby 257 at_257 ?_
  refine wy X752 hx hby 258 276 at_258 (tlt (by decide : (2 : Int32) < (3 : Int32))).1 ?_
  refine wm X752 hx hby 276 at_276 rfl ?_
  try dsimp only [mkF]
  refine wb X752 hx hby 278 at_278 rfl rfl ?_
  obtain ⟨cq753, kq753, q753a, q753b, q753c⟩ := isOf hZ748 e752 Ex748
  obtain ⟨v753, _, ⟨T753, L753, k753, n753⟩, -, X753, ⟨Lc753, hQ753, l753, y753, z753⟩, st753⟩ := X752.virtualBack hx (y := (⟨"java/lang/String", "length", "()I"⟩ : MethodName)) (z := (⟨"java/lang/String", "length", "()I"⟩ : MethodName)) hown748 (mvT hZ748 (tw hw 105 rfl)) (mvT hZ748 (tw hw 106 rfl)) (notFace_of_selects (args := #[]) (mvT hZ748 (tw hw 108 rfl))) (mvT hZ748 (tw hw 108 rfl)) (mvT hZ748 (tw hw 107 rfl)) (by decide) (StrChars.Road.lenW (W := 1) hZ748 (own_wLen hw) (kI := 4) (tw hw 10 rfl) Ex748 Fv748 Fc748 Vt748 (Or.inl ⟨rfl, rfl, rfl, ha748⟩) (ho748.1) (O2.ext (f747.keep K748 all0).2) P5 ho748.2 (by decide) (by decide)) q753a q753c (g := (mkF m 280 #[iv p1, iv p2, iv p3, iv p4, iv (2 : Int32), iv l1, iv l2, iv l3, iv y0, iv y1, iv y2, iv y3, iv y4, iv y5, rv x1, rv x2, rv x3, rv x748, iv (Int32.ofNat ((0 + 1 + (own_encs (own_sg l1 y0 y1)).length) + 1 + (own_encs (own_sg l2 y2 y3)).length))] [(.ref x748), (.int (Int32.ofNat ((0 + 1 + (own_encs (own_sg l1 y0 y1)).length) + 1 + (own_encs (own_sg l2 y2 y3)).length)))])) rfl (by rw [hml]; rfl) (Steps.refl _) (argsL := []) (rest := [(.int (Int32.ofNat ((0 + 1 + (own_encs (own_sg l1 y0 y1)).length) + 1 + (own_encs (own_sg l2 y2 y3)).length)))]) (lenOf pd_1 rfl) rfl (by show 2 * 0 + _ ≤ _; exact Nat.le_of_eq rfl) (hb hby at_280) (fun _ _ => ⟨rfl, e752, (by decide : 31 + 0 ≤ _), (by decide : 316 + 0 ≤ _)⟩)
  dsimp only [Pt.U, Pt.locs, Pt.cells, Pt.slots] at X753 l753 y753 z753 st753 hQ753
  subst l753 y753 z753
  refine own_gos st753 ?_
  obtain ⟨rfl, rfl, e753⟩ := hQ753
  have Nq753 : Fr n0 ([] : List Loc) := Fr.nil n0
  have N753 := Fr.app N752 Nq753
  refine wn X753 hx hby 283 at_283 (teq (by rw [eOC] <;> first | rfl | (congr 1; simp only [List.length_append, List.length_cons, List.length_nil] <;> omega) : (Int32.ofNat ((0 + 1 + (own_encs (own_sg l1 y0 y1)).length) + 1 + (own_encs (own_sg l2 y2 y3)).length)) = (Int32.ofNat ((((([] : List Int32) ++ [(47 : Int32)]) ++ own_pcs (own_u8s (own_sg l1 y0 y1))) ++ [(47 : Int32)]) ++ own_pcs (own_u8s (own_sg l2 y2 y3))).length))).2 ?_
  refine wc X753 hx hby 286 at_286 ?_
  refine wg X753 hx hby 287 291 at_287 ?_
  try dsimp only [mkF]
  refine own_finW (v := (some (.int (nar .boolean (1 : Int32))))) X753 hh hZ748 hS748 (by rw [e753]; exact (Nat.le_refl _)) (fun h => by rw [hrt] at h; cases h) hlk (fun fs hr => retN X753 hx (t := .boolean) hrt (by simp) (hb hby at_291) hr) (QQ := QQ0 n0) ?_ own_hEL e753 (C750) (by decide) (by decide)
  rw [e753]
  exact ⟨rfl, N753⟩

set_option maxRecDepth 65536 in
set_option maxHeartbeats 40000000 in
theorem own_fst3 (l : Launch) (Z : State) (a0 : Array Value) (hw : ∀ d ∈ tables_1, d.before a0 Z = true) (p1 p2 p3 p4 l1 l2 l3 y0 y1 y2 y3 y4 y5 : Int32) (x1 t1 : Addr) (k1 : ClassId) (cx1 Nx1 : Int32) (vx1 : List Value) (x2 t2 : Addr) (k2 : ClassId) (cx2 Nx2 : Int32) (vx2 : List Value) (x3 t3 : Addr) (k3 : ClassId) (cx3 Nx3 : Int32) (vx3 : List Value) (hA : Addr) (kh : ClassId) (u8 : Addr) (G1 : Int32) (G3 : Value) (h0 : Heap) (n0 : Nat) {p : Program} {e : Env} {s : State} {vm0 : Vm} {m : MethodId} {below : List Frame} {meth : Method} {cC : Code} {T0 : State} {locs : List Loc} (X0 : Stand p l e room_1 (s.setVm vm0) m #[(.int p1), (.int p2), (.int p3), (.int p4)] below meth cC T0 locs 18 36) (hx : p.tables.exec = Jvm.exec) (hby : cC.code = code) (hml : cC.maxLocals = maxLocals) (hown : (s.setVm vm0).vm.findClass "com/example/cohortwise/cohortwise/http/RequestsPathPinLaw" = some m.cls) (hZ : Z.Warmed39 (s.setVm vm0).vm) (hrt : meth.sig.returnType = ret) (hlk : meth.locks = false) (h1 : Heap) (e0 : T0.heap = h1) (N0 : Fr n0 locs) (Z0 : n0 ≤ h1.size) (O1 : Old Z n0 h1) (hh : s.heap = h0) {k0 : Nat} (hS0 : s.Since vm0 k0) (hk0 : k0 ≤ h1.size) (C0 : CHr Z own_EL s.vm h0 vm0 h1) (E_x1 : Exa Z h1 x1 "java/lang/String") (Fv_x1 : Fld Z h1 x1 "java/lang/String" "value" "[B" (.ref t1)) (Fc_x1 : Fld Z h1 x1 "java/lang/String" "coder" "B" (.int cx1)) (V_t1 : Arv Z h1 t1 k1 .byte Nx1 vx1 (.int (0 : Int32))) (X_t1 : Exa Z h1 t1 "[B") (E_x2 : Exa Z h1 x2 "java/lang/String") (Fv_x2 : Fld Z h1 x2 "java/lang/String" "value" "[B" (.ref t2)) (Fc_x2 : Fld Z h1 x2 "java/lang/String" "coder" "B" (.int cx2)) (V_t2 : Arv Z h1 t2 k2 .byte Nx2 vx2 (.int (0 : Int32))) (X_t2 : Exa Z h1 t2 "[B") (E_x3 : Exa Z h1 x3 "java/lang/String") (Fv_x3 : Fld Z h1 x3 "java/lang/String" "value" "[B" (.ref t3)) (Fc_x3 : Fld Z h1 x3 "java/lang/String" "coder" "B" (.int cx3)) (V_t3 : Arv Z h1 t3 k3 .byte Nx3 vx3 (.int (0 : Int32))) (X_t3 : Exa Z h1 t3 "[B") (V_h : Arv Z h1 hA kh .char (16 : Int32) (own_HEX.map Value.int) (.int (0 : Int32))) (O2 : Sta Z Z.heap "java/lang/String" "COMPACT_STRINGS" "Z" (.int G1)) (P5 : ¬ (G1 = (0 : Int32))) (O4 : Sta Z Z.heap "jdk/internal/util/Preconditions" "SIOOBE_FORMATTER" "Ljava/util/function/BiFunction;" G3) (rG3 : G3.isRef = true) (OA : Sta Z Z.heap "java/lang/StringUTF16" "$assertionsDisabled" "Z" (.int (1 : Int32))) (OH : Sta Z Z.heap "java/lang/StringUTF16" "HI_BYTE_SHIFT" "I" (.int (0 : Int32))) (OL : Sta Z Z.heap "java/lang/StringUTF16" "LO_BYTE_SHIFT" "I" (.int (8 : Int32))) (OU : Sta Z Z.heap "sun/nio/cs/UTF_8" "INSTANCE" "Lsun/nio/cs/UTF_8;" (.ref u8)) (OS : Sta Z Z.heap "java/nio/charset/StandardCharsets" "UTF_8" "Ljava/nio/charset/Charset;" (.ref u8)) (OX : Sta Z Z.heap "com/example/cohortwise/cohortwise/http/Requests" "HEX" "[C" (.ref hA)) (hC_x1 : StrChars.Road.CodA (own_sg l1 y0 y1) cx1 Nx1 vx1) (hC_x2 : StrChars.Road.CodA (own_sg l2 y2 y3) cx2 Nx2 vx2) (hC_x3 : StrChars.Road.CodA (own_sg l3 y4 y5) cx3 Nx3 vx3) (hb_y0 : ¬ y0 < 0 ∧ ¬ (65535 : Int32) < y0) (hb_y1 : ¬ y1 < 0 ∧ ¬ (65535 : Int32) < y1) (hb_y2 : ¬ y2 < 0 ∧ ¬ (65535 : Int32) < y2) (hb_y3 : ¬ y3 < 0 ∧ ¬ (65535 : Int32) < y3) (hb_y4 : ¬ y4 < 0 ∧ ¬ (65535 : Int32) < y4) (hb_y5 : ¬ y5 < 0 ∧ ¬ (65535 : Int32) < y5) (hs_y0 : y0 < (55296 : Int32) ∨ (57343 : Int32) < y0) (hs_y1 : y1 < (55296 : Int32) ∨ (57343 : Int32) < y1) (hs_y2 : y2 < (55296 : Int32) ∨ (57343 : Int32) < y2) (hs_y3 : y3 < (55296 : Int32) ∨ (57343 : Int32) < y3) (hs_y4 : y4 < (55296 : Int32) ∨ (57343 : Int32) < y4) (hs_y5 : y5 < (55296 : Int32) ∨ (57343 : Int32) < y5) (hn_l1 : l1 = 0 ∨ l1 = 1 ∨ l1 = 2) (hn_l2 : l2 = 0 ∨ l2 = 1 ∨ l2 = 2) (hn_l3 : l3 = 0 ∨ l3 = 1 ∨ l3 = 2) :
    own_Go p e below (T0.setTop (mkF m 111 #[iv p1, iv p2, iv p3, iv p4, iv (3 : Int32), iv l1, iv l2, iv l3, iv y0, iv y1, iv y2, iv y3, iv y4, iv y5, rv x1, rv x2, rv x3, .unset, .unset] [])) (fun oO U' => ∃ rV rL, oO = .returned rV ∧ QQ0 n0 rV U'.heap rL ∧ CHr Z own_EL s.vm s.heap U'.vm U'.heap ∧ ReturnedEndW s oO U' rL 56 2624) := by
  have own_wS := own_wSt hw
  have own_hEL := own_hELt hw
  refine wm X0 hx hby 111 at_111 rfl ?_
  refine wf X0 hx hby 113 128 at_113 ((if0 _ _).trans (feq (by decide : ¬ ((3 : Int32) = (0 : Int32)))).2) ?_
  refine wm X0 hx hby 128 at_128 rfl ?_
  refine wc X0 hx hby 130 at_130 ?_
  try dsimp only [mkF]
  refine wy X0 hx hby 131 151 at_131 (feq (by decide : ¬ ((3 : Int32) = (1 : Int32)))).2 ?_
  refine wm X0 hx hby 151 at_151 rfl ?_
  refine wc X0 hx hby 153 at_153 ?_
  refine wy X0 hx hby 154 179 at_154 (feq (by decide : ¬ ((3 : Int32) = (2 : Int32)))).2 ?_
  refine wc X0 hx hby 179 at_179 ?_
  try dsimp only [mkF]
  obtain ⟨T754, h754, k754, X754, e754, E754, A754, O754, st754⟩ := newR X0 hx hZ hown (tw hw 9 rfl) (tw hw 31 rfl) e0 (g := (mkF m 180 #[iv p1, iv p2, iv p3, iv p4, iv (3 : Int32), iv l1, iv l2, iv l3, iv y0, iv y1, iv y2, iv y3, iv y4, iv y5, rv x1, rv x2, rv x3, .unset, .unset] [(.int (3 : Int32))])) rfl (hb hby at_180) rfl (by decide) (cap := 3) (by decide) (by decide) (by decide) (by decide)
  obtain ⟨b754, g754⟩ : ∃ z, z = h1.size := ⟨_, rfl⟩
  rw [← g754] at A754 st754
  refine own_go st754 ?_
  have C755 := C0.trans (CHr.ext E754 C0.1)
  have V754 : Arv Z h754 b754 k754 (.object "java/lang/String") (3 : Int32) [.null, .null, .null] .null := (Arv.new A754 (by decide)).pad (pad_rep [] .null 3)
  refine og (fun _ k => XS.dup X754.here hx rfl (hb hby at_183) rfl rfl k) ?_
  refine wc X754 hx hby 184 at_184 ?_
  refine wb X754 hx hby 185 at_185 rfl rfl ?_
  obtain ⟨c756, A756, q756, S756, M756, Hs756, Gs756⟩ := id V754
  obtain ⟨T757, h757, X757, e757, W757, st757⟩ := stR X754 hx hZ e754 A756 (j := (0 : Int32)) (inb_of S756 ⟨by decide, by decide⟩) rfl (Sto.ofV A756 q756 O754 (Ins.self (E_x1.ext E754))) (g := (mkF m 187 #[iv p1, iv p2, iv p3, iv p4, iv (3 : Int32), iv l1, iv l2, iv l3, iv y0, iv y1, iv y2, iv y3, iv y4, iv y5, rv x1, rv x2, rv x3, .unset, .unset] [(.ref x1), (.int (0 : Int32)), (.ref b754), (.ref b754)])) rfl rfl (hb hby at_187)
  refine own_go st757 ?_
  have N757 := Fr.snoc X757 N0 (Nat.le_trans Z0 (Nat.le_of_eq g754.symm))
  have f758 := (Safe.ext E754 C0.1 (Safe.new (Nat.le_of_eq g754.symm)))
  have C759 := C755.trans (CHr.wr W757 f758 C755.1)
  have V757 : Arv Z h757 b754 k754 (.object "java/lang/String") (3 : Int32) [(.ref x1), .null, .null] .null := Arv.set A756 q756 S756 M756 Hs756 Gs756 rfl W757 0 rfl (Nat.le_of_ble_eq_true rfl)
  try dsimp only [mkF]
  refine og (fun _ k => XS.dup X757.here hx rfl (hb hby at_188) rfl rfl k) ?_
  refine wc X757 hx hby 189 at_189 ?_
  refine wb X757 hx hby 190 at_190 rfl rfl ?_
  obtain ⟨c760, A760, q760, S760, M760, Hs760, Gs760⟩ := id V757
  have f761 := ((E_x2.ext E754).wr W757)
  obtain ⟨T762, h762, X762, e762, W762, st762⟩ := stR X757 hx hZ e757 A760 (j := (1 : Int32)) (inb_of S760 ⟨by decide, by decide⟩) rfl (Sto.ofV A760 q760 O754 (Ins.self f761)) (g := (mkF m 192 #[iv p1, iv p2, iv p3, iv p4, iv (3 : Int32), iv l1, iv l2, iv l3, iv y0, iv y1, iv y2, iv y3, iv y4, iv y5, rv x1, rv x2, rv x3, .unset, .unset] [(.ref x2), (.int (1 : Int32)), (.ref b754), (.ref b754)])) rfl rfl (hb hby at_192)
  refine own_go st762 ?_
  have N762 := Fr.snoc X762 N757 (Nat.le_trans Z0 (Nat.le_of_eq g754.symm))
  have f763 := (Safe.wr W757 f758 C755.1 f758)
  have C764 := C759.trans (CHr.wr W762 f763 C759.1)
  have V762 : Arv Z h762 b754 k754 (.object "java/lang/String") (3 : Int32) [(.ref x1), (.ref x2), .null] .null := Arv.set A760 q760 S760 M760 Hs760 Gs760 rfl W762 1 rfl (Nat.le_of_ble_eq_true rfl)
  refine og (fun _ k => XS.dup X762.here hx rfl (hb hby at_193) rfl rfl k) ?_
  try dsimp only [mkF]
  refine wc X762 hx hby 194 at_194 ?_
  refine wb X762 hx hby 195 at_195 rfl rfl ?_
  obtain ⟨c765, A765, q765, S765, M765, Hs765, Gs765⟩ := id V762
  have f766 := (((E_x3.ext E754).wr W757).wr W762)
  obtain ⟨T767, h767, X767, e767, W767, st767⟩ := stR X762 hx hZ e762 A765 (j := (2 : Int32)) (inb_of S765 ⟨by decide, by decide⟩) rfl (Sto.ofV A765 q765 O754 (Ins.self f766)) (g := (mkF m 197 #[iv p1, iv p2, iv p3, iv p4, iv (3 : Int32), iv l1, iv l2, iv l3, iv y0, iv y1, iv y2, iv y3, iv y4, iv y5, rv x1, rv x2, rv x3, .unset, .unset] [(.ref x3), (.int (2 : Int32)), (.ref b754), (.ref b754)])) rfl rfl (hb hby at_197)
  refine own_go st767 ?_
  have N767 := Fr.snoc X767 N762 (Nat.le_trans Z0 (Nat.le_of_eq g754.symm))
  have f768 := (Safe.wr W762 f763 C759.1 f763)
  have C769 := C764.trans (CHr.wr W767 f768 C764.1)
  have V767 : Arv Z h767 b754 k754 (.object "java/lang/String") (3 : Int32) [(.ref x1), (.ref x2), (.ref x3)] .null := Arv.set A765 q765 S765 M765 Hs765 Gs765 rfl W767 2 rfl (Nat.le_of_ble_eq_true rfl)
  have f770 := ((((E_x1.ext E754).wr W757).wr W762).wr W767)
  have ne771 : x1 ≠ b754 := Nat.ne_of_lt (Nat.lt_of_lt_of_le E_x1.lt (Nat.le_of_eq g754.symm))
  have f772 := ((((Fv_x1.ext E754).other W757 (Or.inl ne771)).other W762 (Or.inl ne771)).other W767 (Or.inl ne771))
  have f773 := ((((Fc_x1.ext E754).other W757 (Or.inl ne771)).other W762 (Or.inl ne771)).other W767 (Or.inl ne771))
  have ne774 : t1 ≠ b754 := Nat.ne_of_lt (Nat.lt_of_lt_of_le V_t1.lt (Nat.le_of_eq g754.symm))
  have f775 := ((((V_t1.ext E754).other W757 ne774).other W762 ne774).other W767 ne774)
  have f776 := ((((X_t1.ext E754).wr W757).wr W762).wr W767)
  have ne777 : x2 ≠ b754 := Nat.ne_of_lt (Nat.lt_of_lt_of_le E_x2.lt (Nat.le_of_eq g754.symm))
  have f778 := ((((Fv_x2.ext E754).other W757 (Or.inl ne777)).other W762 (Or.inl ne777)).other W767 (Or.inl ne777))
  have f779 := ((((Fc_x2.ext E754).other W757 (Or.inl ne777)).other W762 (Or.inl ne777)).other W767 (Or.inl ne777))
  have ne780 : t2 ≠ b754 := Nat.ne_of_lt (Nat.lt_of_lt_of_le V_t2.lt (Nat.le_of_eq g754.symm))
  have f781 := ((((V_t2.ext E754).other W757 ne780).other W762 ne780).other W767 ne780)
  have f782 := ((((X_t2.ext E754).wr W757).wr W762).wr W767)
  have ne783 : x3 ≠ b754 := Nat.ne_of_lt (Nat.lt_of_lt_of_le E_x3.lt (Nat.le_of_eq g754.symm))
  have f784 := ((((Fv_x3.ext E754).other W757 (Or.inl ne783)).other W762 (Or.inl ne783)).other W767 (Or.inl ne783))
  have f785 := ((((Fc_x3.ext E754).other W757 (Or.inl ne783)).other W762 (Or.inl ne783)).other W767 (Or.inl ne783))
  have ne786 : t3 ≠ b754 := Nat.ne_of_lt (Nat.lt_of_lt_of_le V_t3.lt (Nat.le_of_eq g754.symm))
  have f787 := ((((V_t3.ext E754).other W757 ne786).other W762 ne786).other W767 ne786)
  have f788 := ((((X_t3.ext E754).wr W757).wr W762).wr W767)
  have ne789 : hA ≠ b754 := Nat.ne_of_lt (Nat.lt_of_lt_of_le V_h.lt (Nat.le_of_eq g754.symm))
  have f790 := ((((V_h.ext E754).other W757 ne789).other W762 ne789).other W767 ne789)
  have f791 := ((((O1.ext E754).wr W757 (Nat.le_trans Z0 (Nat.le_of_eq g754.symm))).wr W762 (Nat.le_trans Z0 (Nat.le_of_eq g754.symm))).wr W767 (Nat.le_trans Z0 (Nat.le_of_eq g754.symm)))
  obtain ⟨v792, _, ⟨T792, L792, k792, n792⟩, -, X792, hS792, hg792, ⟨Lc792, hQ792, l792, y792, z792, A792⟩, st792⟩ := callSS X767 hx (y := (⟨"com/example/cohortwise/cohortwise/http/Requests", "path", "([Ljava/lang/String;)Ljava/lang/String;"⟩ : MethodName)) hown (mvT hZ (tw hw 32 rfl)) (mvT hZ (tw hw 33 rfl)) (mvT hZ (tw hw 34 rfl)) (mvT hZ (tw hw 35 rfl)) (by decide) (backOfSH (W := 0) (rm_pth3 l Z a0 hw [] b754 k754 x1 t1 k1 (own_sg l1 y0 y1) cx1 Nx1 vx1 x2 t2 k2 (own_sg l2 y2 y3) cx2 Nx2 vx2 x3 t3 k3 (own_sg l3 y4 y5) cx3 Nx3 vx3 hA kh u8 G1 G3 h767 n0 f791 O2 P5 O4 rG3 OA OH OL OU OS OX V767 f770 f772 f773 f775 f776 hC_x1 (own_sgo (n := l1) hb_y0 hb_y1).1 (own_sgo (n := l1) hb_y0 hb_y1).2 (own_sgn hs_y0 hs_y1) ((f761.wr W762).wr W767) f778 f779 f781 f782 hC_x2 (own_sgo (n := l2) hb_y2 hb_y3).1 (own_sgo (n := l2) hb_y2 hb_y3).2 (own_sgn hs_y2 hs_y3) (f766.wr W767) f784 f785 f787 f788 hC_x3 (own_sgo (n := l3) hb_y4 hb_y5).1 (own_sgo (n := l3) hb_y4 hb_y5).2 (own_sgn hs_y4 hs_y5) f790) hZ (tw hw 35 rfl) (tw hw 34 rfl) (by decide) (by decide) own_hEL C769.1) (g := (mkF m 198 #[iv p1, iv p2, iv p3, iv p4, iv (3 : Int32), iv l1, iv l2, iv l3, iv y0, iv y1, iv y2, iv y3, iv y4, iv y5, rv x1, rv x2, rv x3, .unset, .unset] [(.ref b754)])) rfl (by rw [hml]; rfl) (argsL := [(.ref b754)]) (rest := []) (lenOf pd_40 rfl) rfl (by show 2 * 0 + _ ≤ _; exact Nat.le_of_eq rfl) (hb hby at_198) (fun _ _ => ⟨rfl, e767, (by decide : 19 + 14 ≤ _), (by decide : 39 + 290 ≤ _)⟩)
  dsimp only [Pt.U, Pt.locs, Pt.cells, Pt.slots] at X792 l792 y792 z792 st792 hQ792 hS792 hg792 A792
  subst l792 y792 z792
  refine own_gos st792 ?_
  have z793 := (Nat.le_trans (Nat.le_trans (Nat.le_trans E754.1 (Keep.of_wr W757).1) (Keep.of_wr W762).1) (Keep.of_wr W767).1)
  obtain ⟨X792, hS792, hZ792, hown792⟩ := rebS hS0 (k0 := _) (n1 := T767.heap.size) (by rw [e767]; exact (Nat.le_trans hk0 z793)) X792 hS792 hg792 hZ hown
  obtain ⟨x792, t792, kt792, rfl, Nq792, K792, xg792, Ex792, Fv792, Fc792, Vt792, ho792, ha792⟩ := hQ792
  have C794 := C769.trans A792
  have N792 := Fr.app N767 Nq792
  refine wu X792 hx hby 201 #[iv p1, iv p2, iv p3, iv p4, iv (3 : Int32), iv l1, iv l2, iv l3, iv y0, iv y1, iv y2, iv y3, iv y4, iv y5, rv x1, rv x2, rv x3, rv x792, .unset] at_201 rfl rfl ?_
  try dsimp only [mkF]
  refine wb X792 hx hby 203 at_203 rfl rfl ?_
  refine og (fun _ k => XS.ifnonnullYes X792.here hx rfl (pc0 := 205) (pc' := 210) rfl (hb hby at_205) rfl (by decide) (by decide) k) ?_
  have eOC : ((((((([] : List Int32) ++ [(47 : Int32)]) ++ own_pcs (own_u8s (own_sg l1 y0 y1))) ++ [(47 : Int32)]) ++ own_pcs (own_u8s (own_sg l2 y2 y3))) ++ [(47 : Int32)]) ++ own_pcs (own_u8s (own_sg l3 y4 y5))) = ((([47] ++ (own_encs (own_sg l1 y0 y1))) ++ ([47] ++ (own_encs (own_sg l2 y2 y3)))) ++ ([47] ++ (own_encs (own_sg l3 y4 y5)))) := by rw [own_encsU (own_sg l1 y0 y1) (own_sgo hb_y0 hb_y1).1.1, own_encsU (own_sg l2 y2 y3) (own_sgo hb_y2 hb_y3).1.1, own_encsU (own_sg l3 y4 y5) (own_sgo hb_y4 hb_y5).1.1]; simp
  have hq0 : own_pre ((((((([] : List Int32) ++ [(47 : Int32)]) ++ own_pcs (own_u8s (own_sg l1 y0 y1))) ++ [(47 : Int32)]) ++ own_pcs (own_u8s (own_sg l2 y2 y3))) ++ [(47 : Int32)]) ++ own_pcs (own_u8s (own_sg l3 y4 y5))) 0 ((([47] ++ (own_encs (own_sg l1 y0 y1))) ++ ([47] ++ (own_encs (own_sg l2 y2 y3)))) ++ ([47] ++ (own_encs (own_sg l3 y4 y5)))) := by rw [eOC]; exact own_pre0 _
  have hqq := own_preA hq0
  have hq1 := (own_preA hqq.1).1
  have hq2 := own_preN (own_preA hqq.1).2
  have hq3 : own_pre ((((((([] : List Int32) ++ [(47 : Int32)]) ++ own_pcs (own_u8s (own_sg l1 y0 y1))) ++ [(47 : Int32)]) ++ own_pcs (own_u8s (own_sg l2 y2 y3))) ++ [(47 : Int32)]) ++ own_pcs (own_u8s (own_sg l3 y4 y5))) ((0 + 1 + (own_encs (own_sg l1 y0 y1)).length) + 1 + (own_encs (own_sg l2 y2 y3)).length) ([47] ++ (own_encs (own_sg l3 y4 y5))) := own_preN (p := (0 + 1 + (own_encs (own_sg l1 y0 y1)).length)) (by have q := hqq.2; simp only [List.length_append, List.length_cons, List.length_nil] at q ⊢; rw [show (0 + 1 + (own_encs (own_sg l1 y0 y1)).length) + (0 + 1 + (own_encs (own_sg l2 y2 y3)).length) = 0 + (0 + 1 + (own_encs (own_sg l1 y0 y1)).length + (0 + 1 + (own_encs (own_sg l2 y2 y3)).length)) by omega]; exact q)
  refine wc X792 hx hby 210 at_210 ?_
  refine wz X792 hx hby 211 #[iv p1, iv p2, iv p3, iv p4, iv (3 : Int32), iv l1, iv l2, iv l3, iv y0, iv y1, iv y2, iv y3, iv y4, iv y5, rv x1, rv x2, rv x3, rv x792, iv (0 : Int32)] at_211 rfl ?_
  refine wm X792 hx hby 213 at_213 rfl ?_
  try dsimp only [mkF]
  refine wc X792 hx hby 215 at_215 ?_
  refine wn X792 hx hby 216 at_216 (flt (by decide : ¬ ((3 : Int32) < (1 : Int32)))).1 ?_
  refine wb X792 hx hby 219 at_219 rfl rfl ?_
  refine wm X792 hx hby 221 at_221 rfl ?_
  show own_Go p e below (T792.setTop (mkF m 223 #[iv p1, iv p2, iv p3, iv p4, iv (3 : Int32), iv l1, iv l2, iv l3, iv y0, iv y1, iv y2, iv y3, iv y4, iv y5, rv x1, rv x2, rv x3, rv x792, iv (0 : Int32)] [(.int (Int32.ofNat 0)), (.ref x792)])) _
  refine wm X792 hx hby 223 at_223 rfl ?_
  try dsimp only [mkF]
  refine wm X792 hx hby 225 at_225 rfl ?_
  refine wm X792 hx hby 227 at_227 rfl ?_
  obtain ⟨v795, _, ⟨T795, L795, k795, n795⟩, -, X795, ⟨Lc795, hQ795, l795, y795, z795⟩, st795⟩ := Jvm.LawKit.callS X792 hx (y := (⟨"com/example/cohortwise/cohortwise/http/RequestsPathPinLaw", "segChk", "(Ljava/lang/String;IICC)I"⟩ : MethodName)) hown792 (mvT hZ792 (tw hw 210 rfl)) (mvT hZ792 (tw hw 211 rfl)) (mvT hZ792 (tw hw 2 rfl)) (mvT hZ792 (tw hw 212 rfl)) (by decide) (backOf (W := 0) (rm_sgc l Z a0 hw [] x792 t792 kt792 ((((((([] : List Int32) ++ [(47 : Int32)]) ++ own_pcs (own_u8s (own_sg l1 y0 y1))) ++ [(47 : Int32)]) ++ own_pcs (own_u8s (own_sg l2 y2 y3))) ++ [(47 : Int32)]) ++ own_pcs (own_u8s (own_sg l3 y4 y5))) 0 l1 y0 y1 G1 G3 T792.heap n0 (f791.keep K792 all0) O2 P5 O4 rG3 OA OH OL Ex792 Fv792 Fc792 Vt792 ha792 ho792 hq1 hn_l1) hZ792 (tw hw 212 rfl) (tw hw 2 rfl) (by decide) (by decide)) (g := (mkF m 229 #[iv p1, iv p2, iv p3, iv p4, iv (3 : Int32), iv l1, iv l2, iv l3, iv y0, iv y1, iv y2, iv y3, iv y4, iv y5, rv x1, rv x2, rv x3, rv x792, iv (0 : Int32)] [(.int y1), (.int y0), (.int l1), (.int (Int32.ofNat 0)), (.ref x792)])) rfl (by rw [hml]; rfl) (argsL := [(.ref x792), (.int (Int32.ofNat 0)), (.int l1), (.int y0), (.int y1)]) (rest := []) (lenOf pd_41 rfl) rfl (by show 2 * 0 + _ ≤ _; exact Nat.le_of_eq rfl) (hb hby at_229) (fun _ _ => ⟨rfl, (rfl : T792.heap = T792.heap), (by decide : 33 + 0 ≤ _), (by decide : 329 + 0 ≤ _)⟩)
  dsimp only [Pt.U, Pt.locs, Pt.cells, Pt.slots] at X795 l795 y795 z795 st795 hQ795
  subst l795 y795 z795
  refine own_go st795 ?_
  obtain ⟨rfl, Nq795, e795⟩ := hQ795
  have N795 := Fr.app N792 Nq795
  refine wz X795 hx hby 232 #[iv p1, iv p2, iv p3, iv p4, iv (3 : Int32), iv l1, iv l2, iv l3, iv y0, iv y1, iv y2, iv y3, iv y4, iv y5, rv x1, rv x2, rv x3, rv x792, iv (Int32.ofNat (0 + 1 + (own_encs (own_sg l1 y0 y1)).length))] at_232 rfl ?_
  refine wm X795 hx hby 234 at_234 rfl ?_
  try dsimp only [mkF]
  refine wc X795 hx hby 236 at_236 ?_
  refine wn X795 hx hby 237 at_237 (flt (by decide : ¬ ((3 : Int32) < (2 : Int32)))).1 ?_
  refine wb X795 hx hby 240 at_240 rfl rfl ?_
  refine wm X795 hx hby 242 at_242 rfl ?_
  refine wm X795 hx hby 244 at_244 rfl ?_
  try dsimp only [mkF]
  refine wm X795 hx hby 246 at_246 rfl ?_
  refine wm X795 hx hby 248 at_248 rfl ?_
  obtain ⟨v796, _, ⟨T796, L796, k796, n796⟩, -, X796, ⟨Lc796, hQ796, l796, y796, z796⟩, st796⟩ := Jvm.LawKit.callS X795 hx (y := (⟨"com/example/cohortwise/cohortwise/http/RequestsPathPinLaw", "segChk", "(Ljava/lang/String;IICC)I"⟩ : MethodName)) hown792 (mvT hZ792 (tw hw 210 rfl)) (mvT hZ792 (tw hw 211 rfl)) (mvT hZ792 (tw hw 2 rfl)) (mvT hZ792 (tw hw 212 rfl)) (by decide) (backOf (W := 0) (rm_sgc l Z a0 hw [] x792 t792 kt792 ((((((([] : List Int32) ++ [(47 : Int32)]) ++ own_pcs (own_u8s (own_sg l1 y0 y1))) ++ [(47 : Int32)]) ++ own_pcs (own_u8s (own_sg l2 y2 y3))) ++ [(47 : Int32)]) ++ own_pcs (own_u8s (own_sg l3 y4 y5))) (0 + 1 + (own_encs (own_sg l1 y0 y1)).length) l2 y2 y3 G1 G3 T792.heap n0 (f791.keep K792 all0) O2 P5 O4 rG3 OA OH OL Ex792 Fv792 Fc792 Vt792 ha792 ho792 hq2 hn_l2) hZ792 (tw hw 212 rfl) (tw hw 2 rfl) (by decide) (by decide)) (g := (mkF m 250 #[iv p1, iv p2, iv p3, iv p4, iv (3 : Int32), iv l1, iv l2, iv l3, iv y0, iv y1, iv y2, iv y3, iv y4, iv y5, rv x1, rv x2, rv x3, rv x792, iv (Int32.ofNat (0 + 1 + (own_encs (own_sg l1 y0 y1)).length))] [(.int y3), (.int y2), (.int l2), (.int (Int32.ofNat (0 + 1 + (own_encs (own_sg l1 y0 y1)).length))), (.ref x792)])) rfl (by rw [hml]; rfl) (argsL := [(.ref x792), (.int (Int32.ofNat (0 + 1 + (own_encs (own_sg l1 y0 y1)).length))), (.int l2), (.int y2), (.int y3)]) (rest := []) (lenOf pd_41 rfl) rfl (by show 2 * 0 + _ ≤ _; exact Nat.le_of_eq rfl) (hb hby at_250) (fun _ _ => ⟨rfl, e795, (by decide : 33 + 0 ≤ _), (by decide : 329 + 0 ≤ _)⟩)
  dsimp only [Pt.U, Pt.locs, Pt.cells, Pt.slots] at X796 l796 y796 z796 st796 hQ796
  subst l796 y796 z796
  refine own_go st796 ?_
  obtain ⟨rfl, Nq796, e796⟩ := hQ796
  have N796 := Fr.app N795 Nq796
  refine wz X796 hx hby 253 #[iv p1, iv p2, iv p3, iv p4, iv (3 : Int32), iv l1, iv l2, iv l3, iv y0, iv y1, iv y2, iv y3, iv y4, iv y5, rv x1, rv x2, rv x3, rv x792, iv (Int32.ofNat ((0 + 1 + (own_encs (own_sg l1 y0 y1)).length) + 1 + (own_encs (own_sg l2 y2 y3)).length))] at_253 rfl ?_
  refine wm X796 hx hby 255 at_255 rfl ?_
  try dsimp only [mkF]
  refine wc X796 hx hby 257 at_257 ?_
  refine wn X796 hx hby 258 at_258 (flt (by decide : ¬ ((3 : Int32) < (3 : Int32)))).1 ?_
  refine wb X796 hx hby 261 at_261 rfl rfl ?_
  refine wm X796 hx hby 263 at_263 rfl ?_
  refine wm X796 hx hby 265 at_265 rfl ?_
  try dsimp only [mkF]
  refine wm X796 hx hby 267 at_267 rfl ?_
  refine wm X796 hx hby 269 at_269 rfl ?_
  obtain ⟨v797, _, ⟨T797, L797, k797, n797⟩, -, X797, ⟨Lc797, hQ797, l797, y797, z797⟩, st797⟩ := Jvm.LawKit.callS X796 hx (y := (⟨"com/example/cohortwise/cohortwise/http/RequestsPathPinLaw", "segChk", "(Ljava/lang/String;IICC)I"⟩ : MethodName)) hown792 (mvT hZ792 (tw hw 210 rfl)) (mvT hZ792 (tw hw 211 rfl)) (mvT hZ792 (tw hw 2 rfl)) (mvT hZ792 (tw hw 212 rfl)) (by decide) (backOf (W := 0) (rm_sgc l Z a0 hw [] x792 t792 kt792 ((((((([] : List Int32) ++ [(47 : Int32)]) ++ own_pcs (own_u8s (own_sg l1 y0 y1))) ++ [(47 : Int32)]) ++ own_pcs (own_u8s (own_sg l2 y2 y3))) ++ [(47 : Int32)]) ++ own_pcs (own_u8s (own_sg l3 y4 y5))) ((0 + 1 + (own_encs (own_sg l1 y0 y1)).length) + 1 + (own_encs (own_sg l2 y2 y3)).length) l3 y4 y5 G1 G3 T792.heap n0 (f791.keep K792 all0) O2 P5 O4 rG3 OA OH OL Ex792 Fv792 Fc792 Vt792 ha792 ho792 hq3 hn_l3) hZ792 (tw hw 212 rfl) (tw hw 2 rfl) (by decide) (by decide)) (g := (mkF m 271 #[iv p1, iv p2, iv p3, iv p4, iv (3 : Int32), iv l1, iv l2, iv l3, iv y0, iv y1, iv y2, iv y3, iv y4, iv y5, rv x1, rv x2, rv x3, rv x792, iv (Int32.ofNat ((0 + 1 + (own_encs (own_sg l1 y0 y1)).length) + 1 + (own_encs (own_sg l2 y2 y3)).length))] [(.int y5), (.int y4), (.int l3), (.int (Int32.ofNat ((0 + 1 + (own_encs (own_sg l1 y0 y1)).length) + 1 + (own_encs (own_sg l2 y2 y3)).length))), (.ref x792)])) rfl (by rw [hml]; rfl) (argsL := [(.ref x792), (.int (Int32.ofNat ((0 + 1 + (own_encs (own_sg l1 y0 y1)).length) + 1 + (own_encs (own_sg l2 y2 y3)).length))), (.int l3), (.int y4), (.int y5)]) (rest := []) (lenOf pd_41 rfl) rfl (by show 2 * 0 + _ ≤ _; exact Nat.le_of_eq rfl) (hb hby at_271) (fun _ _ => ⟨rfl, e796, (by decide : 33 + 0 ≤ _), (by decide : 329 + 0 ≤ _)⟩)
  dsimp only [Pt.U, Pt.locs, Pt.cells, Pt.slots] at X797 l797 y797 z797 st797 hQ797
  subst l797 y797 z797
  refine own_go st797 ?_
  obtain ⟨rfl, Nq797, e797⟩ := hQ797
  have N797 := Fr.app N796 Nq797
  refine wz X797 hx hby 274 #[iv p1, iv p2, iv p3, iv p4, iv (3 : Int32), iv l1, iv l2, iv l3, iv y0, iv y1, iv y2, iv y3, iv y4, iv y5, rv x1, rv x2, rv x3, rv x792, iv (Int32.ofNat (((0 + 1 + (own_encs (own_sg l1 y0 y1)).length) + 1 + (own_encs (own_sg l2 y2 y3)).length) + 1 + (own_encs (own_sg l3 y4 y5)).length))] at_274 rfl ?_
  refine wm X797 hx hby 276 at_276 rfl ?_
  try dsimp only [mkF]
  refine wb X797 hx hby 278 at_278 rfl rfl ?_
  obtain ⟨cq798, kq798, q798a, q798b, q798c⟩ := isOf hZ792 e797 Ex792
  obtain ⟨v798, _, ⟨T798, L798, k798, n798⟩, -, X798, ⟨Lc798, hQ798, l798, y798, z798⟩, st798⟩ := X797.virtualBack hx (y := (⟨"java/lang/String", "length", "()I"⟩ : MethodName)) (z := (⟨"java/lang/String", "length", "()I"⟩ : MethodName)) hown792 (mvT hZ792 (tw hw 105 rfl)) (mvT hZ792 (tw hw 106 rfl)) (notFace_of_selects (args := #[]) (mvT hZ792 (tw hw 108 rfl))) (mvT hZ792 (tw hw 108 rfl)) (mvT hZ792 (tw hw 107 rfl)) (by decide) (StrChars.Road.lenW (W := 1) hZ792 (own_wLen hw) (kI := 4) (tw hw 10 rfl) Ex792 Fv792 Fc792 Vt792 (Or.inl ⟨rfl, rfl, rfl, ha792⟩) (ho792.1) (O2.ext (f791.keep K792 all0).2) P5 ho792.2 (by decide) (by decide)) q798a q798c (g := (mkF m 280 #[iv p1, iv p2, iv p3, iv p4, iv (3 : Int32), iv l1, iv l2, iv l3, iv y0, iv y1, iv y2, iv y3, iv y4, iv y5, rv x1, rv x2, rv x3, rv x792, iv (Int32.ofNat (((0 + 1 + (own_encs (own_sg l1 y0 y1)).length) + 1 + (own_encs (own_sg l2 y2 y3)).length) + 1 + (own_encs (own_sg l3 y4 y5)).length))] [(.ref x792), (.int (Int32.ofNat (((0 + 1 + (own_encs (own_sg l1 y0 y1)).length) + 1 + (own_encs (own_sg l2 y2 y3)).length) + 1 + (own_encs (own_sg l3 y4 y5)).length)))])) rfl (by rw [hml]; rfl) (Steps.refl _) (argsL := []) (rest := [(.int (Int32.ofNat (((0 + 1 + (own_encs (own_sg l1 y0 y1)).length) + 1 + (own_encs (own_sg l2 y2 y3)).length) + 1 + (own_encs (own_sg l3 y4 y5)).length)))]) (lenOf pd_1 rfl) rfl (by show 2 * 0 + _ ≤ _; exact Nat.le_of_eq rfl) (hb hby at_280) (fun _ _ => ⟨rfl, e797, (by decide : 33 + 0 ≤ _), (by decide : 329 + 0 ≤ _)⟩)
  dsimp only [Pt.U, Pt.locs, Pt.cells, Pt.slots] at X798 l798 y798 z798 st798 hQ798
  subst l798 y798 z798
  refine own_gos st798 ?_
  obtain ⟨rfl, rfl, e798⟩ := hQ798
  have Nq798 : Fr n0 ([] : List Loc) := Fr.nil n0
  have N798 := Fr.app N797 Nq798
  refine wn X798 hx hby 283 at_283 (teq (by rw [eOC] <;> first | rfl | (congr 1; simp only [List.length_append, List.length_cons, List.length_nil] <;> omega) : (Int32.ofNat (((0 + 1 + (own_encs (own_sg l1 y0 y1)).length) + 1 + (own_encs (own_sg l2 y2 y3)).length) + 1 + (own_encs (own_sg l3 y4 y5)).length)) = (Int32.ofNat ((((((([] : List Int32) ++ [(47 : Int32)]) ++ own_pcs (own_u8s (own_sg l1 y0 y1))) ++ [(47 : Int32)]) ++ own_pcs (own_u8s (own_sg l2 y2 y3))) ++ [(47 : Int32)]) ++ own_pcs (own_u8s (own_sg l3 y4 y5))).length))).2 ?_
  refine wc X798 hx hby 286 at_286 ?_
  refine wg X798 hx hby 287 291 at_287 ?_
  try dsimp only [mkF]
  refine own_finW (v := (some (.int (nar .boolean (1 : Int32))))) X798 hh hZ792 hS792 (by rw [e798]; exact (Nat.le_refl _)) (fun h => by rw [hrt] at h; cases h) hlk (fun fs hr => retN X798 hx (t := .boolean) hrt (by simp) (hb hby at_291) hr) (QQ := QQ0 n0) ?_ own_hEL e798 (C794) (by decide) (by decide)
  rw [e798]
  exact ⟨rfl, N798⟩

theorem pd_42 : parseMethodDescriptor "(ICC)Ljava/lang/String;" = some ⟨[.int, .char, .char], some (.object "java/lang/String")⟩ := by decide +kernel
theorem ef_rm_law (m : MethodId) (x0 : Int32) (x1 : Int32) (x2 : Int32) (x3 : Int32) : entryFrame m #[(.int x0), (.int x1), (.int x2), (.int x3)] maxLocals = mkF m 0 #[iv x0, iv x1, iv x2, iv x3, .unset, .unset, .unset, .unset, .unset, .unset, .unset, .unset, .unset, .unset, .unset, .unset, .unset, .unset, .unset] [] := by
   first | (simp [entryFrame, mkF, argsToLocals, Value.category, maxLocals]; done) | rfl
set_option maxRecDepth 65536 in
set_option maxHeartbeats 40000000 in
theorem rm_law (l : Launch) (Z : State) (a0 : Array Value) (hw : ∀ d ∈ tables_1, d.before a0 Z = true) (ws : List Jvm.Cond) (p1 p2 p3 p4 : Int32) (hA : Addr) (kh : ClassId) (u8 : Addr) (G1 : Int32) (G3 : Value) (h0 : Heap) (n0 : Nat) (O0 : Old Z n0 h0) (O2 : Sta Z Z.heap "java/lang/String" "COMPACT_STRINGS" "Z" (.int G1)) (P5 : ¬ (G1 = (0 : Int32))) (O4 : Sta Z Z.heap "jdk/internal/util/Preconditions" "SIOOBE_FORMATTER" "Ljava/util/function/BiFunction;" G3) (rG3 : G3.isRef = true) (OA : Sta Z Z.heap "java/lang/StringUTF16" "$assertionsDisabled" "Z" (.int (1 : Int32))) (OH : Sta Z Z.heap "java/lang/StringUTF16" "HI_BYTE_SHIFT" "I" (.int (0 : Int32))) (OL : Sta Z Z.heap "java/lang/StringUTF16" "LO_BYTE_SHIFT" "I" (.int (8 : Int32))) (OU : Sta Z Z.heap "sun/nio/cs/UTF_8" "INSTANCE" "Lsun/nio/cs/UTF_8;" (.ref u8)) (OS : Sta Z Z.heap "java/nio/charset/StandardCharsets" "UTF_8" "Ljava/nio/charset/Charset;" (.ref u8)) (OX : Sta Z Z.heap "com/example/cohortwise/cohortwise/http/Requests" "HEX" "[C" (.ref hA)) (V_h : Arv Z h0 hA kh .char (16 : Int32) (own_HEX.map Value.int) (.int (0 : Int32))) :
    MetFree l x (head1 (Jvm.Cond.code x code maxLocals ret :: ws) room_1) (fun aA U => aA = #[(.int p1), (.int p2), (.int p3), (.int p4)] ∧ Z.Warmed39 U.vm ∧ U.heap = h0 ∧ CHv Z own_EL U.vm h0) (fun _ _ _ _ _ => True) (fun _ U oO U' => ∃ rV rL, oO = .returned rV ∧ QQ0 n0 rV U'.heap rL ∧ CHr Z own_EL U.vm U.heap U'.vm U'.heap ∧ ReturnedEndW U oO U' rL 56 2624) := by
  refine MetFree.of_bodySF (plainFor_of_name pn_5) hisR ?_
  intro p e s m args below meth cC s₁ Bd hml0 hP hK
  obtain ⟨rfl, hZ, hh, hC0⟩ := hP
  have hx := Bd.exec
  have hby := Bd.bytes
  have hml : cC.maxLocals = maxLocals := hml0
  have hown : s.vm.findClass "com/example/cohortwise/cohortwise/http/RequestsPathPinLaw" = some m.cls := findClass_of_methodNamed Bd.named
  have hnm := (name_of_methodNamed Bd.named Bd.method).1
  have hrt := Bd.returns
  have hlk : meth.locks = false := Bd.notSynchronized
  have X0 : Stand p l e room_1 (s.setVm s.vm) m #[(.int p1), (.int p2), (.int p3), (.int p4)] below meth cC s₁ [] 0 0 := Stand.of_body Bd
  have e0 : s₁.heap = h0 := by rw [← hh, Bd.state]; rfl
  have N0 := Fr.nil n0
  have Z0 : n0 ≤ h0.size := O0.1 ▸ O0.2.1
  have hS0 : s.Since s.vm 0 := (State.WarmedH.refl s).since 0
  have C0 : CHr Z own_EL s.vm h0 s.vm h0 := CHr.refl hC0
  have own_wS := own_wSt hw
  have own_hEL := own_hELt hw
  show own_Go p e below (s₁.setTop (entryFrame m #[(.int p1), (.int p2), (.int p3), (.int p4)] maxLocals)) (fun oO U' => ∃ rV rL, oO = .returned rV ∧ QQ0 n0 rV U'.heap rL ∧ CHr Z own_EL s.vm s.heap U'.vm U'.heap ∧ ReturnedEndW s oO U' rL 56 2624)
  refine own_go (fun _ k => castTop (ef_rm_law m p1 p2 p3 p4) k) ?_
  refine wl X0 hx hby 0 at_0 rfl ?_
  refine wc X0 hx hby 1 at_1 ?_
  refine og (fun _ k => XS.iand X0.here hx rfl (hb hby at_2) rfl k) ?_
  refine wz X0 hx hby 3 #[iv p1, iv p2, iv p3, iv p4, iv (p1 &&& (3 : Int32)), .unset, .unset, .unset, .unset, .unset, .unset, .unset, .unset, .unset, .unset, .unset, .unset, .unset, .unset] at_3 rfl ?_
  try dsimp only [mkF]
  refine wl X0 hx hby 5 at_5 rfl ?_
  refine wc X0 hx hby 6 at_6 ?_
  refine og (fun _ k => XS.iushr X0.here hx rfl (hb hby at_7) rfl k) ?_
  refine wc X0 hx hby 8 at_8 ?_
  refine og (fun _ k => XS.iand X0.here hx rfl (hb hby at_9) rfl k) ?_
  try dsimp only [mkF]
  refine wc X0 hx hby 10 at_10 ?_
  refine og (fun _ k => Jvm.RoadKit.iremM (g := (mkF m 11 #[iv p1, iv p2, iv p3, iv p4, iv (p1 &&& (3 : Int32)), .unset, .unset, .unset, .unset, .unset, .unset, .unset, .unset, .unset, .unset, .unset, .unset, .unset, .unset] [(.int (3 : Int32)), (.int (((p1.toUInt32 >>> ((2 : Int32) &&& 31).toUInt32).toInt32) &&& (3 : Int32)))])) X0 hx rfl (hb hby at_11) rfl (by decide) k) ?_
  refine wz X0 hx hby 12 #[iv p1, iv p2, iv p3, iv p4, iv (p1 &&& (3 : Int32)), iv ((((p1.toUInt32 >>> ((2 : Int32) &&& 31).toUInt32).toInt32) &&& (3 : Int32)) % (3 : Int32)), .unset, .unset, .unset, .unset, .unset, .unset, .unset, .unset, .unset, .unset, .unset, .unset, .unset] at_12 rfl ?_
  refine wl X0 hx hby 14 at_14 rfl ?_
  refine wc X0 hx hby 15 at_15 ?_
  try dsimp only [mkF]
  refine og (fun _ k => XS.iushr X0.here hx rfl (hb hby at_16) rfl k) ?_
  refine wc X0 hx hby 17 at_17 ?_
  refine og (fun _ k => XS.iand X0.here hx rfl (hb hby at_18) rfl k) ?_
  refine wc X0 hx hby 19 at_19 ?_
  refine og (fun _ k => Jvm.RoadKit.iremM (g := (mkF m 20 #[iv p1, iv p2, iv p3, iv p4, iv (p1 &&& (3 : Int32)), iv ((((p1.toUInt32 >>> ((2 : Int32) &&& 31).toUInt32).toInt32) &&& (3 : Int32)) % (3 : Int32)), .unset, .unset, .unset, .unset, .unset, .unset, .unset, .unset, .unset, .unset, .unset, .unset, .unset] [(.int (3 : Int32)), (.int (((p1.toUInt32 >>> ((4 : Int32) &&& 31).toUInt32).toInt32) &&& (3 : Int32)))])) X0 hx rfl (hb hby at_20) rfl (by decide) k) ?_
  try dsimp only [mkF]
  refine wz X0 hx hby 21 #[iv p1, iv p2, iv p3, iv p4, iv (p1 &&& (3 : Int32)), iv ((((p1.toUInt32 >>> ((2 : Int32) &&& 31).toUInt32).toInt32) &&& (3 : Int32)) % (3 : Int32)), iv ((((p1.toUInt32 >>> ((4 : Int32) &&& 31).toUInt32).toInt32) &&& (3 : Int32)) % (3 : Int32)), .unset, .unset, .unset, .unset, .unset, .unset, .unset, .unset, .unset, .unset, .unset, .unset] at_21 rfl ?_
  refine wl X0 hx hby 23 at_23 rfl ?_
  refine wp X0 hx hby 24 at_24 ?_
  refine og (fun _ k => XS.iushr X0.here hx rfl (hb hby at_26) rfl k) ?_
  refine wc X0 hx hby 27 at_27 ?_
  try dsimp only [mkF]
  refine og (fun _ k => XS.iand X0.here hx rfl (hb hby at_28) rfl k) ?_
  refine wc X0 hx hby 29 at_29 ?_
  refine og (fun _ k => Jvm.RoadKit.iremM (g := (mkF m 30 #[iv p1, iv p2, iv p3, iv p4, iv (p1 &&& (3 : Int32)), iv ((((p1.toUInt32 >>> ((2 : Int32) &&& 31).toUInt32).toInt32) &&& (3 : Int32)) % (3 : Int32)), iv ((((p1.toUInt32 >>> ((4 : Int32) &&& 31).toUInt32).toInt32) &&& (3 : Int32)) % (3 : Int32)), .unset, .unset, .unset, .unset, .unset, .unset, .unset, .unset, .unset, .unset, .unset, .unset] [(.int (3 : Int32)), (.int (((p1.toUInt32 >>> ((6 : Int32) &&& 31).toUInt32).toInt32) &&& (3 : Int32)))])) X0 hx rfl (hb hby at_30) rfl (by decide) k) ?_
  refine wz X0 hx hby 31 #[iv p1, iv p2, iv p3, iv p4, iv (p1 &&& (3 : Int32)), iv ((((p1.toUInt32 >>> ((2 : Int32) &&& 31).toUInt32).toInt32) &&& (3 : Int32)) % (3 : Int32)), iv ((((p1.toUInt32 >>> ((4 : Int32) &&& 31).toUInt32).toInt32) &&& (3 : Int32)) % (3 : Int32)), iv ((((p1.toUInt32 >>> ((6 : Int32) &&& 31).toUInt32).toInt32) &&& (3 : Int32)) % (3 : Int32)), .unset, .unset, .unset, .unset, .unset, .unset, .unset, .unset, .unset, .unset, .unset] at_31 rfl ?_
  show own_Go p e below (s₁.setTop (mkF m 33 #[iv p1, iv p2, iv p3, iv p4, iv (p1 &&& (3 : Int32)), iv ((((p1.toUInt32 >>> ((2 : Int32) &&& 31).toUInt32).toInt32) &&& (3 : Int32)) % (3 : Int32)), iv ((((p1.toUInt32 >>> ((4 : Int32) &&& 31).toUInt32).toInt32) &&& (3 : Int32)) % (3 : Int32)), iv ((((p1.toUInt32 >>> ((6 : Int32) &&& 31).toUInt32).toInt32) &&& (3 : Int32)) % (3 : Int32)), .unset, .unset, .unset, .unset, .unset, .unset, .unset, .unset, .unset, .unset, .unset] [])) _
  obtain ⟨l1, h_l1⟩ : ∃ z, z = ((((p1.toUInt32 >>> ((2 : Int32) &&& 31).toUInt32).toInt32) &&& (3 : Int32)) % (3 : Int32)) := ⟨_, rfl⟩
  have hn_l1 : l1 = 0 ∨ l1 = 1 ∨ l1 = 2 := h_l1 ▸ own_m3 _
  rw [← h_l1]
  obtain ⟨l2, h_l2⟩ : ∃ z, z = ((((p1.toUInt32 >>> ((4 : Int32) &&& 31).toUInt32).toInt32) &&& (3 : Int32)) % (3 : Int32)) := ⟨_, rfl⟩
  have hn_l2 : l2 = 0 ∨ l2 = 1 ∨ l2 = 2 := h_l2 ▸ own_m3 _
  rw [← h_l2]
  obtain ⟨l3, h_l3⟩ : ∃ z, z = ((((p1.toUInt32 >>> ((6 : Int32) &&& 31).toUInt32).toInt32) &&& (3 : Int32)) % (3 : Int32)) := ⟨_, rfl⟩
  have hn_l3 : l3 = 0 ∨ l3 = 1 ∨ l3 = 2 := h_l3 ▸ own_m3 _
  rw [← h_l3]
  have hn3 := own_i3 p1
  obtain ⟨nn, h_nn⟩ : ∃ z, z = (p1 &&& (3 : Int32)) := ⟨_, rfl⟩
  rw [← h_nn] at hn3 ⊢
  clear h_nn
  refine wl X0 hx hby 33 at_33 rfl ?_
  try dsimp only [mkF]
  obtain ⟨v799, _, ⟨T799, L799, k799, n799⟩, -, X799, ⟨Lc799, hQ799, l799, y799, z799⟩, st799⟩ := Jvm.LawKit.callS X0 hx (y := (⟨"com/example/cohortwise/cohortwise/http/RequestsPathPinLaw", "ch", "(I)C"⟩ : MethodName)) hown (mvT hZ (tw hw 0 rfl)) (mvT hZ (tw hw 1 rfl)) (mvT hZ (tw hw 2 rfl)) (mvT hZ (tw hw 3 rfl)) (by decide) (backOf (W := 0) (rm_ch l Z a0 hw [] p2 h0 n0 O0 ) hZ (tw hw 3 rfl) (tw hw 2 rfl) (by decide) (by decide)) (g := (mkF m 34 #[iv p1, iv p2, iv p3, iv p4, iv nn, iv l1, iv l2, iv l3, .unset, .unset, .unset, .unset, .unset, .unset, .unset, .unset, .unset, .unset, .unset] [(.int p2)])) rfl (by rw [hml]; rfl) (argsL := [(.int p2)]) (rest := []) (lenOf pd_6 rfl) rfl (by show 2 * 0 + _ ≤ _; exact Nat.le_of_eq rfl) (hb hby at_34) (fun _ _ => ⟨rfl, e0, (by decide : 0 + 0 ≤ _), (by decide : 0 + 0 ≤ _)⟩)
  dsimp only [Pt.U, Pt.locs, Pt.cells, Pt.slots] at X799 l799 y799 z799 st799 hQ799
  subst l799 y799 z799
  refine own_go st799 ?_
  obtain ⟨ch799, rfl, Nq799, e799, hc799, hs799⟩ := hQ799
  have N799 := Fr.app N0 Nq799
  refine wz X799 hx hby 37 #[iv p1, iv p2, iv p3, iv p4, iv nn, iv l1, iv l2, iv l3, iv ch799, .unset, .unset, .unset, .unset, .unset, .unset, .unset, .unset, .unset, .unset] at_37 rfl ?_
  refine wl X799 hx hby 39 at_39 rfl ?_
  refine wp X799 hx hby 40 at_40 ?_
  refine og (fun _ k => XS.iushr X799.here hx rfl (hb hby at_42) rfl k) ?_
  try dsimp only [mkF]
  obtain ⟨v800, _, ⟨T800, L800, k800, n800⟩, -, X800, ⟨Lc800, hQ800, l800, y800, z800⟩, st800⟩ := Jvm.LawKit.callS X799 hx (y := (⟨"com/example/cohortwise/cohortwise/http/RequestsPathPinLaw", "ch", "(I)C"⟩ : MethodName)) hown (mvT hZ (tw hw 0 rfl)) (mvT hZ (tw hw 1 rfl)) (mvT hZ (tw hw 2 rfl)) (mvT hZ (tw hw 3 rfl)) (by decide) (backOf (W := 0) (rm_ch l Z a0 hw [] ((p2.toUInt32 >>> ((16 : Int32) &&& 31).toUInt32).toInt32) h0 n0 O0 ) hZ (tw hw 3 rfl) (tw hw 2 rfl) (by decide) (by decide)) (g := (mkF m 43 #[iv p1, iv p2, iv p3, iv p4, iv nn, iv l1, iv l2, iv l3, iv ch799, .unset, .unset, .unset, .unset, .unset, .unset, .unset, .unset, .unset, .unset] [(.int ((p2.toUInt32 >>> ((16 : Int32) &&& 31).toUInt32).toInt32))])) rfl (by rw [hml]; rfl) (argsL := [(.int ((p2.toUInt32 >>> ((16 : Int32) &&& 31).toUInt32).toInt32))]) (rest := []) (lenOf pd_6 rfl) rfl (by show 2 * 0 + _ ≤ _; exact Nat.le_of_eq rfl) (hb hby at_43) (fun _ _ => ⟨rfl, e799, (by decide : 0 + 0 ≤ _), (by decide : 0 + 0 ≤ _)⟩)
  dsimp only [Pt.U, Pt.locs, Pt.cells, Pt.slots] at X800 l800 y800 z800 st800 hQ800
  subst l800 y800 z800
  refine own_go st800 ?_
  obtain ⟨ch800, rfl, Nq800, e800, hc800, hs800⟩ := hQ800
  have N800 := Fr.app N799 Nq800
  refine wz X800 hx hby 46 #[iv p1, iv p2, iv p3, iv p4, iv nn, iv l1, iv l2, iv l3, iv ch799, iv ch800, .unset, .unset, .unset, .unset, .unset, .unset, .unset, .unset, .unset] at_46 rfl ?_
  refine wl X800 hx hby 48 at_48 rfl ?_
  obtain ⟨v801, _, ⟨T801, L801, k801, n801⟩, -, X801, ⟨Lc801, hQ801, l801, y801, z801⟩, st801⟩ := Jvm.LawKit.callS X800 hx (y := (⟨"com/example/cohortwise/cohortwise/http/RequestsPathPinLaw", "ch", "(I)C"⟩ : MethodName)) hown (mvT hZ (tw hw 0 rfl)) (mvT hZ (tw hw 1 rfl)) (mvT hZ (tw hw 2 rfl)) (mvT hZ (tw hw 3 rfl)) (by decide) (backOf (W := 0) (rm_ch l Z a0 hw [] p3 h0 n0 O0 ) hZ (tw hw 3 rfl) (tw hw 2 rfl) (by decide) (by decide)) (g := (mkF m 49 #[iv p1, iv p2, iv p3, iv p4, iv nn, iv l1, iv l2, iv l3, iv ch799, iv ch800, .unset, .unset, .unset, .unset, .unset, .unset, .unset, .unset, .unset] [(.int p3)])) rfl (by rw [hml]; rfl) (argsL := [(.int p3)]) (rest := []) (lenOf pd_6 rfl) rfl (by show 2 * 0 + _ ≤ _; exact Nat.le_of_eq rfl) (hb hby at_49) (fun _ _ => ⟨rfl, e800, (by decide : 0 + 0 ≤ _), (by decide : 0 + 0 ≤ _)⟩)
  dsimp only [Pt.U, Pt.locs, Pt.cells, Pt.slots] at X801 l801 y801 z801 st801 hQ801
  subst l801 y801 z801
  refine own_go st801 ?_
  obtain ⟨ch801, rfl, Nq801, e801, hc801, hs801⟩ := hQ801
  have N801 := Fr.app N800 Nq801
  refine wz X801 hx hby 52 #[iv p1, iv p2, iv p3, iv p4, iv nn, iv l1, iv l2, iv l3, iv ch799, iv ch800, iv ch801, .unset, .unset, .unset, .unset, .unset, .unset, .unset, .unset] at_52 rfl ?_
  try dsimp only [mkF]
  refine wl X801 hx hby 54 at_54 rfl ?_
  refine wp X801 hx hby 55 at_55 ?_
  refine og (fun _ k => XS.iushr X801.here hx rfl (hb hby at_57) rfl k) ?_
  obtain ⟨v802, _, ⟨T802, L802, k802, n802⟩, -, X802, ⟨Lc802, hQ802, l802, y802, z802⟩, st802⟩ := Jvm.LawKit.callS X801 hx (y := (⟨"com/example/cohortwise/cohortwise/http/RequestsPathPinLaw", "ch", "(I)C"⟩ : MethodName)) hown (mvT hZ (tw hw 0 rfl)) (mvT hZ (tw hw 1 rfl)) (mvT hZ (tw hw 2 rfl)) (mvT hZ (tw hw 3 rfl)) (by decide) (backOf (W := 0) (rm_ch l Z a0 hw [] ((p3.toUInt32 >>> ((16 : Int32) &&& 31).toUInt32).toInt32) h0 n0 O0 ) hZ (tw hw 3 rfl) (tw hw 2 rfl) (by decide) (by decide)) (g := (mkF m 58 #[iv p1, iv p2, iv p3, iv p4, iv nn, iv l1, iv l2, iv l3, iv ch799, iv ch800, iv ch801, .unset, .unset, .unset, .unset, .unset, .unset, .unset, .unset] [(.int ((p3.toUInt32 >>> ((16 : Int32) &&& 31).toUInt32).toInt32))])) rfl (by rw [hml]; rfl) (argsL := [(.int ((p3.toUInt32 >>> ((16 : Int32) &&& 31).toUInt32).toInt32))]) (rest := []) (lenOf pd_6 rfl) rfl (by show 2 * 0 + _ ≤ _; exact Nat.le_of_eq rfl) (hb hby at_58) (fun _ _ => ⟨rfl, e801, (by decide : 0 + 0 ≤ _), (by decide : 0 + 0 ≤ _)⟩)
  dsimp only [Pt.U, Pt.locs, Pt.cells, Pt.slots] at X802 l802 y802 z802 st802 hQ802
  subst l802 y802 z802
  refine own_go st802 ?_
  obtain ⟨ch802, rfl, Nq802, e802, hc802, hs802⟩ := hQ802
  have N802 := Fr.app N801 Nq802
  refine wz X802 hx hby 61 #[iv p1, iv p2, iv p3, iv p4, iv nn, iv l1, iv l2, iv l3, iv ch799, iv ch800, iv ch801, iv ch802, .unset, .unset, .unset, .unset, .unset, .unset, .unset] at_61 rfl ?_
  try dsimp only [mkF]
  refine wl X802 hx hby 63 at_63 rfl ?_
  obtain ⟨v803, _, ⟨T803, L803, k803, n803⟩, -, X803, ⟨Lc803, hQ803, l803, y803, z803⟩, st803⟩ := Jvm.LawKit.callS X802 hx (y := (⟨"com/example/cohortwise/cohortwise/http/RequestsPathPinLaw", "ch", "(I)C"⟩ : MethodName)) hown (mvT hZ (tw hw 0 rfl)) (mvT hZ (tw hw 1 rfl)) (mvT hZ (tw hw 2 rfl)) (mvT hZ (tw hw 3 rfl)) (by decide) (backOf (W := 0) (rm_ch l Z a0 hw [] p4 h0 n0 O0 ) hZ (tw hw 3 rfl) (tw hw 2 rfl) (by decide) (by decide)) (g := (mkF m 64 #[iv p1, iv p2, iv p3, iv p4, iv nn, iv l1, iv l2, iv l3, iv ch799, iv ch800, iv ch801, iv ch802, .unset, .unset, .unset, .unset, .unset, .unset, .unset] [(.int p4)])) rfl (by rw [hml]; rfl) (argsL := [(.int p4)]) (rest := []) (lenOf pd_6 rfl) rfl (by show 2 * 0 + _ ≤ _; exact Nat.le_of_eq rfl) (hb hby at_64) (fun _ _ => ⟨rfl, e802, (by decide : 0 + 0 ≤ _), (by decide : 0 + 0 ≤ _)⟩)
  dsimp only [Pt.U, Pt.locs, Pt.cells, Pt.slots] at X803 l803 y803 z803 st803 hQ803
  subst l803 y803 z803
  refine own_go st803 ?_
  obtain ⟨ch803, rfl, Nq803, e803, hc803, hs803⟩ := hQ803
  have N803 := Fr.app N802 Nq803
  refine wz X803 hx hby 67 #[iv p1, iv p2, iv p3, iv p4, iv nn, iv l1, iv l2, iv l3, iv ch799, iv ch800, iv ch801, iv ch802, iv ch803, .unset, .unset, .unset, .unset, .unset, .unset] at_67 rfl ?_
  refine wl X803 hx hby 69 at_69 rfl ?_
  refine wp X803 hx hby 70 at_70 ?_
  try dsimp only [mkF]
  refine og (fun _ k => XS.iushr X803.here hx rfl (hb hby at_72) rfl k) ?_
  obtain ⟨v804, _, ⟨T804, L804, k804, n804⟩, -, X804, ⟨Lc804, hQ804, l804, y804, z804⟩, st804⟩ := Jvm.LawKit.callS X803 hx (y := (⟨"com/example/cohortwise/cohortwise/http/RequestsPathPinLaw", "ch", "(I)C"⟩ : MethodName)) hown (mvT hZ (tw hw 0 rfl)) (mvT hZ (tw hw 1 rfl)) (mvT hZ (tw hw 2 rfl)) (mvT hZ (tw hw 3 rfl)) (by decide) (backOf (W := 0) (rm_ch l Z a0 hw [] ((p4.toUInt32 >>> ((16 : Int32) &&& 31).toUInt32).toInt32) h0 n0 O0 ) hZ (tw hw 3 rfl) (tw hw 2 rfl) (by decide) (by decide)) (g := (mkF m 73 #[iv p1, iv p2, iv p3, iv p4, iv nn, iv l1, iv l2, iv l3, iv ch799, iv ch800, iv ch801, iv ch802, iv ch803, .unset, .unset, .unset, .unset, .unset, .unset] [(.int ((p4.toUInt32 >>> ((16 : Int32) &&& 31).toUInt32).toInt32))])) rfl (by rw [hml]; rfl) (argsL := [(.int ((p4.toUInt32 >>> ((16 : Int32) &&& 31).toUInt32).toInt32))]) (rest := []) (lenOf pd_6 rfl) rfl (by show 2 * 0 + _ ≤ _; exact Nat.le_of_eq rfl) (hb hby at_73) (fun _ _ => ⟨rfl, e803, (by decide : 0 + 0 ≤ _), (by decide : 0 + 0 ≤ _)⟩)
  dsimp only [Pt.U, Pt.locs, Pt.cells, Pt.slots] at X804 l804 y804 z804 st804 hQ804
  subst l804 y804 z804
  refine own_go st804 ?_
  obtain ⟨ch804, rfl, Nq804, e804, hc804, hs804⟩ := hQ804
  have N804 := Fr.app N803 Nq804
  refine wz X804 hx hby 76 #[iv p1, iv p2, iv p3, iv p4, iv nn, iv l1, iv l2, iv l3, iv ch799, iv ch800, iv ch801, iv ch802, iv ch803, iv ch804, .unset, .unset, .unset, .unset, .unset] at_76 rfl ?_
  refine wm X804 hx hby 78 at_78 rfl ?_
  refine wm X804 hx hby 80 at_80 rfl ?_
  try dsimp only [mkF]
  refine wm X804 hx hby 82 at_82 rfl ?_
  obtain ⟨v805, _, ⟨T805, L805, k805, n805⟩, -, X805, hS805, hg805, ⟨Lc805, hQ805, l805, y805, z805, A805⟩, st805⟩ := callSS X804 hx (y := (⟨"com/example/cohortwise/cohortwise/http/RequestsPathPinLaw", "seg", "(ICC)Ljava/lang/String;"⟩ : MethodName)) hown (mvT hZ (tw hw 6 rfl)) (mvT hZ (tw hw 7 rfl)) (mvT hZ (tw hw 2 rfl)) (mvT hZ (tw hw 8 rfl)) (by decide) (backOfSH (W := 0) (rm_seg l Z a0 hw [] l1 ch799 ch800 G1 G3 h0 n0 O0 O2 P5 O4 rG3 OA OH OL hn_l1 hc799 hc800) hZ (tw hw 8 rfl) (tw hw 2 rfl) (by decide) (by decide) own_hEL C0.1) (g := (mkF m 84 #[iv p1, iv p2, iv p3, iv p4, iv nn, iv l1, iv l2, iv l3, iv ch799, iv ch800, iv ch801, iv ch802, iv ch803, iv ch804, .unset, .unset, .unset, .unset, .unset] [(.int ch800), (.int ch799), (.int l1)])) rfl (by rw [hml]; rfl) (argsL := [(.int l1), (.int ch799), (.int ch800)]) (rest := []) (lenOf pd_42 rfl) rfl (by show 2 * 0 + _ ≤ _; exact Nat.le_of_eq rfl) (hb hby at_84) (fun _ _ => ⟨rfl, e804, (by decide : 0 + 6 ≤ _), (by decide : 0 + 12 ≤ _)⟩)
  dsimp only [Pt.U, Pt.locs, Pt.cells, Pt.slots] at X805 l805 y805 z805 st805 hQ805 hS805 hg805 A805
  subst l805 y805 z805
  refine own_gos st805 ?_
  obtain ⟨X805, hS805, hZ805, hown805⟩ := rebS hS0 (k0 := _) (n1 := T804.heap.size) (by rw [e804]; exact (Nat.zero_le _)) X805 hS805 hg805 hZ hown
  obtain ⟨x805, t805, kt805, cd805, N2805, vs805, rfl, Nq805, K805, xg805, Ex805, Fv805, Fc805, Vt805, hC805, Xt805⟩ := hQ805
  have C806 := C0.trans A805
  have N805 := Fr.app N804 Nq805
  refine wu X805 hx hby 87 #[iv p1, iv p2, iv p3, iv p4, iv nn, iv l1, iv l2, iv l3, iv ch799, iv ch800, iv ch801, iv ch802, iv ch803, iv ch804, rv x805, .unset, .unset, .unset, .unset] at_87 rfl rfl ?_
  refine wm X805 hx hby 89 at_89 rfl ?_
  refine wm X805 hx hby 91 at_91 rfl ?_
  try dsimp only [mkF]
  refine wm X805 hx hby 93 at_93 rfl ?_
  obtain ⟨v807, _, ⟨T807, L807, k807, n807⟩, -, X807, hS807, hg807, ⟨Lc807, hQ807, l807, y807, z807, A807⟩, st807⟩ := callSS X805 hx (y := (⟨"com/example/cohortwise/cohortwise/http/RequestsPathPinLaw", "seg", "(ICC)Ljava/lang/String;"⟩ : MethodName)) hown805 (mvT hZ805 (tw hw 6 rfl)) (mvT hZ805 (tw hw 7 rfl)) (mvT hZ805 (tw hw 2 rfl)) (mvT hZ805 (tw hw 8 rfl)) (by decide) (backOfSH (W := 0) (rm_seg l Z a0 hw [] l2 ch801 ch802 G1 G3 T805.heap n0 (O0.keep K805 all0) O2 P5 O4 rG3 OA OH OL hn_l2 hc801 hc802) hZ805 (tw hw 8 rfl) (tw hw 2 rfl) (by decide) (by decide) own_hEL C806.1) (g := (mkF m 95 #[iv p1, iv p2, iv p3, iv p4, iv nn, iv l1, iv l2, iv l3, iv ch799, iv ch800, iv ch801, iv ch802, iv ch803, iv ch804, rv x805, .unset, .unset, .unset, .unset] [(.int ch802), (.int ch801), (.int l2)])) rfl (by rw [hml]; rfl) (argsL := [(.int l2), (.int ch801), (.int ch802)]) (rest := []) (lenOf pd_42 rfl) rfl (by show 2 * 0 + _ ≤ _; exact Nat.le_of_eq rfl) (hb hby at_95) (fun _ _ => ⟨rfl, (rfl : T805.heap = T805.heap), (by decide : 6 + 6 ≤ _), (by decide : 12 + 12 ≤ _)⟩)
  dsimp only [Pt.U, Pt.locs, Pt.cells, Pt.slots] at X807 l807 y807 z807 st807 hQ807 hS807 hg807 A807
  subst l807 y807 z807
  refine own_gos st807 ?_
  obtain ⟨X807, hS807, hZ807, hown807⟩ := rebS hS805 (k0 := _) (n1 := T805.heap.size) (by rw [(rfl : T805.heap = T805.heap)]; exact (Nat.le_refl _)) X807 hS807 hg807 hZ805 hown805
  obtain ⟨x807, t807, kt807, cd807, N2807, vs807, rfl, Nq807, K807, xg807, Ex807, Fv807, Fc807, Vt807, hC807, Xt807⟩ := hQ807
  have C808 := C806.trans A807
  have N807 := Fr.app N805 Nq807
  refine wu X807 hx hby 98 #[iv p1, iv p2, iv p3, iv p4, iv nn, iv l1, iv l2, iv l3, iv ch799, iv ch800, iv ch801, iv ch802, iv ch803, iv ch804, rv x805, rv x807, .unset, .unset, .unset] at_98 rfl rfl ?_
  refine wm X807 hx hby 100 at_100 rfl ?_
  refine wm X807 hx hby 102 at_102 rfl ?_
  try dsimp only [mkF]
  refine wm X807 hx hby 104 at_104 rfl ?_
  have f809 := ((O0.keep K805 all0).keep K807 all0)
  obtain ⟨v810, _, ⟨T810, L810, k810, n810⟩, -, X810, hS810, hg810, ⟨Lc810, hQ810, l810, y810, z810, A810⟩, st810⟩ := callSS X807 hx (y := (⟨"com/example/cohortwise/cohortwise/http/RequestsPathPinLaw", "seg", "(ICC)Ljava/lang/String;"⟩ : MethodName)) hown807 (mvT hZ807 (tw hw 6 rfl)) (mvT hZ807 (tw hw 7 rfl)) (mvT hZ807 (tw hw 2 rfl)) (mvT hZ807 (tw hw 8 rfl)) (by decide) (backOfSH (W := 0) (rm_seg l Z a0 hw [] l3 ch803 ch804 G1 G3 T807.heap n0 f809 O2 P5 O4 rG3 OA OH OL hn_l3 hc803 hc804) hZ807 (tw hw 8 rfl) (tw hw 2 rfl) (by decide) (by decide) own_hEL C808.1) (g := (mkF m 106 #[iv p1, iv p2, iv p3, iv p4, iv nn, iv l1, iv l2, iv l3, iv ch799, iv ch800, iv ch801, iv ch802, iv ch803, iv ch804, rv x805, rv x807, .unset, .unset, .unset] [(.int ch804), (.int ch803), (.int l3)])) rfl (by rw [hml]; rfl) (argsL := [(.int l3), (.int ch803), (.int ch804)]) (rest := []) (lenOf pd_42 rfl) rfl (by show 2 * 0 + _ ≤ _; exact Nat.le_of_eq rfl) (hb hby at_106) (fun _ _ => ⟨rfl, (rfl : T807.heap = T807.heap), (by decide : 12 + 6 ≤ _), (by decide : 24 + 12 ≤ _)⟩)
  dsimp only [Pt.U, Pt.locs, Pt.cells, Pt.slots] at X810 l810 y810 z810 st810 hQ810 hS810 hg810 A810
  subst l810 y810 z810
  refine own_gos st810 ?_
  obtain ⟨X810, hS810, hZ810, hown810⟩ := rebS hS807 (k0 := _) (n1 := T807.heap.size) (by rw [(rfl : T807.heap = T807.heap)]; exact (Nat.le_refl _)) X810 hS810 hg810 hZ807 hown807
  obtain ⟨x810, t810, kt810, cd810, N2810, vs810, rfl, Nq810, K810, xg810, Ex810, Fv810, Fc810, Vt810, hC810, Xt810⟩ := hQ810
  have C811 := C808.trans A810
  have N810 := Fr.app N807 Nq810
  refine wu X810 hx hby 109 #[iv p1, iv p2, iv p3, iv p4, iv nn, iv l1, iv l2, iv l3, iv ch799, iv ch800, iv ch801, iv ch802, iv ch803, iv ch804, rv x805, rv x807, rv x810, .unset, .unset] at_109 rfl rfl ?_
  have f812 := ((Ex805.keep K807).keep K810)
  have f813 := ((Fv805.keep K807 nin0).keep K810 nin0)
  have f814 := ((Fc805.keep K807 nin0).keep K810 nin0)
  have f815 := ((Vt805.keep K807 nin0).keep K810 nin0)
  have f816 := ((Xt805.keep K807).keep K810)
  have f817 := (((V_h.keep K805 nin0).keep K807 nin0).keep K810 nin0)
  rcases hn3 with q | q | q | q
  · subst q
    show own_Go p e below (T810.setTop (mkF m 111 #[iv p1, iv p2, iv p3, iv p4, iv (0 : Int32), iv l1, iv l2, iv l3, iv ch799, iv ch800, iv ch801, iv ch802, iv ch803, iv ch804, rv x805, rv x807, rv x810, .unset, .unset] [])) _
    have z818 := (Nat.le_trans (Nat.le_trans K805.1 K807.1) K810.1)
    exact own_fst0 l Z a0 hw p1 p2 p3 p4 l1 l2 l3 ch799 ch800 ch801 ch802 ch803 ch804 x805 t805 kt805 cd805 N2805 vs805 x807 t807 kt807 cd807 N2807 vs807 x810 t810 kt810 cd810 N2810 vs810 hA kh u8 G1 G3 h0 n0 X810 hx hby hml hown810 hZ810 hrt hlk T810.heap (rfl : T810.heap = T810.heap) N810 (Nat.le_trans Z0 z818) (f809.keep K810 all0) hh hS810 (Nat.le_refl _) C811 f812 f813 f814 f815 f816 (Ex807.keep K810) (Fv807.keep K810 nin0) (Fc807.keep K810 nin0) (Vt807.keep K810 nin0) (Xt807.keep K810) Ex810 Fv810 Fc810 Vt810 Xt810 f817 O2 P5 O4 rG3 OA OH OL OU OS OX hC805 hC807 hC810 hc799 hc800 hc801 hc802 hc803 hc804 hs799 hs800 hs801 hs802 hs803 hs804 hn_l1 hn_l2 hn_l3
  · subst q
    show own_Go p e below (T810.setTop (mkF m 111 #[iv p1, iv p2, iv p3, iv p4, iv (1 : Int32), iv l1, iv l2, iv l3, iv ch799, iv ch800, iv ch801, iv ch802, iv ch803, iv ch804, rv x805, rv x807, rv x810, .unset, .unset] [])) _
    have z819 := (Nat.le_trans (Nat.le_trans K805.1 K807.1) K810.1)
    exact own_fst1 l Z a0 hw p1 p2 p3 p4 l1 l2 l3 ch799 ch800 ch801 ch802 ch803 ch804 x805 t805 kt805 cd805 N2805 vs805 x807 t807 kt807 cd807 N2807 vs807 x810 t810 kt810 cd810 N2810 vs810 hA kh u8 G1 G3 h0 n0 X810 hx hby hml hown810 hZ810 hrt hlk T810.heap (rfl : T810.heap = T810.heap) N810 (Nat.le_trans Z0 z819) (f809.keep K810 all0) hh hS810 (Nat.le_refl _) C811 f812 f813 f814 f815 f816 (Ex807.keep K810) (Fv807.keep K810 nin0) (Fc807.keep K810 nin0) (Vt807.keep K810 nin0) (Xt807.keep K810) Ex810 Fv810 Fc810 Vt810 Xt810 f817 O2 P5 O4 rG3 OA OH OL OU OS OX hC805 hC807 hC810 hc799 hc800 hc801 hc802 hc803 hc804 hs799 hs800 hs801 hs802 hs803 hs804 hn_l1 hn_l2 hn_l3
  · subst q
    show own_Go p e below (T810.setTop (mkF m 111 #[iv p1, iv p2, iv p3, iv p4, iv (2 : Int32), iv l1, iv l2, iv l3, iv ch799, iv ch800, iv ch801, iv ch802, iv ch803, iv ch804, rv x805, rv x807, rv x810, .unset, .unset] [])) _
    have z820 := (Nat.le_trans (Nat.le_trans K805.1 K807.1) K810.1)
    exact own_fst2 l Z a0 hw p1 p2 p3 p4 l1 l2 l3 ch799 ch800 ch801 ch802 ch803 ch804 x805 t805 kt805 cd805 N2805 vs805 x807 t807 kt807 cd807 N2807 vs807 x810 t810 kt810 cd810 N2810 vs810 hA kh u8 G1 G3 h0 n0 X810 hx hby hml hown810 hZ810 hrt hlk T810.heap (rfl : T810.heap = T810.heap) N810 (Nat.le_trans Z0 z820) (f809.keep K810 all0) hh hS810 (Nat.le_refl _) C811 f812 f813 f814 f815 f816 (Ex807.keep K810) (Fv807.keep K810 nin0) (Fc807.keep K810 nin0) (Vt807.keep K810 nin0) (Xt807.keep K810) Ex810 Fv810 Fc810 Vt810 Xt810 f817 O2 P5 O4 rG3 OA OH OL OU OS OX hC805 hC807 hC810 hc799 hc800 hc801 hc802 hc803 hc804 hs799 hs800 hs801 hs802 hs803 hs804 hn_l1 hn_l2 hn_l3
  · subst q
    show own_Go p e below (T810.setTop (mkF m 111 #[iv p1, iv p2, iv p3, iv p4, iv (3 : Int32), iv l1, iv l2, iv l3, iv ch799, iv ch800, iv ch801, iv ch802, iv ch803, iv ch804, rv x805, rv x807, rv x810, .unset, .unset] [])) _
    have z821 := (Nat.le_trans (Nat.le_trans K805.1 K807.1) K810.1)
    exact own_fst3 l Z a0 hw p1 p2 p3 p4 l1 l2 l3 ch799 ch800 ch801 ch802 ch803 ch804 x805 t805 kt805 cd805 N2805 vs805 x807 t807 kt807 cd807 N2807 vs807 x810 t810 kt810 cd810 N2810 vs810 hA kh u8 G1 G3 h0 n0 X810 hx hby hml hown810 hZ810 hrt hlk T810.heap (rfl : T810.heap = T810.heap) N810 (Nat.le_trans Z0 z821) (f809.keep K810 all0) hh hS810 (Nat.le_refl _) C811 f812 f813 f814 f815 f816 (Ex807.keep K810) (Fv807.keep K810 nin0) (Fc807.keep K810 nin0) (Vt807.keep K810 nin0) (Xt807.keep K810) Ex810 Fv810 Fc810 Vt810 Xt810 f817 O2 P5 O4 rG3 OA OH OL OU OS OX hC805 hC807 hC810 hc799 hc800 hc801 hc802 hc803 hc804 hs799 hs800 hs801 hs802 hs803 hs804 hn_l1 hn_l2 hn_l3

theorem own_fit {s : State} (h : heapFits s = true) : Fit s := fun {x c} hx {i} hi => by
  simp only [heapFits, Array.all_eq_true] at h
  obtain ⟨hlt, rfl⟩ := Array.getElem?_eq_some_iff.mp hx
  have h2 := h x hlt
  simp only [cellFits, List.all_eq_true, List.mem_range] at h2
  have h3 := h2 i hi
  rw [Array.getElem?_eq_getElem hi] at h3
  exact h3
theorem own_hxe {args : Array Value} {s : State} {t : Jvm.Term} {a : Addr} {cl : Cell} {G : Jvm.Cond} {d : Int64} {j : Nat} {z0 : Int32} (et : ∀ idx, t.eval args s none idx s = some (.ref a)) (ha : s.arrayAt? a = some cl) (hn : ¬ j.toInt32 < 0) (hj : j.toInt32.toNatClampNeg = j) (hG : G.value args s none s [j] = some false)
    (h : (Jvm.Cond.or G (.eq (.op1 .i2l (.elem t (.index 0))) (.op2 .ladd (.op1 .i2l (.index 0)) (.long d)))).value args s none s [j] = some true) (hz : (j.toInt32.toInt64 + d).toInt32 = z0) : cl.slots[j]? = some (.int z0) := by
  rw [Cond.or_of_right hG] at h
  have e2 : (Jvm.Term.op2 .ladd (.op1 .i2l (.index 0)) (.long d)).eval args s none [j] s = some (.long (j.toInt32.toInt64 + d)) := rfl
  have e1 := eqv_l e2 h
  obtain ⟨x, ex, hx⟩ := op1_v e1
  rw [elem_f (et [j]) (Term.index_eval j) ha hn, hj] at ex
  cases x with
  | int z =>
    have hx : z.toInt64 = j.toInt32.toInt64 + d := Value.long.inj (Option.some.inj hx)
    rw [ex, ← hz, ← hx]; simp
  | _ => cases hx
theorem own_lsm {args : Array Value} {s : State} {t : Jvm.Term} {a : Addr} {cl : Cell} {v : Value} (ev : t.eval args s none [] s = some (.ref a)) (ha : s.arrayAt? a = some cl) (el : (Jvm.Term.length t).eval args s none [] s = some v) : cl.slots.size < 2 ^ 31 := by
  by_cases p : cl.slots.size < 2 ^ 31
  · exact p
  · simp [Term.eval, ev, ha, p] at el
theorem own_hexv {s : State} {args : Array Value} (hF : heapFits s = true) (h : narrow_1.value args s none s [] = some true) : ∃ (a : Addr) (k : ClassId), (Jvm.Term.static "com/example/cohortwise/cohortwise/http/Requests" "HEX" "[C").eval args s none [] s = some (.ref a) ∧ Arv s s.heap a k .char (16 : Int32) (own_HEX.map Value.int) (.int (0 : Int32)) := by
  obtain ⟨h1, h⟩ := and_e h
  obtain ⟨h2, h⟩ := and_e h
  obtain ⟨h3, h4⟩ := and_e h
  obtain ⟨a, ev⟩ := arr_v h1
  obtain ⟨cl, A⟩ := Arr.start ev h1
  have ha := A.fin (Vm.Alike.refl _)
  have et : ∀ idx, (Jvm.Term.static "com/example/cohortwise/cohortwise/http/Requests" "HEX" "[C").eval args s none idx s = some (.ref a) := fun _ => ev
  have el := eqv_i (Term.int_eval 16) h2
  have q : cl.slots.size < 2 ^ 31 := own_lsm ev ha el
  obtain ⟨a2, c2, z1, z2, z3⟩ := Term.length_spec el
  cases (show some (Value.ref a) = some (Value.ref a2) from ev.symm.trans z1)
  cases Option.some.inj (ha.symm.trans z2)
  have es : cl.slots.size.toInt32 = 16 := (Value.int.inj z3).symm
  have S : cl.slots.size = 16 := by
    have z := congrArg Int32.toInt es
    rw [len_toInt q] at z
    have z4 : (16 : Int32).toInt = 16 := by decide
    omega
  have l3 : ∀ j, j < 16 → _ := fun j (hj : j < 16) => Cond.all_elim ev ha h3 j (by omega)
  have l4 : ∀ j, j < 16 → _ := fun j (hj : j < 16) => Cond.all_elim ev ha h4 j (by omega)
  have G3 : ∀ j : Nat, (Jvm.Cond.le (Jvm.Term.int 10) (Jvm.Term.index 0)).value args s none s [j] = some (decide ((10 : Int32) ≤ j.toInt32)) := fun j => Cond.le_ints (Term.int_eval 10) (Term.index_eval j)
  have G4 : ∀ j : Nat, (Jvm.Cond.lt (Jvm.Term.index 0) (Jvm.Term.int 10)).value args s none s [j] = some (decide (j.toInt32 < (10 : Int32))) := fun j => Cond.lt_ints (Term.index_eval j) (Term.int_eval 10)
  refine ⟨a, cl.cls, ev, Arv.start (own_fit hF) A q es (by decide) rfl ⟨own_hxe et ha (by decide) (by decide) ((G3 0).trans (by decide)) (l3 0 (by decide)) (by decide), own_hxe et ha (by decide) (by decide) ((G3 1).trans (by decide)) (l3 1 (by decide)) (by decide), own_hxe et ha (by decide) (by decide) ((G3 2).trans (by decide)) (l3 2 (by decide)) (by decide), own_hxe et ha (by decide) (by decide) ((G3 3).trans (by decide)) (l3 3 (by decide)) (by decide), own_hxe et ha (by decide) (by decide) ((G3 4).trans (by decide)) (l3 4 (by decide)) (by decide), own_hxe et ha (by decide) (by decide) ((G3 5).trans (by decide)) (l3 5 (by decide)) (by decide), own_hxe et ha (by decide) (by decide) ((G3 6).trans (by decide)) (l3 6 (by decide)) (by decide), own_hxe et ha (by decide) (by decide) ((G3 7).trans (by decide)) (l3 7 (by decide)) (by decide), own_hxe et ha (by decide) (by decide) ((G3 8).trans (by decide)) (l3 8 (by decide)) (by decide), own_hxe et ha (by decide) (by decide) ((G3 9).trans (by decide)) (l3 9 (by decide)) (by decide), own_hxe et ha (by decide) (by decide) ((G4 10).trans (by decide)) (l4 10 (by decide)) (by decide), own_hxe et ha (by decide) (by decide) ((G4 11).trans (by decide)) (l4 11 (by decide)) (by decide), own_hxe et ha (by decide) (by decide) ((G4 12).trans (by decide)) (l4 12 (by decide)) (by decide), own_hxe et ha (by decide) (by decide) ((G4 13).trans (by decide)) (l4 13 (by decide)) (by decide), own_hxe et ha (by decide) (by decide) ((G4 14).trans (by decide)) (l4 14 (by decide)) (by decide), own_hxe et ha (by decide) (by decide) ((G4 15).trans (by decide)) (l4 15 (by decide)) (by decide), trivial⟩⟩
theorem own_eqr {args : Array Value} {s : State} {X F : Jvm.Term} {x y : Addr} (h1 : X.eval args s none [] s = some (.ref x)) (h2 : F.eval args s none [] s = some (.ref y)) (h : (Jvm.Cond.eq X F).value args s none s [] = some true) : x = y := by simpa [Cond.value, h1, h2] using h
set_option maxRecDepth 65536 in
set_option maxHeartbeats 40000000 in
theorem comes_1 {Post : Tables → Env → Array Value → State → Outcome → State → Prop} (hpost : ∀ tb e args s v u, (limb_1_1.after args s (.returned v) u = true ∧ limb_1_2.after args s (.returned v) u = true ∧ True) → FramedW s (.returned v) u (Jvm.fieldLocs frame_1_writes args s ++ Jvm.arrayLocs frame_1_arrays args s ++ Jvm.staticLocs frame_1_statics s) 56 2624 → Post tb e args s (.returned v) u) :
    ArmFor flags0 classFile x code maxLocals ret World_1 tables_1 room_1 Calls_1 rest_1 Pre_1 Post := by
  intro l hfl _ _ p e ha hc hk s m args below hf hA hF happ hP
  obtain ⟨hcalls, hrest, hpre⟩ := hP
  obtain ⟨-, -, -, hnamed, -, -, -, hat⟩ := (Spec.applies_iff hf).mp happ
  obtain ⟨hg, hn⟩ := and_e (Cond.before_iff.mp (show (Jvm.Cond.and given_1 narrow_1).before args s = true from hpre))
  obtain ⟨hcount, hg0⟩ := and_e hg
  obtain ⟨ha0, hg1⟩ := and_e hg0
  obtain ⟨ha1, hg2⟩ := and_e hg1
  obtain ⟨ha2, hg3⟩ := and_e hg2
  obtain ⟨w0, w1, w2, w3, rfl⟩ : ∃ w0 w1 w2 w3 : Value, args = #[w0, w1, w2, w3] := by
    have hs : args.size = 4 := by simpa [Cond.value, given_1] using hcount
    obtain ⟨L⟩ := args
    match L, hs with
    | [w0, w1, w2, w3], _ => exact ⟨w0, w1, w2, w3, rfl⟩
  have hw := fun d (hd : d ∈ tables_1) => atoms_spec (ws := Jvm.Cond.code x code maxLocals ret :: tables_1) hat d (List.mem_cons_of_mem _ hd)
  obtain ⟨hsets, hown0⟩ := atoms_of _ (rest_1_c_eq ▸ (show rest_1_c.before _ s = true from hrest))
  obtain ⟨i0, e0⟩ := is_v ha0
  obtain rfl : w0 = (.int i0) := Option.some.inj e0
  obtain ⟨i1, e1⟩ := is_v ha1
  obtain rfl : w1 = (.int i1) := Option.some.inj e1
  obtain ⟨i2, e2⟩ := is_v ha2
  obtain rfl : w2 = (.int i2) := Option.some.inj e2
  obtain ⟨i3, e3⟩ := is_v hg3
  obtain rfl : w3 = (.int i3) := Option.some.inj e3
  obtain ⟨i_G1, e_G1⟩ := is_v (Cond.before_iff.mp (hsets _ (List.mem_of_getElem? (i := 1) rfl)))
  have S_G1 : Sta s s.heap "java/lang/String" "COMPACT_STRINGS" "Z" (.int i_G1) := Sta.start e_G1 (Or.inl (hsets _ (List.mem_of_getElem? (i := 0) rfl)))
  have c_G1 : ¬ (i_G1 = (0 : Int32)) := gotF (Cond.eq_ints e_G1 (Term.int_eval (0))) (not_v (Cond.before_iff.mp (hsets _ (List.mem_of_getElem? (i := 2) rfl))))
  obtain ⟨v_G3, e_G3, r_G3⟩ := isR_v (Cond.before_iff.mp (hsets _ (List.mem_of_getElem? (i := 8) rfl)))
  have S_G3 : Sta s s.heap "jdk/internal/util/Preconditions" "SIOOBE_FORMATTER" "Ljava/util/function/BiFunction;" v_G3 := Sta.start e_G3 (Or.inl (hsets _ (List.mem_of_getElem? (i := 7) rfl)))
  have S_OA : Sta s s.heap "java/lang/StringUTF16" "$assertionsDisabled" "Z" (.int (1 : Int32)) := Sta.start (Jvm.RoadKit.eqv_i (Term.int_eval (1)) (Cond.before_iff.mp (hsets _ (List.mem_of_getElem? (i := 21) rfl)))) (Or.inl (hsets _ (List.mem_of_getElem? (i := 20) rfl)))
  have S_OH : Sta s s.heap "java/lang/StringUTF16" "HI_BYTE_SHIFT" "I" (.int (0 : Int32)) := Sta.start (Jvm.RoadKit.eqv_i (Term.int_eval (0)) (Cond.before_iff.mp (hsets _ (List.mem_of_getElem? (i := 24) rfl)))) (Or.inl (hsets _ (List.mem_of_getElem? (i := 23) rfl)))
  have S_OL : Sta s s.heap "java/lang/StringUTF16" "LO_BYTE_SHIFT" "I" (.int (8 : Int32)) := Sta.start (Jvm.RoadKit.eqv_i (Term.int_eval (8)) (Cond.before_iff.mp (hsets _ (List.mem_of_getElem? (i := 27) rfl)))) (Or.inl (hsets _ (List.mem_of_getElem? (i := 26) rfl)))
  have hCH : CHv s own_EL s.vm s.heap := CHv.start (own_hELt hw) (fun p hp => hcalls.1 p hp) (hsets _ (List.mem_of_getElem? (i := 2) rfl)) (hw _ (List.mem_of_getElem? (i := 24) rfl)) (hw _ (List.mem_of_getElem? (i := 10) rfl))
  obtain ⟨u8, e_u8⟩ := exa_v (Cond.before_iff.mp (hsets _ (List.mem_of_getElem? (i := 17) rfl)))
  have OU : Sta s s.heap "sun/nio/cs/UTF_8" "INSTANCE" "Lsun/nio/cs/UTF_8;" (.ref u8) := Sta.start e_u8 (Or.inl (hsets _ (List.mem_of_getElem? (i := 12) rfl)))
  obtain ⟨u9, e_u9⟩ := exa_v (Cond.before_iff.mp (hsets _ (List.mem_of_getElem? (i := 14) rfl)))
  have e_89 : u9 = u8 := own_eqr e_u9 e_u8 (Cond.before_iff.mp (hsets _ (List.mem_of_getElem? (i := 13) rfl)))
  subst e_89
  have OS : Sta s s.heap "java/nio/charset/StandardCharsets" "UTF_8" "Ljava/nio/charset/Charset;" (.ref u9) := Sta.start e_u9 (Or.inl (hsets _ (List.mem_of_getElem? (i := 10) rfl)))
  obtain ⟨a_h, k_h, e_h, V_h⟩ := own_hexv hF hn
  have OX : Sta s s.heap "com/example/cohortwise/cohortwise/http/Requests" "HEX" "[C" (.ref a_h) := Sta.start e_h (Or.inr ⟨(tw hw 34 rfl), (tw hw 209 rfl)⟩)
  obtain ⟨n, o, h1, h2, h3, _, L, rfl, ⟨rfl, N⟩, hCH, hq⟩ := rm_law l s _ hw tables_1 i0 i1 i2 i3 a_h k_h u9 i_G1 v_G3 s.heap s.heap.size (Old.start s) S_G1 c_G1 S_G3 r_G3 S_OA S_OH S_OL OU OS OX V_h p e ha hc hk s m _ below hf ((Spec.applies_iff_loose hf).mp happ).1 ⟨rfl, State.Warmed39.refl s, rfl, hCH⟩ trivial
  refine ⟨n, _, h1, h2, h3, hpost _ _ _ _ _ _ ⟨Cond.after_iff.mpr rfl, Cond.after_iff.mpr (eq_i res_at (Term.int_eval (1)) rfl), trivial⟩ ⟨hq.1, hq.2.1, hq.2.2.1, (hq.2.2.2.sift fun y hy => Or.inr (N y hy)).mono (by decide) (by decide)⟩⟩
theorem main_1_1 : Claimed_1_1 := comes_1 fun _ _ _ _ _ _ h hF => ⟨h.1, hF⟩
theorem main_1_2 : Claimed_1_2 := comes_1 fun _ _ _ _ _ _ h hF => ⟨h.2.1, hF⟩
end Jvm.Pilot.@@N@@
namespace Jvm.Pilot.@@N@@
open Jvm Jvm.ClassFile Sem Op Lib Jvm.Free Jvm.Stand Jvm.Pilot.@@N@@.Jvm.D
/-! MADE BY PROGRAM (witnessworld.py) out of the Statement's table words and the real class files: 34 classes; the members and pool entries that the words name. The judged class is class 1, her method 1. -/
namespace start1
open Jvm.ClassFile
def u (s : String) : CpInfo := .utf8 (stringToUtf16 s)
/-- a pool by its gaps: so many unusable entries, then the entry; so many at the end -/
def gap : Nat → List CpInfo → List CpInfo
  | 0, r => r
  | n + 1, r => .unusable :: gap n r
def poolList (es : List (Nat × CpInfo)) (last : Nat) : List CpInfo := es.foldr (fun e r => gap e.1 (e.2 :: r)) (gap last [])
def pool (es : List (Nat × CpInfo)) (last : Nat) : Array CpInfo := ⟨poolList es last⟩
def fileOf (pool : Array CpInfo) (this : Nat) (attrs : Array Attribute := #[]) (ms : Array MethodInfo := #[]) (fl : Nat := 33) (sup : Nat := 0) (ifs : Array Nat := #[]) (fds : Array FieldInfo := #[]) : ClassFile where
  minorVersion := 0
  majorVersion := 65
  constantPool := pool
  accessFlags := fl
  thisClass := this
  superClass := sup
  interfaces := ifs
  fields := fds
  methods := ms
  attributes := attrs
def plain (name : String) (sup : Option ClassId) : Class where
  name := name
  kind := .ordinary
  loader := none
  accessFlags := 33
  super := sup
  interfaces := #[]
  cf := none
  fields := #[]
  methods := #[]
  instanceTypes := #[]
  staticTypes := #[]
  resolved := #[]
  callSites := []
  init := .initialized
  statics := none
  mirror := none

def pool0 : Array CpInfo := pool [(5, u "<init>"), (0, u "()V"), (1, .class_ 10), (1, u "java/lang/Object"), (85, u "clone"), (0, u "()Ljava/lang/Object;")] 26

def k0c0 : Code := { maxStack := 0, maxLocals := 1, code := object_method_1_code, exceptionTable := #[], attributes := #[] }
def k0m0 : Method := { name := "<init>", desc := "()V", sig := { parameters := [], returnType := none }, accessFlags := 1, code := some k0c0 }
def k0m1 : Method := { name := "clone", desc := "()Ljava/lang/Object;", sig := { parameters := [], returnType := some (.object "java/lang/Object") }, accessFlags := 260, code := none }
/-- java/lang/Object -/
def k0 : Class := { plain "java/lang/Object" none with
  accessFlags := 33
  interfaces := #[]
  cf := some (fileOf pool0 8 #[] #[{ accessFlags := 1, nameIndex := 5, descriptorIndex := 6, attributes := #[] }, { accessFlags := 260, nameIndex := 96, descriptorIndex := 97, attributes := #[] }] 33 0 #[] #[])
  fields := #[]
  methods := #[k0m0, k0m1]
  instanceTypes := #[]
  staticTypes := #[]
  resolved := Array.replicate 124 none
  statics := none }

def pool1 : Array CpInfo := pool [(2, .class_ 4), (1, u "java/lang/Object"), (0, u "<init>"), (0, u "()V"), (0, .methodref 8 9), (0, .class_ 10), (0, .nameAndType 11 12), (0, u "com/example/cohortwise/cohortwise/http/RequestsPathPinLaw"), (0, u "ch"), (0, u "(I)C"), (0, .methodref 8 14), (0, .nameAndType 15 16), (0, u "seg"), (0, u "(ICC)Ljava/lang/String;"), (0, .class_ 18), (0, u "java/lang/String"), (0, .methodref 20 21), (0, .class_ 22), (0, .nameAndType 23 24), (0, u "com/example/cohortwise/cohortwise/http/Requests"), (0, u "path"), (0, u "([Ljava/lang/String;)Ljava/lang/String;"), (0, .methodref 8 26), (0, .nameAndType 27 28), (0, u "segChk"), (0, u "(Ljava/lang/String;IICC)I"), (0, .methodref 17 30), (0, .nameAndType 31 32), (0, u "length"), (0, u "()I"), (0, .integer 65535), (0, .integer 55296), (0, .integer 57343), (0, .methodref 17 37), (0, .nameAndType 5 38), (0, u "([C)V"), (0, .methodref 17 40), (0, .nameAndType 41 42), (0, u "valueOf"), (0, u "(C)Ljava/lang/String;"), (0, .methodref 17 44), (0, .nameAndType 45 12), (0, u "charAt"), (0, .methodref 8 47), (0, .nameAndType 48 12), (0, u "hex"), (0, .methodref 8 50), (0, .nameAndType 51 52), (0, u "unreserved"), (0, u "(I)Z"), (0, .methodref 8 54), (0, .nameAndType 55 56), (0, u "esc"), (0, u "(Ljava/lang/String;II)I"), (0, .methodref 8 58), (0, .nameAndType 59 56), (0, u "one"), (2, u "law"), (0, u "(IIII)Z")] 3

def k1m0 : Method := { name := "<init>", desc := "()V", sig := { parameters := [], returnType := none }, accessFlags := 2, code := none }
def k1c1 : Code := { maxStack := 5, maxLocals := 19, code := code, exceptionTable := #[], attributes := #[] }
def k1m1 : Method := { name := "law", desc := "(IIII)Z", sig := { parameters := [.int, .int, .int, .int], returnType := some .boolean }, accessFlags := 9, code := some k1c1 }
def k1c2 : Code := { maxStack := 2, maxLocals := 2, code := method_3_code, exceptionTable := #[], attributes := #[] }
def k1m2 : Method := { name := "ch", desc := "(I)C", sig := { parameters := [.int], returnType := some .char }, accessFlags := 10, code := some k1c2 }
def k1c3 : Code := { maxStack := 6, maxLocals := 3, code := method_4_code, exceptionTable := #[], attributes := #[] }
def k1m3 : Method := { name := "seg", desc := "(ICC)Ljava/lang/String;", sig := { parameters := [.int, .char, .char], returnType := some (.object "java/lang/String") }, accessFlags := 10, code := some k1c3 }
def k1c4 : Code := { maxStack := 2, maxLocals := 1, code := method_5_code, exceptionTable := #[], attributes := #[] }
def k1m4 : Method := { name := "hex", desc := "(I)C", sig := { parameters := [.int], returnType := some .char }, accessFlags := 10, code := some k1c4 }
def k1c5 : Code := { maxStack := 2, maxLocals := 1, code := method_6_code, exceptionTable := #[], attributes := #[] }
def k1m5 : Method := { name := "unreserved", desc := "(I)Z", sig := { parameters := [.int], returnType := some .boolean }, accessFlags := 10, code := some k1c5 }
def k1c6 : Code := { maxStack := 3, maxLocals := 3, code := method_7_code, exceptionTable := #[], attributes := #[] }
def k1m6 : Method := { name := "esc", desc := "(Ljava/lang/String;II)I", sig := { parameters := [(.object "java/lang/String"), .int, .int], returnType := some .int }, accessFlags := 10, code := some k1c6 }
def k1c7 : Code := { maxStack := 7, maxLocals := 3, code := method_8_code, exceptionTable := #[], attributes := #[] }
def k1m7 : Method := { name := "one", desc := "(Ljava/lang/String;II)I", sig := { parameters := [(.object "java/lang/String"), .int, .int], returnType := some .int }, accessFlags := 10, code := some k1c7 }
def k1c8 : Code := { maxStack := 3, maxLocals := 6, code := method_9_code, exceptionTable := #[], attributes := #[] }
def k1m8 : Method := { name := "segChk", desc := "(Ljava/lang/String;IICC)I", sig := { parameters := [(.object "java/lang/String"), .int, .int, .char, .char], returnType := some .int }, accessFlags := 10, code := some k1c8 }
/-- com/example/cohortwise/cohortwise/http/RequestsPathPinLaw -/
def k1 : Class := { plain "com/example/cohortwise/cohortwise/http/RequestsPathPinLaw" (some 0) with
  accessFlags := 49
  interfaces := #[]
  cf := some (fileOf pool1 8 #[] #[{ accessFlags := 2, nameIndex := 5, descriptorIndex := 6, attributes := #[] }, { accessFlags := 9, nameIndex := 62, descriptorIndex := 63, attributes := #[] }, { accessFlags := 10, nameIndex := 11, descriptorIndex := 12, attributes := #[] }, { accessFlags := 10, nameIndex := 15, descriptorIndex := 16, attributes := #[] }, { accessFlags := 10, nameIndex := 48, descriptorIndex := 12, attributes := #[] }, { accessFlags := 10, nameIndex := 51, descriptorIndex := 52, attributes := #[] }, { accessFlags := 10, nameIndex := 55, descriptorIndex := 56, attributes := #[] }, { accessFlags := 10, nameIndex := 59, descriptorIndex := 56, attributes := #[] }, { accessFlags := 10, nameIndex := 27, descriptorIndex := 28, attributes := #[] }] 49 2 #[] #[])
  fields := #[]
  methods := #[k1m0, k1m1, k1m2, k1m3, k1m4, k1m5, k1m6, k1m7, k1m8]
  instanceTypes := #[]
  staticTypes := #[]
  resolved := Array.replicate 67 none
  statics := none }

def pool2 : Array CpInfo := pool [(1, .class_ 2), (0, u "java/io/Serializable"), (0, .class_ 4), (0, u "java/lang/Object")] 2

/-- java/io/Serializable -/
def k2 : Class := { plain "java/io/Serializable" (some 0) with
  accessFlags := 1537
  interfaces := #[]
  cf := some (fileOf pool2 1 #[] #[] 1537 3 #[] #[])
  fields := #[]
  methods := #[]
  instanceTypes := #[]
  staticTypes := #[]
  resolved := Array.replicate 7 none
  statics := none }

def pool3 : Array CpInfo := pool [(1, .class_ 2), (0, u "java/lang/Comparable"), (0, .class_ 4), (0, u "java/lang/Object")] 7

/-- java/lang/Comparable -/
def k3 : Class := { plain "java/lang/Comparable" (some 0) with
  accessFlags := 1537
  interfaces := #[]
  cf := some (fileOf pool3 1 #[] #[] 1537 3 #[] #[])
  fields := #[]
  methods := #[]
  instanceTypes := #[]
  staticTypes := #[]
  resolved := Array.replicate 12 none
  statics := none }

def pool4 : Array CpInfo := pool [(2, .class_ 4), (1, u "java/lang/CharSequence"), (42, .class_ 48), (0, u "java/lang/CharSequence$1CodePointIterator"), (10, .class_ 60), (0, u "java/lang/CharSequence$1CharIterator"), (5, .class_ 67), (0, u "java/lang/Object")] 63

/-- java/lang/CharSequence -/
def k4 : Class := { plain "java/lang/CharSequence" (some 0) with
  accessFlags := 1537
  interfaces := #[]
  cf := some (fileOf pool4 2 #[.nestMembers #[47, 59]] #[] 1537 66 #[] #[])
  fields := #[]
  methods := #[]
  instanceTypes := #[]
  staticTypes := #[]
  resolved := Array.replicate 131 none
  statics := none }

def pool5 : Array CpInfo := pool [(1, .class_ 2), (0, u "java/lang/constant/Constable"), (0, .class_ 4), (0, u "java/lang/Object")] 6

/-- java/lang/constant/Constable -/
def k5 : Class := { plain "java/lang/constant/Constable" (some 0) with
  accessFlags := 1537
  interfaces := #[]
  cf := some (fileOf pool5 1 #[] #[] 1537 3 #[] #[])
  fields := #[]
  methods := #[]
  instanceTypes := #[]
  staticTypes := #[]
  resolved := Array.replicate 11 none
  statics := none }

def pool6 : Array CpInfo := pool [(1, .class_ 2), (0, u "java/lang/constant/ConstantDesc"), (0, .class_ 4), (0, u "java/lang/Object")] 32

/-- java/lang/constant/ConstantDesc -/
def k6 : Class := { plain "java/lang/constant/ConstantDesc" (some 0) with
  accessFlags := 1537
  interfaces := #[]
  cf := some (fileOf pool6 1 #[] #[] 1537 3 #[] #[])
  fields := #[]
  methods := #[]
  instanceTypes := #[]
  staticTypes := #[]
  resolved := Array.replicate 37 none
  statics := none }

def pool7 : Array CpInfo := pool [(1, .methodref 2 3), (0, .class_ 4), (0, .nameAndType 5 6), (0, u "java/lang/Object"), (0, u "<init>"), (0, u "()V"), (0, .string 8), (0, u ""), (0, .fieldref 10 11), (0, .class_ 12), (0, .nameAndType 13 14), (0, u "java/lang/String"), (0, u "value"), (0, u "[B"), (0, .fieldref 10 16), (0, .nameAndType 17 18), (0, u "coder"), (0, u "B"), (2, u "hash"), (0, u "I"), (2, u "hashIsZero"), (0, u "Z"), (0, .methodref 10 28), (0, .nameAndType 5 29), (0, u "([CIILjava/lang/Void;)V"), (8, .fieldref 10 39), (0, .nameAndType 40 26), (0, u "COMPACT_STRINGS"), (1, .class_ 44), (1, u "java/lang/StringUTF16"), (0, u "compress"), (1, .methodref 42 48), (0, .nameAndType 49 50), (0, u "coderFromArrayLen"), (0, u "([BI)B"), (2, u "toBytes"), (0, .methodref 55 56), (0, .class_ 57), (0, .nameAndType 58 59), (0, u "java/util/Arrays"), (0, u "copyOfRange"), (0, u "([BII)[B"), (0, .methodref 42 61), (0, .nameAndType 62 63), (0, u "newBytesFor"), (0, u "(I)[B"), (22, .fieldref 87 88), (0, .class_ 89), (0, .nameAndType 90 91), (0, u "sun/nio/cs/UTF_8"), (0, u "INSTANCE"), (0, u "Lsun/nio/cs/UTF_8;"), (1, .class_ 95), (1, u "java/lang/StringCoding"), (6, .methodref 55 103), (0, .nameAndType 104 105), (0, u "copyOf"), (0, u "([BI)[B"), (1, .class_ 109), (1, u "java/lang/StringLatin1"), (18, .methodref 93 129), (0, .nameAndType 130 131), (0, u "hasNegatives"), (0, u "([BII)Z"), (10, u "()Z"), (34, .methodref 42 178), (0, .nameAndType 45 179), (0, u "([CII)[B"), (29, .methodref 10 210), (0, .nameAndType 5 211), (0, u "([BB)V"), (40, .methodref 10 253), (0, .nameAndType 254 255), (0, u "encodeUTF8"), (0, u "(B[BZ)[B"), (23, .methodref 280 281), (0, .class_ 14), (0, .nameAndType 282 283), (0, u "clone"), (0, u "()Ljava/lang/Object;"), (33, u "encode"), (16, u "()I"), (0, .methodref 10 336), (0, .nameAndType 17 337), (0, u "()B"), (2, u "()[B"), (19, .methodref 42 361), (0, .nameAndType 362 363), (0, u "getChar"), (0, u "([BI)C"), (1, .class_ 367), (1, u "java/lang/Character"), (1, u "(C)Z"), (21, u "(II)V"), (12, .methodref 365 405), (0, .nameAndType 406 369), (0, u "isSurrogate"), (20, u "(I)C"), (45, .methodref 10 474), (0, .nameAndType 475 476), (0, u "encodeUTF8_UTF16"), (0, u "([BZ)[B"), (12, .methodref 10 490), (0, .nameAndType 5 491), (0, u "(Ljava/lang/AbstractStringBuilder;Ljava/lang/Void;)V"), (0, .methodref 10 493), (0, .nameAndType 494 142), (0, u "isLatin1"), (0, .methodref 107 496), (0, .nameAndType 497 363), (0, u "charAt"), (3, u "checkIndex"), (3, .methodref 10 506), (0, .nameAndType 507 334), (0, u "length"), (24, u "getBytes"), (2, .methodref 10 536), (0, .nameAndType 317 537), (0, u "(Ljava/nio/charset/Charset;B[B)[B"), (11, .methodref 550 506), (0, .class_ 551), (0, u "java/lang/AbstractStringBuilder"), (0, .methodref 550 553), (0, .nameAndType 554 340), (0, u "getValue"), (20, .class_ 576), (0, u "java/lang/CharSequence"), (22, u "CASE_INSENSITIVE_ORDER"), (0, u "Ljava/util/Comparator;"), (32, .methodref 10 634), (0, .nameAndType 635 636), (0, u "indexOf"), (0, u "(II)I"), (0, .methodref 107 638), (0, .nameAndType 635 639), (0, u "([BIII)I"), (125, u "(I)I"), (16, u "valueOf"), (0, u "(C)Ljava/lang/String;"), (226, u "([C)V"), (4, .methodref 107 1016), (0, .nameAndType 1017 369), (0, u "canEncode"), (0, .methodref 107 1019), (0, .nameAndType 53 1020), (0, u "(C)[B"), (0, .methodref 42 1019), (25, .methodref 550 493), (5, .fieldref 1054 1055), (0, .class_ 1056), (0, .nameAndType 1057 1058), (0, u "jdk/internal/util/Preconditions"), (0, u "SIOOBE_FORMATTER"), (0, u "Ljava/util/function/BiFunction;"), (0, .methodref 1054 1060), (0, .nameAndType 501 1061), (0, u "(IILjava/util/function/BiFunction;)I"), (39, u "serialPersistentFields"), (0, u "[Ljava/io/ObjectStreamField;"), (0, .class_ 1104), (0, u "java/lang/String$CaseInsensitiveComparator"), (1, .class_ 1107), (0, u "java/io/Serializable"), (0, .class_ 1109), (0, u "java/lang/Comparable"), (0, .class_ 1111), (0, u "java/lang/constant/Constable"), (0, .class_ 1113), (0, u "java/lang/constant/ConstantDesc"), (2, u "serialVersionUID"), (0, u "J"), (3, u "REPL"), (0, u "C"), (2, u "LATIN1"), (1, u "UTF16"), (105, u "(Ljava/lang/StringBuilder;)V"), (11, u "(Ljava/nio/charset/Charset;)[B")] 205

def k7m0 : Method := { name := "<init>", desc := "()V", sig := { parameters := [], returnType := none }, accessFlags := 1, code := none }
def k7c1 : Code := { maxStack := 5, maxLocals := 2, code := jdk_42_method_3_code, exceptionTable := #[], attributes := #[] }
def k7m1 : Method := { name := "<init>", desc := "([C)V", sig := { parameters := [(.array .char)], returnType := none }, accessFlags := 1, code := some k7c1 }
def k7c2 : Code := { maxStack := 4, maxLocals := 3, code := jdk_42_method_18_code, exceptionTable := #[], attributes := #[] }
def k7m2 : Method := { name := "encode", desc := "(Ljava/nio/charset/Charset;B[B)[B", sig := { parameters := [(.object "java/nio/charset/Charset"), .byte, (.array .byte)], returnType := some (.array .byte) }, accessFlags := 10, code := some k7c2 }
def k7c3 : Code := { maxStack := 5, maxLocals := 9, code := jdk_42_method_46_code, exceptionTable := #[], attributes := #[] }
def k7m3 : Method := { name := "encodeUTF8", desc := "(B[BZ)[B", sig := { parameters := [.byte, (.array .byte), .boolean], returnType := some (.array .byte) }, accessFlags := 10, code := some k7c3 }
def k7c4 : Code := { maxStack := 5, maxLocals := 9, code := jdk_42_method_47_code, exceptionTable := #[], attributes := #[] }
def k7m4 : Method := { name := "encodeUTF8_UTF16", desc := "([BZ)[B", sig := { parameters := [(.array .byte), .boolean], returnType := some (.array .byte) }, accessFlags := 10, code := some k7c4 }
def k7c5 : Code := { maxStack := 3, maxLocals := 2, code := jdk_42_method_53_code, exceptionTable := #[], attributes := #[] }
def k7m5 : Method := { name := "<init>", desc := "(Ljava/lang/StringBuilder;)V", sig := { parameters := [(.object "java/lang/StringBuilder")], returnType := none }, accessFlags := 1, code := some k7c5 }
def k7c6 : Code := { maxStack := 2, maxLocals := 1, code := jdk_42_method_54_code, exceptionTable := #[], attributes := #[] }
def k7m6 : Method := { name := "length", desc := "()I", sig := { parameters := [], returnType := some .int }, accessFlags := 1, code := some k7c6 }
def k7c7 : Code := { maxStack := 2, maxLocals := 2, code := jdk_42_method_56_code, exceptionTable := #[], attributes := #[] }
def k7m7 : Method := { name := "charAt", desc := "(I)C", sig := { parameters := [.int], returnType := some .char }, accessFlags := 1, code := some k7c7 }
def k7c8 : Code := { maxStack := 3, maxLocals := 2, code := jdk_42_method_64_code, exceptionTable := #[], attributes := #[] }
def k7m8 : Method := { name := "getBytes", desc := "(Ljava/nio/charset/Charset;)[B", sig := { parameters := [(.object "java/nio/charset/Charset")], returnType := some (.array .byte) }, accessFlags := 1, code := some k7c8 }
def k7c9 : Code := { maxStack := 3, maxLocals := 2, code := jdk_42_method_79_code, exceptionTable := #[], attributes := #[] }
def k7m9 : Method := { name := "indexOf", desc := "(I)I", sig := { parameters := [.int], returnType := some .int }, accessFlags := 1, code := some k7c9 }
def k7c10 : Code := { maxStack := 4, maxLocals := 3, code := jdk_42_method_80_code, exceptionTable := #[], attributes := #[] }
def k7m10 : Method := { name := "indexOf", desc := "(II)I", sig := { parameters := [.int, .int], returnType := some .int }, accessFlags := 1, code := some k7c10 }
def k7c11 : Code := { maxStack := 4, maxLocals := 1, code := jdk_42_method_139_code, exceptionTable := #[], attributes := #[] }
def k7m11 : Method := { name := "valueOf", desc := "(C)Ljava/lang/String;", sig := { parameters := [.char], returnType := some (.object "java/lang/String") }, accessFlags := 9, code := some k7c11 }
def k7c12 : Code := { maxStack := 4, maxLocals := 6, code := jdk_42_method_149_code, exceptionTable := #[], attributes := #[] }
def k7m12 : Method := { name := "<init>", desc := "([CIILjava/lang/Void;)V", sig := { parameters := [(.array .char), .int, .int, (.object "java/lang/Void")], returnType := none }, accessFlags := 2, code := some k7c12 }
def k7c13 : Code := { maxStack := 5, maxLocals := 5, code := jdk_42_method_150_code, exceptionTable := #[], attributes := #[] }
def k7m13 : Method := { name := "<init>", desc := "(Ljava/lang/AbstractStringBuilder;Ljava/lang/Void;)V", sig := { parameters := [(.object "java/lang/AbstractStringBuilder"), (.object "java/lang/Void")], returnType := none }, accessFlags := 0, code := some k7c13 }
def k7c14 : Code := { maxStack := 2, maxLocals := 3, code := jdk_42_method_151_code, exceptionTable := #[], attributes := #[] }
def k7m14 : Method := { name := "<init>", desc := "([BB)V", sig := { parameters := [(.array .byte), .byte], returnType := none }, accessFlags := 0, code := some k7c14 }
def k7c15 : Code := { maxStack := 1, maxLocals := 1, code := jdk_42_method_152_code, exceptionTable := #[], attributes := #[] }
def k7m15 : Method := { name := "coder", desc := "()B", sig := { parameters := [], returnType := some .byte }, accessFlags := 0, code := some k7c15 }
def k7c16 : Code := { maxStack := 1, maxLocals := 1, code := jdk_42_method_154_code, exceptionTable := #[], attributes := #[] }
def k7m16 : Method := { name := "isLatin1", desc := "()Z", sig := { parameters := [], returnType := some .boolean }, accessFlags := 0, code := some k7c16 }
def k7c17 : Code := { maxStack := 3, maxLocals := 2, code := jdk_42_method_155_code, exceptionTable := #[], attributes := #[] }
def k7m17 : Method := { name := "checkIndex", desc := "(II)V", sig := { parameters := [.int, .int], returnType := none }, accessFlags := 8, code := some k7c17 }
/-- java/lang/String -/
def k7 : Class := { plain "java/lang/String" (some 0) with
  accessFlags := 49
  interfaces := #[2, 3, 4, 5, 6]
  cf := some (fileOf pool7 10 #[.nestMembers #[1103]] #[{ accessFlags := 1, nameIndex := 5, descriptorIndex := 6, attributes := #[] }, { accessFlags := 1, nameIndex := 5, descriptorIndex := 1010, attributes := #[] }, { accessFlags := 10, nameIndex := 317, descriptorIndex := 537, attributes := #[] }, { accessFlags := 10, nameIndex := 254, descriptorIndex := 255, attributes := #[] }, { accessFlags := 10, nameIndex := 475, descriptorIndex := 476, attributes := #[] }, { accessFlags := 1, nameIndex := 5, descriptorIndex := 1233, attributes := #[] }, { accessFlags := 1, nameIndex := 507, descriptorIndex := 334, attributes := #[] }, { accessFlags := 1, nameIndex := 497, descriptorIndex := 427, attributes := #[] }, { accessFlags := 1, nameIndex := 532, descriptorIndex := 1245, attributes := #[] }, { accessFlags := 1, nameIndex := 635, descriptorIndex := 765, attributes := #[] }, { accessFlags := 1, nameIndex := 635, descriptorIndex := 636, attributes := #[] }, { accessFlags := 9, nameIndex := 782, descriptorIndex := 783, attributes := #[] }, { accessFlags := 2, nameIndex := 5, descriptorIndex := 29, attributes := #[] }, { accessFlags := 0, nameIndex := 5, descriptorIndex := 491, attributes := #[] }, { accessFlags := 0, nameIndex := 5, descriptorIndex := 211, attributes := #[] }, { accessFlags := 0, nameIndex := 17, descriptorIndex := 337, attributes := #[] }, { accessFlags := 0, nameIndex := 494, descriptorIndex := 142, attributes := #[] }, { accessFlags := 8, nameIndex := 501, descriptorIndex := 391, attributes := #[] }] 49 2 #[1106, 1108, 575, 1110, 1112] #[{ accessFlags := 18, nameIndex := 13, descriptorIndex := 14, attributes := #[] }, { accessFlags := 18, nameIndex := 17, descriptorIndex := 18, attributes := #[] }, { accessFlags := 2, nameIndex := 21, descriptorIndex := 22, attributes := #[] }, { accessFlags := 2, nameIndex := 25, descriptorIndex := 26, attributes := #[] }, { accessFlags := 26, nameIndex := 1116, descriptorIndex := 1117, attributes := #[] }, { accessFlags := 24, nameIndex := 40, descriptorIndex := 26, attributes := #[] }, { accessFlags := 26, nameIndex := 1101, descriptorIndex := 1102, attributes := #[] }, { accessFlags := 26, nameIndex := 1121, descriptorIndex := 1122, attributes := #[] }, { accessFlags := 25, nameIndex := 599, descriptorIndex := 600, attributes := #[] }, { accessFlags := 24, nameIndex := 1125, descriptorIndex := 18, attributes := #[] }, { accessFlags := 24, nameIndex := 1127, descriptorIndex := 18, attributes := #[] }])
  fields := #[{ name := "value", type := (.array .byte), accessFlags := 18, slot := 0, constantValue := 0 }, { name := "coder", type := .byte, accessFlags := 18, slot := 1, constantValue := 0 }, { name := "hash", type := .int, accessFlags := 2, slot := 2, constantValue := 0 }, { name := "hashIsZero", type := .boolean, accessFlags := 2, slot := 3, constantValue := 0 }, { name := "serialVersionUID", type := .long, accessFlags := 26, slot := 0, constantValue := 0 }, { name := "COMPACT_STRINGS", type := .boolean, accessFlags := 24, slot := 1, constantValue := 0 }, { name := "serialPersistentFields", type := (.array (.object "java/io/ObjectStreamField")), accessFlags := 26, slot := 2, constantValue := 0 }, { name := "REPL", type := .char, accessFlags := 26, slot := 3, constantValue := 0 }, { name := "CASE_INSENSITIVE_ORDER", type := (.object "java/util/Comparator"), accessFlags := 25, slot := 4, constantValue := 0 }, { name := "LATIN1", type := .byte, accessFlags := 24, slot := 5, constantValue := 0 }, { name := "UTF16", type := .byte, accessFlags := 24, slot := 6, constantValue := 0 }]
  methods := #[k7m0, k7m1, k7m2, k7m3, k7m4, k7m5, k7m6, k7m7, k7m8, k7m9, k7m10, k7m11, k7m12, k7m13, k7m14, k7m15, k7m16, k7m17]
  instanceTypes := #[(.array .byte), .byte, .int, .boolean]
  staticTypes := #[.long, .boolean, (.array (.object "java/io/ObjectStreamField")), .char, (.object "java/util/Comparator"), .byte, .byte]
  resolved := Array.replicate 1451 none
  statics := some 0 }

def pool8 : Array CpInfo := pool [(2, .class_ 4), (0, .nameAndType 5 6), (0, u "java/lang/Object"), (0, u "<init>"), (0, u "()V"), (3, .class_ 12), (1, u "java/lang/String"), (23, .class_ 38), (1, u "com/example/cohortwise/cohortwise/http/Requests"), (7, .class_ 47), (0, u "java/lang/StringBuilder"), (0, .methodref 46 3), (0, .methodref 46 50), (0, .nameAndType 51 52), (0, u "append"), (0, u "(C)Ljava/lang/StringBuilder;"), (0, .fieldref 54 55), (0, .class_ 56), (0, .nameAndType 57 58), (0, u "java/nio/charset/StandardCharsets"), (0, u "UTF_8"), (0, u "Ljava/nio/charset/Charset;"), (0, .methodref 10 60), (0, .nameAndType 61 62), (0, u "getBytes"), (0, u "(Ljava/nio/charset/Charset;)[B"), (0, .string 64), (0, u "-._~"), (0, .methodref 10 66), (0, .nameAndType 67 68), (0, u "indexOf"), (0, u "(I)I"), (0, .fieldref 36 70), (0, .nameAndType 71 72), (0, u "HEX"), (0, u "[C"), (0, .methodref 46 74), (0, .nameAndType 75 76), (0, u "toString"), (0, u "()Ljava/lang/String;"), (110, u "path"), (0, u "([Ljava/lang/String;)Ljava/lang/String;")] 27

def k8m0 : Method := { name := "<init>", desc := "()V", sig := { parameters := [], returnType := none }, accessFlags := 2, code := none }
def k8c1 : Code := { maxStack := 4, maxLocals := 10, code := prog_17_method_3_code, exceptionTable := #[], attributes := #[] }
def k8m1 : Method := { name := "path", desc := "([Ljava/lang/String;)Ljava/lang/String;", sig := { parameters := [(.array (.object "java/lang/String"))], returnType := some (.object "java/lang/String") }, accessFlags := 136, code := some k8c1 }
/-- com/example/cohortwise/cohortwise/http/Requests -/
def k8 : Class := { plain "com/example/cohortwise/cohortwise/http/Requests" (some 0) with
  accessFlags := 48
  interfaces := #[]
  cf := some (fileOf pool8 36 #[] #[{ accessFlags := 2, nameIndex := 5, descriptorIndex := 6, attributes := #[] }, { accessFlags := 136, nameIndex := 187, descriptorIndex := 188, attributes := #[] }] 48 2 #[] #[{ accessFlags := 26, nameIndex := 71, descriptorIndex := 72, attributes := #[] }])
  fields := #[{ name := "HEX", type := (.array .char), accessFlags := 26, slot := 0, constantValue := 0 }]
  methods := #[k8m0, k8m1]
  instanceTypes := #[]
  staticTypes := #[(.array .char)]
  resolved := Array.replicate 216 none
  statics := some 1 }

def pool9 : Array CpInfo := pool [(1, .class_ 2), (0, u "java/lang/Appendable"), (0, .class_ 4), (0, u "java/lang/Object")] 9

/-- java/lang/Appendable -/
def k9 : Class := { plain "java/lang/Appendable" (some 0) with
  accessFlags := 1537
  interfaces := #[]
  cf := some (fileOf pool9 1 #[] #[] 1537 3 #[] #[])
  fields := #[]
  methods := #[]
  instanceTypes := #[]
  staticTypes := #[]
  resolved := Array.replicate 14 none
  statics := none }

def pool10 : Array CpInfo := pool [(1, .class_ 2), (0, u "java/lang/String"), (0, .methodref 4 5), (0, .class_ 6), (0, .nameAndType 7 8), (0, u "java/lang/Object"), (0, u "<init>"), (0, u "()V"), (1, .class_ 12), (1, u "java/lang/AbstractStringBuilder"), (0, u "EMPTYVALUE"), (0, u "[B"), (0, .fieldref 10 16), (0, .nameAndType 17 14), (0, u "value"), (0, .fieldref 1 19), (0, .nameAndType 20 21), (0, u "COMPACT_STRINGS"), (0, u "Z"), (0, .fieldref 10 23), (0, .nameAndType 24 25), (0, u "coder"), (0, u "B"), (8, u "length"), (0, u "()I"), (3, .integer 2147483647), (5, u "append"), (2, .class_ 49), (0, u "java/lang/CharSequence"), (25, u "maybeLatin1"), (3, .fieldref 10 80), (0, .nameAndType 81 82), (0, u "count"), (0, u "I"), (0, .methodref 10 84), (0, .nameAndType 85 86), (0, u "isLatin1"), (0, u "()Z"), (1, .class_ 90), (1, u "java/lang/StringLatin1"), (9, .methodref 10 101), (0, .nameAndType 102 103), (0, u "ensureCapacityInternal"), (0, u "(I)V"), (0, .methodref 10 105), (0, .nameAndType 106 107), (0, u "newCapacity"), (0, u "(I)I"), (0, .methodref 109 110), (0, .class_ 111), (0, .nameAndType 112 113), (0, u "java/util/Arrays"), (0, u "copyOf"), (0, u "([BI)[B"), (0, .methodref 115 116), (0, .class_ 117), (0, .nameAndType 118 119), (0, u "jdk/internal/util/ArraysSupport"), (0, u "newLength"), (0, u "(III)I"), (71, .methodref 88 192), (0, .nameAndType 193 194), (0, u "canEncode"), (0, u "(C)Z"), (97, u "(C)Ljava/lang/AbstractStringBuilder;"), (110, u "()[B"), (40, .class_ 445), (0, u "java/lang/Appendable"), (106, u "getValue")] 56

def k10m0 : Method := { name := "<init>", desc := "()V", sig := { parameters := [], returnType := none }, accessFlags := 0, code := none }
def k10c1 : Code := { maxStack := 2, maxLocals := 2, code := jdk_68_method_2_code, exceptionTable := #[], attributes := #[] }
def k10m1 : Method := { name := "<init>", desc := "(I)V", sig := { parameters := [.int], returnType := none }, accessFlags := 0, code := some k10c1 }
def k10c2 : Code := { maxStack := 1, maxLocals := 1, code := jdk_68_method_6_code, exceptionTable := #[], attributes := #[] }
def k10m2 : Method := { name := "length", desc := "()I", sig := { parameters := [], returnType := some .int }, accessFlags := 1, code := some k10c2 }
def k10c3 : Code := { maxStack := 4, maxLocals := 3, code := jdk_68_method_9_code, exceptionTable := #[], attributes := #[] }
def k10m3 : Method := { name := "ensureCapacityInternal", desc := "(I)V", sig := { parameters := [.int], returnType := none }, accessFlags := 2, code := some k10c3 }
def k10c4 : Code := { maxStack := 5, maxLocals := 6, code := jdk_68_method_10_code, exceptionTable := #[], attributes := #[] }
def k10m4 : Method := { name := "newCapacity", desc := "(I)I", sig := { parameters := [.int], returnType := some .int }, accessFlags := 2, code := some k10c4 }
def k10c5 : Code := { maxStack := 5, maxLocals := 2, code := jdk_68_method_31_code, exceptionTable := #[], attributes := #[] }
def k10m5 : Method := { name := "append", desc := "(C)Ljava/lang/AbstractStringBuilder;", sig := { parameters := [.char], returnType := some (.object "java/lang/AbstractStringBuilder") }, accessFlags := 1, code := some k10c5 }
def k10c6 : Code := { maxStack := 1, maxLocals := 1, code := jdk_68_method_64_code, exceptionTable := #[], attributes := #[] }
def k10m6 : Method := { name := "getValue", desc := "()[B", sig := { parameters := [], returnType := some (.array .byte) }, accessFlags := 16, code := some k10c6 }
def k10c7 : Code := { maxStack := 1, maxLocals := 1, code := jdk_68_method_68_code, exceptionTable := #[], attributes := #[] }
def k10m7 : Method := { name := "isLatin1", desc := "()Z", sig := { parameters := [], returnType := some .boolean }, accessFlags := 16, code := some k10c7 }
/-- java/lang/AbstractStringBuilder -/
def k10 : Class := { plain "java/lang/AbstractStringBuilder" (some 0) with
  accessFlags := 1056
  interfaces := #[9, 4]
  cf := some (fileOf pool10 10 #[] #[{ accessFlags := 0, nameIndex := 7, descriptorIndex := 8, attributes := #[] }, { accessFlags := 0, nameIndex := 7, descriptorIndex := 103, attributes := #[] }, { accessFlags := 1, nameIndex := 34, descriptorIndex := 35, attributes := #[] }, { accessFlags := 2, nameIndex := 102, descriptorIndex := 103, attributes := #[] }, { accessFlags := 2, nameIndex := 106, descriptorIndex := 107, attributes := #[] }, { accessFlags := 1, nameIndex := 45, descriptorIndex := 292, attributes := #[] }, { accessFlags := 16, nameIndex := 552, descriptorIndex := 403, attributes := #[] }, { accessFlags := 16, nameIndex := 85, descriptorIndex := 86, attributes := #[] }] 1056 4 #[444, 48] #[{ accessFlags := 0, nameIndex := 17, descriptorIndex := 14, attributes := #[] }, { accessFlags := 0, nameIndex := 24, descriptorIndex := 25, attributes := #[] }, { accessFlags := 0, nameIndex := 75, descriptorIndex := 21, attributes := #[] }, { accessFlags := 0, nameIndex := 81, descriptorIndex := 82, attributes := #[] }, { accessFlags := 26, nameIndex := 13, descriptorIndex := 14, attributes := #[] }])
  fields := #[{ name := "value", type := (.array .byte), accessFlags := 0, slot := 0, constantValue := 0 }, { name := "coder", type := .byte, accessFlags := 0, slot := 1, constantValue := 0 }, { name := "maybeLatin1", type := .boolean, accessFlags := 0, slot := 2, constantValue := 0 }, { name := "count", type := .int, accessFlags := 0, slot := 3, constantValue := 0 }, { name := "EMPTYVALUE", type := (.array .byte), accessFlags := 26, slot := 0, constantValue := 0 }]
  methods := #[k10m0, k10m1, k10m2, k10m3, k10m4, k10m5, k10m6, k10m7]
  instanceTypes := #[(.array .byte), .byte, .boolean, .int]
  staticTypes := #[(.array .byte)]
  resolved := Array.replicate 609 none
  statics := none }

def pool11 : Array CpInfo := pool [(1, .methodref 2 3), (0, .class_ 4), (0, .nameAndType 5 6), (0, u "java/lang/AbstractStringBuilder"), (0, u "<init>"), (0, u "(I)V"), (11, .class_ 20), (1, u "java/lang/String"), (3, .class_ 26), (1, u "java/lang/StringBuilder"), (0, u "append"), (22, .methodref 2 51), (0, .nameAndType 27 52), (0, u "(C)Ljava/lang/AbstractStringBuilder;"), (84, .methodref 18 138), (0, .nameAndType 5 139), (0, u "(Ljava/lang/StringBuilder;)V"), (5, u "()V"), (10, u "()I"), (129, u "(C)Ljava/lang/StringBuilder;"), (56, .methodref 2 344), (0, .nameAndType 345 156), (0, u "length"), (3, .class_ 350), (0, u "java/lang/Appendable"), (0, .class_ 352), (0, u "java/io/Serializable"), (0, .class_ 354), (0, u "java/lang/Comparable"), (0, .class_ 356), (0, u "java/lang/CharSequence"), (0, u "serialVersionUID"), (0, u "J"), (40, u "toString"), (0, u "()Ljava/lang/String;")] 21

def k11c0 : Code := { maxStack := 2, maxLocals := 1, code := jdk_67_method_1_code, exceptionTable := #[], attributes := #[] }
def k11m0 : Method := { name := "<init>", desc := "()V", sig := { parameters := [], returnType := none }, accessFlags := 1, code := some k11c0 }
def k11c1 : Code := { maxStack := 2, maxLocals := 2, code := jdk_67_method_14_code, exceptionTable := #[], attributes := #[] }
def k11m1 : Method := { name := "append", desc := "(C)Ljava/lang/StringBuilder;", sig := { parameters := [.char], returnType := some (.object "java/lang/StringBuilder") }, accessFlags := 1, code := some k11c1 }
def k11c2 : Code := { maxStack := 3, maxLocals := 1, code := jdk_67_method_42_code, exceptionTable := #[], attributes := #[] }
def k11m2 : Method := { name := "toString", desc := "()Ljava/lang/String;", sig := { parameters := [], returnType := some (.object "java/lang/String") }, accessFlags := 1, code := some k11c2 }
def k11c3 : Code := { maxStack := 1, maxLocals := 1, code := jdk_67_method_93_code, exceptionTable := #[], attributes := #[] }
def k11m3 : Method := { name := "length", desc := "()I", sig := { parameters := [], returnType := some .int }, accessFlags := 4161, code := some k11c3 }
/-- java/lang/StringBuilder -/
def k11 : Class := { plain "java/lang/StringBuilder" (some 10) with
  accessFlags := 49
  interfaces := #[9, 2, 3, 4]
  cf := some (fileOf pool11 24 #[] #[{ accessFlags := 1, nameIndex := 5, descriptorIndex := 145, attributes := #[] }, { accessFlags := 1, nameIndex := 27, descriptorIndex := 286, attributes := #[] }, { accessFlags := 1, nameIndex := 399, descriptorIndex := 400, attributes := #[] }, { accessFlags := 4161, nameIndex := 345, descriptorIndex := 156, attributes := #[] }] 49 2 #[349, 351, 353, 355] #[{ accessFlags := 24, nameIndex := 357, descriptorIndex := 358, attributes := #[] }])
  fields := #[{ name := "serialVersionUID", type := .long, accessFlags := 24, slot := 0, constantValue := 0 }]
  methods := #[k11m0, k11m1, k11m2, k11m3]
  instanceTypes := #[(.array .byte), .byte, .boolean, .int]
  staticTypes := #[.long]
  resolved := Array.replicate 422 none
  statics := none }

def pool12 : Array CpInfo := pool [(2, .class_ 4), (1, u "java/lang/Object"), (0, u "<init>"), (0, u "()V"), (7, .class_ 16), (1, u "java/util/Arrays"), (57, .class_ 76), (1, u "java/util/Arrays$NaturalOrder"), (32, u "()Ljava/lang/Object;"), (3, .class_ 115), (1, u "java/util/Arrays$LegacyMergeSort"), (1, u "Z"), (10, .nameAndType 129 109), (0, u "clone"), (9, u "copyOfRange"), (10, .methodref 151 152), (0, .class_ 153), (0, .nameAndType 154 155), (0, u "java/lang/System"), (0, u "arraycopy"), (0, u "(Ljava/lang/Object;ILjava/lang/Object;II)V"), (146, u "copyOf"), (1, .methodref 305 306), (0, .class_ 307), (0, .nameAndType 308 309), (0, u "java/lang/Math"), (0, u "min"), (0, u "(II)I"), (0, .methodref 311 128), (0, .class_ 312), (0, u "[B"), (26, .methodref 14 340), (0, .nameAndType 341 342), (0, u "copyOfRangeByte"), (0, u "([BII)[B"), (0, .methodref 14 344), (0, .nameAndType 345 346), (0, u "checkLength"), (0, u "(II)V"), (28, .class_ 376), (0, u "java/util/Arrays$ArrayList"), (68, u "$assertionsDisabled"), (269, u "MIN_ARRAY_SORT_GRAN"), (0, u "I"), (2, u "INSERTIONSORT_THRESHOLD"), (149, u "([BI)[B"), (105, .class_ 976), (0, u "java/util/Arrays$ArrayItr")] 52

def k12m0 : Method := { name := "<init>", desc := "()V", sig := { parameters := [], returnType := none }, accessFlags := 2, code := none }
def k12c1 : Code := { maxStack := 6, maxLocals := 3, code := jdk_65_method_121_code, exceptionTable := #[], attributes := #[] }
def k12m1 : Method := { name := "copyOf", desc := "([BI)[B", sig := { parameters := [(.array .byte), .int], returnType := some (.array .byte) }, accessFlags := 9, code := some k12c1 }
def k12c2 : Code := { maxStack := 4, maxLocals := 2, code := jdk_65_method_131_code, exceptionTable := #[], attributes := #[] }
def k12m2 : Method := { name := "checkLength", desc := "(II)V", sig := { parameters := [.int, .int], returnType := none }, accessFlags := 10, code := some k12c2 }
def k12c3 : Code := { maxStack := 3, maxLocals := 3, code := jdk_65_method_132_code, exceptionTable := #[], attributes := #[] }
def k12m3 : Method := { name := "copyOfRange", desc := "([BII)[B", sig := { parameters := [(.array .byte), .int, .int], returnType := some (.array .byte) }, accessFlags := 9, code := some k12c3 }
def k12c4 : Code := { maxStack := 6, maxLocals := 5, code := jdk_65_method_133_code, exceptionTable := #[], attributes := #[] }
def k12m4 : Method := { name := "copyOfRangeByte", desc := "([BII)[B", sig := { parameters := [(.array .byte), .int, .int], returnType := some (.array .byte) }, accessFlags := 10, code := some k12c4 }
/-- java/util/Arrays -/
def k12 : Class := { plain "java/util/Arrays" (some 0) with
  accessFlags := 49
  interfaces := #[]
  cf := some (fileOf pool12 14 #[.nestMembers #[975, 375, 113, 74]] #[{ accessFlags := 2, nameIndex := 5, descriptorIndex := 6, attributes := #[] }, { accessFlags := 9, nameIndex := 302, descriptorIndex := 869, attributes := #[] }, { accessFlags := 10, nameIndex := 345, descriptorIndex := 346, attributes := #[] }, { accessFlags := 9, nameIndex := 139, descriptorIndex := 342, attributes := #[] }, { accessFlags := 10, nameIndex := 341, descriptorIndex := 342, attributes := #[] }] 49 2 #[] #[{ accessFlags := 26, nameIndex := 715, descriptorIndex := 716, attributes := #[] }, { accessFlags := 26, nameIndex := 719, descriptorIndex := 716, attributes := #[] }, { accessFlags := 4120, nameIndex := 445, descriptorIndex := 117, attributes := #[] }])
  fields := #[{ name := "MIN_ARRAY_SORT_GRAN", type := .int, accessFlags := 26, slot := 0, constantValue := 0 }, { name := "INSERTIONSORT_THRESHOLD", type := .int, accessFlags := 26, slot := 1, constantValue := 0 }, { name := "$assertionsDisabled", type := .boolean, accessFlags := 4120, slot := 2, constantValue := 0 }]
  methods := #[k12m0, k12m1, k12m2, k12m3, k12m4]
  instanceTypes := #[]
  staticTypes := #[.int, .int, .boolean]
  resolved := Array.replicate 1029 none
  statics := none }

def pool13 : Array CpInfo := pool [(1, .class_ 2), (0, u "java/lang/Math"), (1, .class_ 6), (1, u "java/lang/Object"), (0, u "<init>"), (0, u "()V"), (89, .class_ 100), (1, u "java/lang/Math$RandomNumberGeneratorHolder"), (71, u "negativeZeroFloatBits"), (0, u "J"), (2, u "negativeZeroDoubleBits"), (21, u "max"), (2, u "min"), (43, u "$assertionsDisabled"), (0, u "Z"), (88, u "(II)I"), (2, u "twoToTheDoubleScaleDown"), (0, u "D"), (4, u "twoToTheDoubleScaleUp"), (9, u "E"), (3, u "PI"), (2, u "TAU"), (2, u "DEGREES_TO_RADIANS"), (0, u "RADIANS_TO_DEGREES")] 94

def k13m0 : Method := { name := "<init>", desc := "()V", sig := { parameters := [], returnType := none }, accessFlags := 2, code := none }
def k13c1 : Code := { maxStack := 2, maxLocals := 2, code := jdk_29_method_65_code, exceptionTable := #[], attributes := #[] }
def k13m1 : Method := { name := "max", desc := "(II)I", sig := { parameters := [.int, .int], returnType := some .int }, accessFlags := 9, code := some k13c1 }
def k13c2 : Code := { maxStack := 2, maxLocals := 2, code := jdk_29_method_69_code, exceptionTable := #[], attributes := #[] }
def k13m2 : Method := { name := "min", desc := "(II)I", sig := { parameters := [.int, .int], returnType := some .int }, accessFlags := 9, code := some k13c2 }
/-- java/lang/Math -/
def k13 : Class := { plain "java/lang/Math" (some 0) with
  accessFlags := 49
  interfaces := #[]
  cf := some (fileOf pool13 1 #[.nestMembers #[98]] #[{ accessFlags := 2, nameIndex := 7, descriptorIndex := 8, attributes := #[] }, { accessFlags := 9, nameIndex := 198, descriptorIndex := 335, attributes := #[] }, { accessFlags := 9, nameIndex := 201, descriptorIndex := 335, attributes := #[] }] 49 4 #[] #[{ accessFlags := 25, nameIndex := 354, descriptorIndex := 339, attributes := #[] }, { accessFlags := 25, nameIndex := 358, descriptorIndex := 339, attributes := #[] }, { accessFlags := 25, nameIndex := 361, descriptorIndex := 339, attributes := #[] }, { accessFlags := 26, nameIndex := 364, descriptorIndex := 339, attributes := #[] }, { accessFlags := 26, nameIndex := 365, descriptorIndex := 339, attributes := #[] }, { accessFlags := 26, nameIndex := 172, descriptorIndex := 173, attributes := #[] }, { accessFlags := 26, nameIndex := 176, descriptorIndex := 173, attributes := #[] }, { accessFlags := 8, nameIndex := 344, descriptorIndex := 339, attributes := #[] }, { accessFlags := 8, nameIndex := 338, descriptorIndex := 339, attributes := #[] }, { accessFlags := 4120, nameIndex := 245, descriptorIndex := 246, attributes := #[] }])
  fields := #[{ name := "E", type := .double, accessFlags := 25, slot := 0, constantValue := 0 }, { name := "PI", type := .double, accessFlags := 25, slot := 1, constantValue := 0 }, { name := "TAU", type := .double, accessFlags := 25, slot := 2, constantValue := 0 }, { name := "DEGREES_TO_RADIANS", type := .double, accessFlags := 26, slot := 3, constantValue := 0 }, { name := "RADIANS_TO_DEGREES", type := .double, accessFlags := 26, slot := 4, constantValue := 0 }, { name := "negativeZeroFloatBits", type := .long, accessFlags := 26, slot := 5, constantValue := 0 }, { name := "negativeZeroDoubleBits", type := .long, accessFlags := 26, slot := 6, constantValue := 0 }, { name := "twoToTheDoubleScaleUp", type := .double, accessFlags := 8, slot := 7, constantValue := 0 }, { name := "twoToTheDoubleScaleDown", type := .double, accessFlags := 8, slot := 8, constantValue := 0 }, { name := "$assertionsDisabled", type := .boolean, accessFlags := 4120, slot := 9, constantValue := 0 }]
  methods := #[k13m0, k13m1, k13m2]
  instanceTypes := #[]
  staticTypes := #[.double, .double, .double, .double, .double, .long, .long, .double, .double, .boolean]
  resolved := Array.replicate 460 none
  statics := none }

def pool14 : Array CpInfo := pool [(2, .class_ 4), (1, u "java/lang/Object"), (0, u "<init>"), (0, u "()V"), (1, .class_ 10), (1, u "java/lang/System"), (0, u "allowSecurityManager"), (0, u "I"), (16, u "cons"), (0, u "Ljava/io/Console;"), (77, .class_ 110), (1, u "java/lang/System$CallersHolder"), (43, u "initialErrStream"), (0, u "Ljava/io/PrintStream;"), (19, u "security"), (0, u "Ljava/lang/SecurityManager;"), (31, .class_ 209), (0, u "java/lang/System$1"), (7, u "props"), (0, u "Ljava/util/Properties;"), (2, u "lineSeparator"), (0, u "Ljava/lang/String;"), (96, .class_ 321), (1, u "java/lang/System$LoggerFinder"), (5, .class_ 328), (0, u "java/lang/System$Logger"), (67, u "err"), (2, u "out"), (91, u "notSupportedJnuEncoding"), (15, u "in"), (17, u "initialIn"), (0, u "Ljava/io/InputStream;"), (35, u "bootLayer"), (0, u "Ljava/lang/ModuleLayer;"), (99, .class_ 664), (0, u "java/lang/System$2"), (9, u "NEVER"), (2, u "MAYBE"), (49, u "arraycopy"), (0, u "(Ljava/lang/Object;ILjava/lang/Object;II)V"), (72, .class_ 802), (0, u "java/lang/System$Logger$Level")] 31

def k14m0 : Method := { name := "<init>", desc := "()V", sig := { parameters := [], returnType := none }, accessFlags := 2, code := none }
def k14m1 : Method := { name := "arraycopy", desc := "(Ljava/lang/Object;ILjava/lang/Object;II)V", sig := { parameters := [(.object "java/lang/Object"), .int, (.object "java/lang/Object"), .int, .int], returnType := none }, accessFlags := 265, code := none }
/-- java/lang/System -/
def k14 : Class := { plain "java/lang/System" (some 0) with
  accessFlags := 49
  interfaces := #[]
  cf := some (fileOf pool14 8 #[.nestMembers #[319, 327, 801, 108, 663, 208]] #[{ accessFlags := 2, nameIndex := 5, descriptorIndex := 6, attributes := #[] }, { accessFlags := 265, nameIndex := 727, descriptorIndex := 728, attributes := #[] }] 49 2 #[] #[{ accessFlags := 25, nameIndex := 507, descriptorIndex := 526, attributes := #[] }, { accessFlags := 25, nameIndex := 399, descriptorIndex := 155, attributes := #[] }, { accessFlags := 25, nameIndex := 396, descriptorIndex := 155, attributes := #[] }, { accessFlags := 10, nameIndex := 525, descriptorIndex := 526, attributes := #[] }, { accessFlags := 26, nameIndex := 674, descriptorIndex := 12, attributes := #[] }, { accessFlags := 26, nameIndex := 677, descriptorIndex := 12, attributes := #[] }, { accessFlags := 10, nameIndex := 11, descriptorIndex := 12, attributes := #[] }, { accessFlags := 74, nameIndex := 175, descriptorIndex := 176, attributes := #[] }, { accessFlags := 10, nameIndex := 491, descriptorIndex := 222, attributes := #[] }, { accessFlags := 74, nameIndex := 29, descriptorIndex := 30, attributes := #[] }, { accessFlags := 74, nameIndex := 154, descriptorIndex := 155, attributes := #[] }, { accessFlags := 10, nameIndex := 217, descriptorIndex := 218, attributes := #[] }, { accessFlags := 10, nameIndex := 221, descriptorIndex := 222, attributes := #[] }, { accessFlags := 8, nameIndex := 562, descriptorIndex := 563, attributes := #[] }])
  fields := #[{ name := "in", type := (.object "java/io/InputStream"), accessFlags := 25, slot := 0, constantValue := 0 }, { name := "out", type := (.object "java/io/PrintStream"), accessFlags := 25, slot := 1, constantValue := 0 }, { name := "err", type := (.object "java/io/PrintStream"), accessFlags := 25, slot := 2, constantValue := 0 }, { name := "initialIn", type := (.object "java/io/InputStream"), accessFlags := 10, slot := 3, constantValue := 0 }, { name := "NEVER", type := .int, accessFlags := 26, slot := 4, constantValue := 0 }, { name := "MAYBE", type := .int, accessFlags := 26, slot := 5, constantValue := 0 }, { name := "allowSecurityManager", type := .int, accessFlags := 10, slot := 6, constantValue := 0 }, { name := "security", type := (.object "java/lang/SecurityManager"), accessFlags := 74, slot := 7, constantValue := 0 }, { name := "notSupportedJnuEncoding", type := (.object "java/lang/String"), accessFlags := 10, slot := 8, constantValue := 0 }, { name := "cons", type := (.object "java/io/Console"), accessFlags := 74, slot := 9, constantValue := 0 }, { name := "initialErrStream", type := (.object "java/io/PrintStream"), accessFlags := 74, slot := 10, constantValue := 0 }, { name := "props", type := (.object "java/util/Properties"), accessFlags := 10, slot := 11, constantValue := 0 }, { name := "lineSeparator", type := (.object "java/lang/String"), accessFlags := 10, slot := 12, constantValue := 0 }, { name := "bootLayer", type := (.object "java/lang/ModuleLayer"), accessFlags := 8, slot := 13, constantValue := 0 }]
  methods := #[k14m0, k14m1]
  instanceTypes := #[]
  staticTypes := #[(.object "java/io/InputStream"), (.object "java/io/PrintStream"), (.object "java/io/PrintStream"), (.object "java/io/InputStream"), .int, .int, .int, (.object "java/lang/SecurityManager"), (.object "java/lang/String"), (.object "java/io/Console"), (.object "java/io/PrintStream"), (.object "java/util/Properties"), (.object "java/lang/String"), (.object "java/lang/ModuleLayer")]
  resolved := Array.replicate 834 none
  statics := none }

def pool15 : Array CpInfo := pool [(1, .class_ 2), (0, u "java/lang/String"), (1, .class_ 6), (1, u "java/lang/Object"), (0, u "<init>"), (0, u "()V"), (0, .methodref 1 10), (0, .nameAndType 11 12), (0, u "checkIndex"), (0, u "(II)V"), (1, .class_ 16), (1, u "java/lang/StringLatin1"), (21, .methodref 39 40), (0, .class_ 41), (0, .nameAndType 42 43), (0, u "java/lang/Math"), (0, u "min"), (0, u "(II)I"), (9, u "([BI)C"), (34, .methodref 14 89), (0, .nameAndType 90 91), (0, u "canEncode"), (0, u "(I)Z"), (0, .methodref 39 93), (0, .nameAndType 94 43), (0, u "max"), (0, .methodref 14 96), (0, .nameAndType 97 98), (0, u "indexOfChar"), (0, u "([BIII)I"), (2, u "indexOf"), (3, u "(C)Z"), (15, u "$assertionsDisabled"), (0, u "Z"), (98, .class_ 223), (1, u "java/lang/StringLatin1$LinesSpliterator"), (28, u "charAt"), (127, u "toBytes"), (1, u "(C)[B"), (7, .class_ 391), (0, u "java/lang/StringLatin1$CharsSpliterator")] 3

def k15m0 : Method := { name := "<init>", desc := "()V", sig := { parameters := [], returnType := none }, accessFlags := 0, code := none }
def k15c1 : Code := { maxStack := 2, maxLocals := 2, code := jdk_43_method_2_code, exceptionTable := #[], attributes := #[] }
def k15m1 : Method := { name := "charAt", desc := "([BI)C", sig := { parameters := [(.array .byte), .int], returnType := some .char }, accessFlags := 9, code := some k15c1 }
def k15c2 : Code := { maxStack := 2, maxLocals := 1, code := jdk_43_method_3_code, exceptionTable := #[], attributes := #[] }
def k15m2 : Method := { name := "canEncode", desc := "(C)Z", sig := { parameters := [.char], returnType := some .boolean }, accessFlags := 9, code := some k15c2 }
def k15c3 : Code := { maxStack := 2, maxLocals := 1, code := jdk_43_method_4_code, exceptionTable := #[], attributes := #[] }
def k15m3 : Method := { name := "canEncode", desc := "(I)Z", sig := { parameters := [.int], returnType := some .boolean }, accessFlags := 9, code := some k15c3 }
def k15c4 : Code := { maxStack := 4, maxLocals := 4, code := jdk_43_method_22_code, exceptionTable := #[], attributes := #[] }
def k15m4 : Method := { name := "indexOf", desc := "([BIII)I", sig := { parameters := [(.array .byte), .int, .int, .int], returnType := some .int }, accessFlags := 9, code := some k15c4 }
def k15c5 : Code := { maxStack := 2, maxLocals := 6, code := jdk_43_method_23_code, exceptionTable := #[], attributes := #[] }
def k15m5 : Method := { name := "indexOfChar", desc := "([BIII)I", sig := { parameters := [(.array .byte), .int, .int, .int], returnType := some .int }, accessFlags := 10, code := some k15c5 }
def k15c6 : Code := { maxStack := 4, maxLocals := 1, code := jdk_43_method_46_code, exceptionTable := #[], attributes := #[] }
def k15m6 : Method := { name := "toBytes", desc := "(C)[B", sig := { parameters := [.char], returnType := some (.array .byte) }, accessFlags := 9, code := some k15c6 }
/-- java/lang/StringLatin1 -/
def k15 : Class := { plain "java/lang/StringLatin1" (some 0) with
  accessFlags := 48
  interfaces := #[]
  cf := some (fileOf pool15 14 #[.nestMembers #[390, 221]] #[{ accessFlags := 0, nameIndex := 7, descriptorIndex := 8, attributes := #[] }, { accessFlags := 9, nameIndex := 252, descriptorIndex := 53, attributes := #[] }, { accessFlags := 9, nameIndex := 90, descriptorIndex := 105, attributes := #[] }, { accessFlags := 9, nameIndex := 90, descriptorIndex := 91, attributes := #[] }, { accessFlags := 9, nameIndex := 101, descriptorIndex := 98, attributes := #[] }, { accessFlags := 10, nameIndex := 97, descriptorIndex := 98, attributes := #[] }, { accessFlags := 9, nameIndex := 380, descriptorIndex := 382, attributes := #[] }] 48 4 #[] #[{ accessFlags := 4120, nameIndex := 121, descriptorIndex := 122, attributes := #[] }])
  fields := #[{ name := "$assertionsDisabled", type := .boolean, accessFlags := 4120, slot := 0, constantValue := 0 }]
  methods := #[k15m0, k15m1, k15m2, k15m3, k15m4, k15m5, k15m6]
  instanceTypes := #[]
  staticTypes := #[.boolean]
  resolved := Array.replicate 395 none
  statics := none }

def pool16 : Array CpInfo := pool [(2, .class_ 4), (1, u "java/lang/Object"), (0, u "<init>"), (0, u "()V"), (14, .class_ 23), (1, u "java/nio/charset/StandardCharsets"), (0, u "US_ASCII"), (0, u "Ljava/nio/charset/Charset;"), (7, u "ISO_8859_1"), (7, u "UTF_8"), (5, u "UTF_16BE"), (5, u "UTF_16LE"), (5, u "UTF_16")] 8

def k16m0 : Method := { name := "<init>", desc := "()V", sig := { parameters := [], returnType := none }, accessFlags := 2, code := none }
/-- java/nio/charset/StandardCharsets -/
def k16 : Class := { plain "java/nio/charset/StandardCharsets" (some 0) with
  accessFlags := 49
  interfaces := #[]
  cf := some (fileOf pool16 21 #[] #[{ accessFlags := 2, nameIndex := 5, descriptorIndex := 6, attributes := #[] }] 49 2 #[] #[{ accessFlags := 25, nameIndex := 24, descriptorIndex := 25, attributes := #[] }, { accessFlags := 25, nameIndex := 33, descriptorIndex := 25, attributes := #[] }, { accessFlags := 25, nameIndex := 41, descriptorIndex := 25, attributes := #[] }, { accessFlags := 25, nameIndex := 47, descriptorIndex := 25, attributes := #[] }, { accessFlags := 25, nameIndex := 53, descriptorIndex := 25, attributes := #[] }, { accessFlags := 25, nameIndex := 59, descriptorIndex := 25, attributes := #[] }])
  fields := #[{ name := "US_ASCII", type := (.object "java/nio/charset/Charset"), accessFlags := 25, slot := 0, constantValue := 0 }, { name := "ISO_8859_1", type := (.object "java/nio/charset/Charset"), accessFlags := 25, slot := 1, constantValue := 0 }, { name := "UTF_8", type := (.object "java/nio/charset/Charset"), accessFlags := 25, slot := 2, constantValue := 0 }, { name := "UTF_16BE", type := (.object "java/nio/charset/Charset"), accessFlags := 25, slot := 3, constantValue := 0 }, { name := "UTF_16LE", type := (.object "java/nio/charset/Charset"), accessFlags := 25, slot := 4, constantValue := 0 }, { name := "UTF_16", type := (.object "java/nio/charset/Charset"), accessFlags := 25, slot := 5, constantValue := 0 }]
  methods := #[k16m0]
  instanceTypes := #[]
  staticTypes := #[(.object "java/nio/charset/Charset"), (.object "java/nio/charset/Charset"), (.object "java/nio/charset/Charset"), (.object "java/nio/charset/Charset"), (.object "java/nio/charset/Charset"), (.object "java/nio/charset/Charset")]
  resolved := Array.replicate 68 none
  statics := some 2 }

def pool17 : Array CpInfo := pool [(18, .class_ 20), (1, u "java/nio/charset/Charset"), (0, u "cache1"), (0, u "[Ljava/lang/Object;"), (2, u "cache2"), (0, .class_ 27), (0, u "java/lang/Object"), (0, .class_ 29), (0, u "java/nio/charset/Charset$1"), (4, .class_ 36), (1, u "java/nio/charset/Charset$ThreadTrackHolder"), (21, .class_ 59), (0, u "java/nio/charset/Charset$2"), (11, .class_ 73), (1, u "java/nio/charset/Charset$ExtendedProviderHolder"), (22, u "standardProvider"), (0, u "Ljava/nio/charset/spi/CharsetProvider;"), (29, u "name"), (7, .class_ 136), (0, u "java/nio/charset/Charset$3"), (5, u "defaultCharset"), (0, u "Ljava/nio/charset/Charset;"), (14, u "zeroAliases"), (0, u "[Ljava/lang/String;"), (29, u "Ljava/lang/String;"), (2, u "aliases"), (2, u "aliasSet"), (0, u "Ljava/util/Set;"), (82, .class_ 280), (0, u "java/lang/Comparable"), (84, .class_ 366), (0, u "java/nio/charset/Charset$ExtendedProviderHolder$1")] 3

/-- java/nio/charset/Charset -/
def k17 : Class := { plain "java/nio/charset/Charset" (some 0) with
  accessFlags := 1057
  interfaces := #[3]
  cf := some (fileOf pool17 18 #[.nestMembers #[71, 365, 34, 135, 58, 28]] #[] 1057 26 #[279] #[{ accessFlags := 26, nameIndex := 96, descriptorIndex := 97, attributes := #[] }, { accessFlags := 26, nameIndex := 158, descriptorIndex := 159, attributes := #[] }, { accessFlags := 74, nameIndex := 21, descriptorIndex := 22, attributes := #[] }, { accessFlags := 74, nameIndex := 25, descriptorIndex := 22, attributes := #[] }, { accessFlags := 10, nameIndex := 142, descriptorIndex := 143, attributes := #[] }, { accessFlags := 18, nameIndex := 127, descriptorIndex := 189, attributes := #[] }, { accessFlags := 18, nameIndex := 192, descriptorIndex := 159, attributes := #[] }, { accessFlags := 2, nameIndex := 195, descriptorIndex := 196, attributes := #[] }])
  fields := #[{ name := "standardProvider", type := (.object "java/nio/charset/spi/CharsetProvider"), accessFlags := 26, slot := 0, constantValue := 0 }, { name := "zeroAliases", type := (.array (.object "java/lang/String")), accessFlags := 26, slot := 1, constantValue := 0 }, { name := "cache1", type := (.array (.object "java/lang/Object")), accessFlags := 74, slot := 2, constantValue := 0 }, { name := "cache2", type := (.array (.object "java/lang/Object")), accessFlags := 74, slot := 3, constantValue := 0 }, { name := "defaultCharset", type := (.object "java/nio/charset/Charset"), accessFlags := 10, slot := 4, constantValue := 0 }, { name := "name", type := (.object "java/lang/String"), accessFlags := 18, slot := 0, constantValue := 0 }, { name := "aliases", type := (.array (.object "java/lang/String")), accessFlags := 18, slot := 1, constantValue := 0 }, { name := "aliasSet", type := (.object "java/util/Set"), accessFlags := 2, slot := 2, constantValue := 0 }]
  methods := #[]
  instanceTypes := #[(.object "java/lang/String"), (.array (.object "java/lang/String")), (.object "java/util/Set")]
  staticTypes := #[(.object "java/nio/charset/spi/CharsetProvider"), (.array (.object "java/lang/String")), (.array (.object "java/lang/Object")), (.array (.object "java/lang/Object")), (.object "java/nio/charset/Charset")]
  resolved := Array.replicate 370 none
  statics := none }

def pool18 : Array CpInfo := pool [(1, .class_ 2), (0, u "sun/nio/cs/HistoricallyNamedCharset"), (0, .class_ 4), (0, u "java/lang/Object")] 4

/-- sun/nio/cs/HistoricallyNamedCharset -/
def k18 : Class := { plain "sun/nio/cs/HistoricallyNamedCharset" (some 0) with
  accessFlags := 1537
  interfaces := #[]
  cf := some (fileOf pool18 1 #[] #[] 1537 3 #[] #[])
  fields := #[]
  methods := #[]
  instanceTypes := #[]
  staticTypes := #[]
  resolved := Array.replicate 9 none
  statics := none }

def pool19 : Array CpInfo := pool [(2, .class_ 4), (1, u "java/nio/charset/Charset"), (130, .class_ 136), (0, u "sun/nio/cs/Unicode"), (0, .class_ 138), (0, u "sun/nio/cs/HistoricallyNamedCharset")] 15

/-- sun/nio/cs/Unicode -/
def k19 : Class := { plain "sun/nio/cs/Unicode" (some 17) with
  accessFlags := 1056
  interfaces := #[18]
  cf := some (fileOf pool19 135 #[] #[] 1056 2 #[137] #[])
  fields := #[]
  methods := #[]
  instanceTypes := #[(.object "java/lang/String"), (.array (.object "java/lang/String")), (.object "java/util/Set")]
  staticTypes := #[]
  resolved := Array.replicate 154 none
  statics := none }

def pool20 : Array CpInfo := pool [(10, .class_ 12), (1, u "sun/nio/cs/Unicode"), (0, u "<init>"), (3, .class_ 18), (0, u "sun/nio/cs/UTF_8$Decoder"), (3, .class_ 23), (0, u "sun/nio/cs/UTF_8$Encoder"), (15, .class_ 40), (0, u "sun/nio/cs/UTF_8"), (2, u "()V"), (2, u "INSTANCE"), (0, u "Lsun/nio/cs/UTF_8;"), (8, u "JLA"), (0, u "Ljdk/internal/access/JavaLangAccess;")] 26

def k20m0 : Method := { name := "<init>", desc := "()V", sig := { parameters := [], returnType := none }, accessFlags := 1, code := none }
/-- sun/nio/cs/UTF_8 -/
def k20 : Class := { plain "sun/nio/cs/UTF_8" (some 19) with
  accessFlags := 49
  interfaces := #[]
  cf := some (fileOf pool20 39 #[.nestMembers #[22, 17]] #[{ accessFlags := 1, nameIndex := 13, descriptorIndex := 43, attributes := #[] }] 49 10 #[] #[{ accessFlags := 25, nameIndex := 46, descriptorIndex := 47, attributes := #[] }, { accessFlags := 26, nameIndex := 56, descriptorIndex := 57, attributes := #[] }])
  fields := #[{ name := "INSTANCE", type := (.object "sun/nio/cs/UTF_8"), accessFlags := 25, slot := 0, constantValue := 0 }, { name := "JLA", type := (.object "jdk/internal/access/JavaLangAccess"), accessFlags := 26, slot := 1, constantValue := 0 }]
  methods := #[k20m0]
  instanceTypes := #[(.object "java/lang/String"), (.array (.object "java/lang/String")), (.object "java/util/Set")]
  staticTypes := #[(.object "sun/nio/cs/UTF_8"), (.object "jdk/internal/access/JavaLangAccess")]
  resolved := Array.replicate 84 none
  statics := some 3 }

def pool21 : Array CpInfo := pool [(2, .class_ 4), (1, u "java/lang/Object"), (0, u "<init>"), (0, u "()V"), (0, .methodref 8 9), (0, .class_ 10), (0, .nameAndType 11 12), (0, u "java/lang/StringCoding"), (0, u "countPositives"), (0, u "([BII)I"), (11, u "hasNegatives"), (0, u "([BII)Z")] 23

def k21m0 : Method := { name := "<init>", desc := "()V", sig := { parameters := [], returnType := none }, accessFlags := 2, code := none }
def k21c1 : Code := { maxStack := 3, maxLocals := 3, code := jdk_123_method_2_code, exceptionTable := #[], attributes := #[] }
def k21m1 : Method := { name := "hasNegatives", desc := "([BII)Z", sig := { parameters := [(.array .byte), .int, .int], returnType := some .boolean }, accessFlags := 9, code := some k21c1 }
def k21c2 : Code := { maxStack := 2, maxLocals := 5, code := jdk_123_method_3_code, exceptionTable := #[], attributes := #[] }
def k21m2 : Method := { name := "countPositives", desc := "([BII)I", sig := { parameters := [(.array .byte), .int, .int], returnType := some .int }, accessFlags := 9, code := some k21c2 }
/-- java/lang/StringCoding -/
def k21 : Class := { plain "java/lang/StringCoding" (some 0) with
  accessFlags := 32
  interfaces := #[]
  cf := some (fileOf pool21 8 #[] #[{ accessFlags := 2, nameIndex := 5, descriptorIndex := 6, attributes := #[] }, { accessFlags := 9, nameIndex := 24, descriptorIndex := 25, attributes := #[] }, { accessFlags := 9, nameIndex := 11, descriptorIndex := 12, attributes := #[] }] 32 2 #[] #[])
  fields := #[]
  methods := #[k21m0, k21m1, k21m2]
  instanceTypes := #[]
  staticTypes := #[]
  resolved := Array.replicate 49 none
  statics := none }

def pool22 : Array CpInfo := pool [(1, .class_ 2), (0, u "java/lang/Cloneable"), (0, .class_ 4), (0, u "java/lang/Object")] 2

/-- java/lang/Cloneable -/
def k22 : Class := { plain "java/lang/Cloneable" (some 0) with
  accessFlags := 1537
  interfaces := #[]
  cf := some (fileOf pool22 1 #[] #[] 1537 3 #[] #[])
  fields := #[]
  methods := #[]
  instanceTypes := #[]
  staticTypes := #[]
  resolved := Array.replicate 7 none
  statics := none }

def pool23 : Array CpInfo := pool [(6, .class_ 8), (1, u "java/lang/Object"), (0, u "<init>"), (0, u "()V"), (0, .methodref 12 13), (0, .class_ 14), (0, .nameAndType 15 16), (0, u "java/lang/StringUTF16"), (0, u "newBytesLength"), (0, u "(I)I"), (3, .integer 1073741823), (23, .fieldref 12 45), (0, .nameAndType 46 47), (0, u "$assertionsDisabled"), (0, u "Z"), (11, .fieldref 12 60), (0, .nameAndType 61 62), (0, u "HI_BYTE_SHIFT"), (0, u "I"), (0, .fieldref 12 64), (0, .nameAndType 65 62), (0, u "LO_BYTE_SHIFT"), (5, .methodref 12 72), (0, .nameAndType 73 74), (0, u "getChar"), (0, u "([BI)C"), (32, .methodref 12 108), (0, .nameAndType 109 110), (0, u "newBytesFor"), (0, u "(I)[B"), (0, .methodref 12 112), (0, .nameAndType 113 114), (0, u "putChar"), (0, u "([BII)V"), (0, .methodref 12 116), (0, .nameAndType 117 118), (0, u "compress"), (0, u "([CI[BII)I"), (0, .methodref 12 120), (0, .nameAndType 121 122), (0, u "toBytes"), (0, u "([CII)[B"), (138, u "coderFromArrayLen"), (0, u "([BI)B"), (106, .class_ 371), (1, u "java/lang/StringUTF16$LinesSpliterator"), (58, u "MAX_LENGTH"), (44, u "(C)[B"), (151, .class_ 628), (0, u "java/lang/StringUTF16$CodePointsSpliterator"), (0, .class_ 630), (0, u "java/lang/StringUTF16$CharsSpliterator")] 4

def k23m0 : Method := { name := "<init>", desc := "()V", sig := { parameters := [], returnType := none }, accessFlags := 0, code := none }
def k23c1 : Code := { maxStack := 1, maxLocals := 1, code := jdk_52_method_2_code, exceptionTable := #[], attributes := #[] }
def k23m1 : Method := { name := "newBytesFor", desc := "(I)[B", sig := { parameters := [.int], returnType := some (.array .byte) }, accessFlags := 9, code := some k23c1 }
def k23c2 : Code := { maxStack := 4, maxLocals := 1, code := jdk_52_method_3_code, exceptionTable := #[], attributes := #[] }
def k23m2 : Method := { name := "newBytesLength", desc := "(I)I", sig := { parameters := [.int], returnType := some .int }, accessFlags := 9, code := some k23c2 }
def k23c3 : Code := { maxStack := 4, maxLocals := 3, code := jdk_52_method_4_code, exceptionTable := #[], attributes := #[] }
def k23m3 : Method := { name := "putChar", desc := "([BII)V", sig := { parameters := [(.array .byte), .int, .int], returnType := none }, accessFlags := 8, code := some k23c3 }
def k23c4 : Code := { maxStack := 3, maxLocals := 2, code := jdk_52_method_5_code, exceptionTable := #[], attributes := #[] }
def k23m4 : Method := { name := "getChar", desc := "([BI)C", sig := { parameters := [(.array .byte), .int], returnType := some .char }, accessFlags := 8, code := some k23c4 }
def k23c5 : Code := { maxStack := 4, maxLocals := 5, code := jdk_52_method_14_code, exceptionTable := #[], attributes := #[] }
def k23m5 : Method := { name := "toBytes", desc := "([CII)[B", sig := { parameters := [(.array .char), .int, .int], returnType := some (.array .byte) }, accessFlags := 9, code := some k23c5 }
def k23c6 : Code := { maxStack := 2, maxLocals := 2, code := jdk_52_method_15_code, exceptionTable := #[], attributes := #[] }
def k23m6 : Method := { name := "coderFromArrayLen", desc := "([BI)B", sig := { parameters := [(.array .byte), .int], returnType := some .byte }, accessFlags := 8, code := some k23c6 }
def k23c7 : Code := { maxStack := 5, maxLocals := 6, code := jdk_52_method_16_code, exceptionTable := #[], attributes := #[] }
def k23m7 : Method := { name := "compress", desc := "([CII)[B", sig := { parameters := [(.array .char), .int, .int], returnType := some (.array .byte) }, accessFlags := 9, code := some k23c7 }
def k23c8 : Code := { maxStack := 3, maxLocals := 7, code := jdk_52_method_21_code, exceptionTable := #[], attributes := #[] }
def k23m8 : Method := { name := "compress", desc := "([CI[BII)I", sig := { parameters := [(.array .char), .int, (.array .byte), .int, .int], returnType := some .int }, accessFlags := 9, code := some k23c8 }
def k23c9 : Code := { maxStack := 3, maxLocals := 2, code := jdk_52_method_24_code, exceptionTable := #[], attributes := #[] }
def k23m9 : Method := { name := "toBytes", desc := "(C)[B", sig := { parameters := [.char], returnType := some (.array .byte) }, accessFlags := 9, code := some k23c9 }
/-- java/lang/StringUTF16 -/
def k23 : Class := { plain "java/lang/StringUTF16" (some 0) with
  accessFlags := 48
  interfaces := #[]
  cf := some (fileOf pool23 12 #[.nestMembers #[627, 629, 369]] #[{ accessFlags := 0, nameIndex := 9, descriptorIndex := 10, attributes := #[] }, { accessFlags := 9, nameIndex := 109, descriptorIndex := 110, attributes := #[] }, { accessFlags := 9, nameIndex := 15, descriptorIndex := 16, attributes := #[] }, { accessFlags := 8, nameIndex := 113, descriptorIndex := 114, attributes := #[] }, { accessFlags := 8, nameIndex := 73, descriptorIndex := 74, attributes := #[] }, { accessFlags := 9, nameIndex := 121, descriptorIndex := 122, attributes := #[] }, { accessFlags := 8, nameIndex := 261, descriptorIndex := 262, attributes := #[] }, { accessFlags := 9, nameIndex := 117, descriptorIndex := 122, attributes := #[] }, { accessFlags := 9, nameIndex := 117, descriptorIndex := 118, attributes := #[] }, { accessFlags := 9, nameIndex := 121, descriptorIndex := 475, attributes := #[] }] 48 6 #[] #[{ accessFlags := 26, nameIndex := 61, descriptorIndex := 62, attributes := #[] }, { accessFlags := 26, nameIndex := 65, descriptorIndex := 62, attributes := #[] }, { accessFlags := 24, nameIndex := 430, descriptorIndex := 62, attributes := #[] }, { accessFlags := 4120, nameIndex := 46, descriptorIndex := 47, attributes := #[] }])
  fields := #[{ name := "HI_BYTE_SHIFT", type := .int, accessFlags := 26, slot := 0, constantValue := 0 }, { name := "LO_BYTE_SHIFT", type := .int, accessFlags := 26, slot := 1, constantValue := 0 }, { name := "MAX_LENGTH", type := .int, accessFlags := 24, slot := 2, constantValue := 0 }, { name := "$assertionsDisabled", type := .boolean, accessFlags := 4120, slot := 3, constantValue := 0 }]
  methods := #[k23m0, k23m1, k23m2, k23m3, k23m4, k23m5, k23m6, k23m7, k23m8, k23m9]
  instanceTypes := #[]
  staticTypes := #[.int, .int, .int, .boolean]
  resolved := Array.replicate 635 none
  statics := some 4 }

def pool24 : Array CpInfo := pool [(2, .class_ 4), (1, u "java/lang/Object"), (0, u "<init>"), (0, u "()V"), (17, .class_ 26), (1, u "jdk/internal/util/Preconditions"), (6, u "checkIndex"), (21, .class_ 56), (0, u "jdk/internal/util/Preconditions$4"), (57, .class_ 115), (0, u "jdk/internal/util/Preconditions$1"), (7, u "SIOOBE_FORMATTER"), (0, u "Ljava/util/function/BiFunction;"), (0, .class_ 126), (0, u "jdk/internal/util/Preconditions$2"), (3, u "AIOOBE_FORMATTER"), (0, .class_ 132), (0, u "jdk/internal/util/Preconditions$3"), (3, u "IOOBE_FORMATTER"), (41, u "(IILjava/util/function/BiFunction;)I")] 15

def k24m0 : Method := { name := "<init>", desc := "()V", sig := { parameters := [], returnType := none }, accessFlags := 1, code := none }
def k24c1 : Code := { maxStack := 3, maxLocals := 3, code := jdk_41_method_11_code, exceptionTable := #[], attributes := #[] }
def k24m1 : Method := { name := "checkIndex", desc := "(IILjava/util/function/BiFunction;)I", sig := { parameters := [.int, .int, (.object "java/util/function/BiFunction")], returnType := some .int }, accessFlags := 9, code := some k24c1 }
/-- jdk/internal/util/Preconditions -/
def k24 : Class := { plain "jdk/internal/util/Preconditions" (some 0) with
  accessFlags := 33
  interfaces := #[]
  cf := some (fileOf pool24 24 #[.nestMembers #[55, 131, 125, 114]] #[{ accessFlags := 1, nameIndex := 5, descriptorIndex := 6, attributes := #[] }, { accessFlags := 9, nameIndex := 33, descriptorIndex := 178, attributes := #[] }] 33 2 #[] #[{ accessFlags := 25, nameIndex := 123, descriptorIndex := 124, attributes := #[] }, { accessFlags := 25, nameIndex := 130, descriptorIndex := 124, attributes := #[] }, { accessFlags := 25, nameIndex := 136, descriptorIndex := 124, attributes := #[] }])
  fields := #[{ name := "SIOOBE_FORMATTER", type := (.object "java/util/function/BiFunction"), accessFlags := 25, slot := 0, constantValue := 0 }, { name := "AIOOBE_FORMATTER", type := (.object "java/util/function/BiFunction"), accessFlags := 25, slot := 1, constantValue := 0 }, { name := "IOOBE_FORMATTER", type := (.object "java/util/function/BiFunction"), accessFlags := 25, slot := 2, constantValue := 0 }]
  methods := #[k24m0, k24m1]
  instanceTypes := #[]
  staticTypes := #[(.object "java/util/function/BiFunction"), (.object "java/util/function/BiFunction"), (.object "java/util/function/BiFunction")]
  resolved := Array.replicate 194 none
  statics := some 5 }

def pool25 : Array CpInfo := pool [(1, .class_ 2), (0, u "java/lang/Character"), (18, u "value"), (0, u "C"), (19, .class_ 44), (1, u "java/lang/Object"), (3, .class_ 50), (1, u "java/lang/Character$CharacterCache"), (24, .integer 55296), (1, .integer 57344), (3, u "(C)Z"), (202, u "$assertionsDisabled"), (0, u "Z"), (21, .class_ 309), (1, u "java/lang/Character$UnicodeBlock"), (73, u "TYPE"), (0, u "Ljava/lang/Class;"), (0, .class_ 386), (0, u "java/io/Serializable"), (0, .class_ 388), (0, u "java/lang/Comparable"), (0, .class_ 390), (0, u "java/lang/constant/Constable"), (0, u "MIN_RADIX"), (0, u "I"), (2, u "MAX_RADIX"), (1, u "MIN_VALUE"), (1, u "MAX_VALUE"), (3, u "UNASSIGNED"), (0, u "B"), (0, u "UPPERCASE_LETTER"), (1, u "LOWERCASE_LETTER"), (0, u "TITLECASE_LETTER"), (1, u "MODIFIER_LETTER"), (1, u "OTHER_LETTER"), (1, u "NON_SPACING_MARK"), (1, u "ENCLOSING_MARK"), (1, u "COMBINING_SPACING_MARK"), (1, u "DECIMAL_DIGIT_NUMBER"), (1, u "LETTER_NUMBER"), (1, u "OTHER_NUMBER"), (1, u "SPACE_SEPARATOR"), (1, u "LINE_SEPARATOR"), (1, u "PARAGRAPH_SEPARATOR"), (1, u "CONTROL"), (1, u "FORMAT"), (1, u "PRIVATE_USE"), (1, u "SURROGATE"), (1, u "DASH_PUNCTUATION"), (1, u "START_PUNCTUATION"), (1, u "END_PUNCTUATION"), (1, u "CONNECTOR_PUNCTUATION"), (1, u "OTHER_PUNCTUATION"), (1, u "MATH_SYMBOL"), (1, u "CURRENCY_SYMBOL"), (1, u "MODIFIER_SYMBOL"), (1, u "OTHER_SYMBOL"), (1, u "INITIAL_QUOTE_PUNCTUATION"), (1, u "FINAL_QUOTE_PUNCTUATION"), (1, u "ERROR"), (1, u "DIRECTIONALITY_UNDEFINED"), (0, u "DIRECTIONALITY_LEFT_TO_RIGHT"), (0, u "DIRECTIONALITY_RIGHT_TO_LEFT"), (0, u "DIRECTIONALITY_RIGHT_TO_LEFT_ARABIC"), (0, u "DIRECTIONALITY_EUROPEAN_NUMBER"), (0, u "DIRECTIONALITY_EUROPEAN_NUMBER_SEPARATOR"), (0, u "DIRECTIONALITY_EUROPEAN_NUMBER_TERMINATOR"), (0, u "DIRECTIONALITY_ARABIC_NUMBER"), (0, u "DIRECTIONALITY_COMMON_NUMBER_SEPARATOR"), (0, u "DIRECTIONALITY_NONSPACING_MARK"), (0, u "DIRECTIONALITY_BOUNDARY_NEUTRAL"), (0, u "DIRECTIONALITY_PARAGRAPH_SEPARATOR"), (0, u "DIRECTIONALITY_SEGMENT_SEPARATOR"), (0, u "DIRECTIONALITY_WHITESPACE"), (0, u "DIRECTIONALITY_OTHER_NEUTRALS"), (0, u "DIRECTIONALITY_LEFT_TO_RIGHT_EMBEDDING"), (0, u "DIRECTIONALITY_LEFT_TO_RIGHT_OVERRIDE"), (0, u "DIRECTIONALITY_RIGHT_TO_LEFT_EMBEDDING"), (0, u "DIRECTIONALITY_RIGHT_TO_LEFT_OVERRIDE"), (1, u "DIRECTIONALITY_POP_DIRECTIONAL_FORMAT"), (0, u "DIRECTIONALITY_LEFT_TO_RIGHT_ISOLATE"), (0, u "DIRECTIONALITY_RIGHT_TO_LEFT_ISOLATE"), (0, u "DIRECTIONALITY_FIRST_STRONG_ISOLATE"), (0, u "DIRECTIONALITY_POP_DIRECTIONAL_ISOLATE"), (0, u "MIN_HIGH_SURROGATE"), (0, u "MAX_HIGH_SURROGATE"), (1, u "MIN_LOW_SURROGATE"), (0, u "MAX_LOW_SURROGATE"), (1, u "MIN_SURROGATE"), (0, u "MAX_SURROGATE"), (0, u "MIN_SUPPLEMENTARY_CODE_POINT"), (0, u "MIN_CODE_POINT"), (0, u "MAX_CODE_POINT"), (1, u "serialVersionUID"), (0, u "J"), (2, u "SIZE"), (0, u "BYTES"), (24, u "isSurrogate"), (63, .class_ 596), (0, u "java/lang/Character$UnicodeScript"), (0, .class_ 598), (0, u "java/lang/Character$Subset")] 5

def k25c0 : Code := { maxStack := 2, maxLocals := 1, code := jdk_89_method_16_code, exceptionTable := #[], attributes := #[] }
def k25m0 : Method := { name := "isSurrogate", desc := "(C)Z", sig := { parameters := [.char], returnType := some .boolean }, accessFlags := 9, code := some k25c0 }
/-- java/lang/Character -/
def k25 : Class := { plain "java/lang/Character" (some 0) with
  accessFlags := 49
  interfaces := #[2, 3, 5]
  cf := some (fileOf pool25 1 #[.nestMembers #[48, 595, 307, 597]] #[{ accessFlags := 9, nameIndex := 531, descriptorIndex := 81, attributes := #[] }] 49 42 #[385, 387, 389] #[{ accessFlags := 25, nameIndex := 391, descriptorIndex := 392, attributes := #[] }, { accessFlags := 25, nameIndex := 395, descriptorIndex := 392, attributes := #[] }, { accessFlags := 25, nameIndex := 397, descriptorIndex := 22, attributes := #[] }, { accessFlags := 25, nameIndex := 399, descriptorIndex := 22, attributes := #[] }, { accessFlags := 25, nameIndex := 383, descriptorIndex := 384, attributes := #[] }, { accessFlags := 25, nameIndex := 403, descriptorIndex := 404, attributes := #[] }, { accessFlags := 25, nameIndex := 405, descriptorIndex := 404, attributes := #[] }, { accessFlags := 25, nameIndex := 407, descriptorIndex := 404, attributes := #[] }, { accessFlags := 25, nameIndex := 408, descriptorIndex := 404, attributes := #[] }, { accessFlags := 25, nameIndex := 410, descriptorIndex := 404, attributes := #[] }, { accessFlags := 25, nameIndex := 412, descriptorIndex := 404, attributes := #[] }, { accessFlags := 25, nameIndex := 414, descriptorIndex := 404, attributes := #[] }, { accessFlags := 25, nameIndex := 416, descriptorIndex := 404, attributes := #[] }, { accessFlags := 25, nameIndex := 418, descriptorIndex := 404, attributes := #[] }, { accessFlags := 25, nameIndex := 420, descriptorIndex := 404, attributes := #[] }, { accessFlags := 25, nameIndex := 422, descriptorIndex := 404, attributes := #[] }, { accessFlags := 25, nameIndex := 424, descriptorIndex := 404, attributes := #[] }, { accessFlags := 25, nameIndex := 426, descriptorIndex := 404, attributes := #[] }, { accessFlags := 25, nameIndex := 428, descriptorIndex := 404, attributes := #[] }, { accessFlags := 25, nameIndex := 430, descriptorIndex := 404, attributes := #[] }, { accessFlags := 25, nameIndex := 432, descriptorIndex := 404, attributes := #[] }, { accessFlags := 25, nameIndex := 434, descriptorIndex := 404, attributes := #[] }, { accessFlags := 25, nameIndex := 436, descriptorIndex := 404, attributes := #[] }, { accessFlags := 25, nameIndex := 438, descriptorIndex := 404, attributes := #[] }, { accessFlags := 25, nameIndex := 440, descriptorIndex := 404, attributes := #[] }, { accessFlags := 25, nameIndex := 442, descriptorIndex := 404, attributes := #[] }, { accessFlags := 25, nameIndex := 444, descriptorIndex := 404, attributes := #[] }, { accessFlags := 25, nameIndex := 446, descriptorIndex := 404, attributes := #[] }, { accessFlags := 25, nameIndex := 448, descriptorIndex := 404, attributes := #[] }, { accessFlags := 25, nameIndex := 450, descriptorIndex := 404, attributes := #[] }, { accessFlags := 25, nameIndex := 452, descriptorIndex := 404, attributes := #[] }, { accessFlags := 25, nameIndex := 454, descriptorIndex := 404, attributes := #[] }, { accessFlags := 25, nameIndex := 456, descriptorIndex := 404, attributes := #[] }, { accessFlags := 25, nameIndex := 458, descriptorIndex := 404, attributes := #[] }, { accessFlags := 25, nameIndex := 460, descriptorIndex := 404, attributes := #[] }, { accessFlags := 24, nameIndex := 462, descriptorIndex := 392, attributes := #[] }, { accessFlags := 25, nameIndex := 464, descriptorIndex := 404, attributes := #[] }, { accessFlags := 25, nameIndex := 465, descriptorIndex := 404, attributes := #[] }, { accessFlags := 25, nameIndex := 466, descriptorIndex := 404, attributes := #[] }, { accessFlags := 25, nameIndex := 467, descriptorIndex := 404, attributes := #[] }, { accessFlags := 25, nameIndex := 468, descriptorIndex := 404, attributes := #[] }, { accessFlags := 25, nameIndex := 469, descriptorIndex := 404, attributes := #[] }, { accessFlags := 25, nameIndex := 470, descriptorIndex := 404, attributes := #[] }, { accessFlags := 25, nameIndex := 471, descriptorIndex := 404, attributes := #[] }, { accessFlags := 25, nameIndex := 472, descriptorIndex := 404, attributes := #[] }, { accessFlags := 25, nameIndex := 473, descriptorIndex := 404, attributes := #[] }, { accessFlags := 25, nameIndex := 474, descriptorIndex := 404, attributes := #[] }, { accessFlags := 25, nameIndex := 475, descriptorIndex := 404, attributes := #[] }, { accessFlags := 25, nameIndex := 476, descriptorIndex := 404, attributes := #[] }, { accessFlags := 25, nameIndex := 477, descriptorIndex := 404, attributes := #[] }, { accessFlags := 25, nameIndex := 478, descriptorIndex := 404, attributes := #[] }, { accessFlags := 25, nameIndex := 479, descriptorIndex := 404, attributes := #[] }, { accessFlags := 25, nameIndex := 480, descriptorIndex := 404, attributes := #[] }, { accessFlags := 25, nameIndex := 481, descriptorIndex := 404, attributes := #[] }, { accessFlags := 25, nameIndex := 482, descriptorIndex := 404, attributes := #[] }, { accessFlags := 25, nameIndex := 484, descriptorIndex := 404, attributes := #[] }, { accessFlags := 25, nameIndex := 485, descriptorIndex := 404, attributes := #[] }, { accessFlags := 25, nameIndex := 486, descriptorIndex := 404, attributes := #[] }, { accessFlags := 25, nameIndex := 487, descriptorIndex := 404, attributes := #[] }, { accessFlags := 25, nameIndex := 488, descriptorIndex := 404, attributes := #[] }, { accessFlags := 25, nameIndex := 489, descriptorIndex := 22, attributes := #[] }, { accessFlags := 25, nameIndex := 490, descriptorIndex := 22, attributes := #[] }, { accessFlags := 25, nameIndex := 492, descriptorIndex := 22, attributes := #[] }, { accessFlags := 25, nameIndex := 493, descriptorIndex := 22, attributes := #[] }, { accessFlags := 25, nameIndex := 495, descriptorIndex := 22, attributes := #[] }, { accessFlags := 25, nameIndex := 496, descriptorIndex := 22, attributes := #[] }, { accessFlags := 25, nameIndex := 497, descriptorIndex := 392, attributes := #[] }, { accessFlags := 25, nameIndex := 498, descriptorIndex := 392, attributes := #[] }, { accessFlags := 25, nameIndex := 499, descriptorIndex := 392, attributes := #[] }, { accessFlags := 18, nameIndex := 21, descriptorIndex := 22, attributes := #[] }, { accessFlags := 26, nameIndex := 501, descriptorIndex := 502, attributes := #[] }, { accessFlags := 25, nameIndex := 505, descriptorIndex := 392, attributes := #[] }, { accessFlags := 25, nameIndex := 506, descriptorIndex := 392, attributes := #[] }, { accessFlags := 4120, nameIndex := 284, descriptorIndex := 285, attributes := #[] }])
  fields := #[{ name := "MIN_RADIX", type := .int, accessFlags := 25, slot := 0, constantValue := 0 }, { name := "MAX_RADIX", type := .int, accessFlags := 25, slot := 1, constantValue := 0 }, { name := "MIN_VALUE", type := .char, accessFlags := 25, slot := 2, constantValue := 0 }, { name := "MAX_VALUE", type := .char, accessFlags := 25, slot := 3, constantValue := 0 }, { name := "TYPE", type := (.object "java/lang/Class"), accessFlags := 25, slot := 4, constantValue := 0 }, { name := "UNASSIGNED", type := .byte, accessFlags := 25, slot := 5, constantValue := 0 }, { name := "UPPERCASE_LETTER", type := .byte, accessFlags := 25, slot := 6, constantValue := 0 }, { name := "LOWERCASE_LETTER", type := .byte, accessFlags := 25, slot := 7, constantValue := 0 }, { name := "TITLECASE_LETTER", type := .byte, accessFlags := 25, slot := 8, constantValue := 0 }, { name := "MODIFIER_LETTER", type := .byte, accessFlags := 25, slot := 9, constantValue := 0 }, { name := "OTHER_LETTER", type := .byte, accessFlags := 25, slot := 10, constantValue := 0 }, { name := "NON_SPACING_MARK", type := .byte, accessFlags := 25, slot := 11, constantValue := 0 }, { name := "ENCLOSING_MARK", type := .byte, accessFlags := 25, slot := 12, constantValue := 0 }, { name := "COMBINING_SPACING_MARK", type := .byte, accessFlags := 25, slot := 13, constantValue := 0 }, { name := "DECIMAL_DIGIT_NUMBER", type := .byte, accessFlags := 25, slot := 14, constantValue := 0 }, { name := "LETTER_NUMBER", type := .byte, accessFlags := 25, slot := 15, constantValue := 0 }, { name := "OTHER_NUMBER", type := .byte, accessFlags := 25, slot := 16, constantValue := 0 }, { name := "SPACE_SEPARATOR", type := .byte, accessFlags := 25, slot := 17, constantValue := 0 }, { name := "LINE_SEPARATOR", type := .byte, accessFlags := 25, slot := 18, constantValue := 0 }, { name := "PARAGRAPH_SEPARATOR", type := .byte, accessFlags := 25, slot := 19, constantValue := 0 }, { name := "CONTROL", type := .byte, accessFlags := 25, slot := 20, constantValue := 0 }, { name := "FORMAT", type := .byte, accessFlags := 25, slot := 21, constantValue := 0 }, { name := "PRIVATE_USE", type := .byte, accessFlags := 25, slot := 22, constantValue := 0 }, { name := "SURROGATE", type := .byte, accessFlags := 25, slot := 23, constantValue := 0 }, { name := "DASH_PUNCTUATION", type := .byte, accessFlags := 25, slot := 24, constantValue := 0 }, { name := "START_PUNCTUATION", type := .byte, accessFlags := 25, slot := 25, constantValue := 0 }, { name := "END_PUNCTUATION", type := .byte, accessFlags := 25, slot := 26, constantValue := 0 }, { name := "CONNECTOR_PUNCTUATION", type := .byte, accessFlags := 25, slot := 27, constantValue := 0 }, { name := "OTHER_PUNCTUATION", type := .byte, accessFlags := 25, slot := 28, constantValue := 0 }, { name := "MATH_SYMBOL", type := .byte, accessFlags := 25, slot := 29, constantValue := 0 }, { name := "CURRENCY_SYMBOL", type := .byte, accessFlags := 25, slot := 30, constantValue := 0 }, { name := "MODIFIER_SYMBOL", type := .byte, accessFlags := 25, slot := 31, constantValue := 0 }, { name := "OTHER_SYMBOL", type := .byte, accessFlags := 25, slot := 32, constantValue := 0 }, { name := "INITIAL_QUOTE_PUNCTUATION", type := .byte, accessFlags := 25, slot := 33, constantValue := 0 }, { name := "FINAL_QUOTE_PUNCTUATION", type := .byte, accessFlags := 25, slot := 34, constantValue := 0 }, { name := "ERROR", type := .int, accessFlags := 24, slot := 35, constantValue := 0 }, { name := "DIRECTIONALITY_UNDEFINED", type := .byte, accessFlags := 25, slot := 36, constantValue := 0 }, { name := "DIRECTIONALITY_LEFT_TO_RIGHT", type := .byte, accessFlags := 25, slot := 37, constantValue := 0 }, { name := "DIRECTIONALITY_RIGHT_TO_LEFT", type := .byte, accessFlags := 25, slot := 38, constantValue := 0 }, { name := "DIRECTIONALITY_RIGHT_TO_LEFT_ARABIC", type := .byte, accessFlags := 25, slot := 39, constantValue := 0 }, { name := "DIRECTIONALITY_EUROPEAN_NUMBER", type := .byte, accessFlags := 25, slot := 40, constantValue := 0 }, { name := "DIRECTIONALITY_EUROPEAN_NUMBER_SEPARATOR", type := .byte, accessFlags := 25, slot := 41, constantValue := 0 }, { name := "DIRECTIONALITY_EUROPEAN_NUMBER_TERMINATOR", type := .byte, accessFlags := 25, slot := 42, constantValue := 0 }, { name := "DIRECTIONALITY_ARABIC_NUMBER", type := .byte, accessFlags := 25, slot := 43, constantValue := 0 }, { name := "DIRECTIONALITY_COMMON_NUMBER_SEPARATOR", type := .byte, accessFlags := 25, slot := 44, constantValue := 0 }, { name := "DIRECTIONALITY_NONSPACING_MARK", type := .byte, accessFlags := 25, slot := 45, constantValue := 0 }, { name := "DIRECTIONALITY_BOUNDARY_NEUTRAL", type := .byte, accessFlags := 25, slot := 46, constantValue := 0 }, { name := "DIRECTIONALITY_PARAGRAPH_SEPARATOR", type := .byte, accessFlags := 25, slot := 47, constantValue := 0 }, { name := "DIRECTIONALITY_SEGMENT_SEPARATOR", type := .byte, accessFlags := 25, slot := 48, constantValue := 0 }, { name := "DIRECTIONALITY_WHITESPACE", type := .byte, accessFlags := 25, slot := 49, constantValue := 0 }, { name := "DIRECTIONALITY_OTHER_NEUTRALS", type := .byte, accessFlags := 25, slot := 50, constantValue := 0 }, { name := "DIRECTIONALITY_LEFT_TO_RIGHT_EMBEDDING", type := .byte, accessFlags := 25, slot := 51, constantValue := 0 }, { name := "DIRECTIONALITY_LEFT_TO_RIGHT_OVERRIDE", type := .byte, accessFlags := 25, slot := 52, constantValue := 0 }, { name := "DIRECTIONALITY_RIGHT_TO_LEFT_EMBEDDING", type := .byte, accessFlags := 25, slot := 53, constantValue := 0 }, { name := "DIRECTIONALITY_RIGHT_TO_LEFT_OVERRIDE", type := .byte, accessFlags := 25, slot := 54, constantValue := 0 }, { name := "DIRECTIONALITY_POP_DIRECTIONAL_FORMAT", type := .byte, accessFlags := 25, slot := 55, constantValue := 0 }, { name := "DIRECTIONALITY_LEFT_TO_RIGHT_ISOLATE", type := .byte, accessFlags := 25, slot := 56, constantValue := 0 }, { name := "DIRECTIONALITY_RIGHT_TO_LEFT_ISOLATE", type := .byte, accessFlags := 25, slot := 57, constantValue := 0 }, { name := "DIRECTIONALITY_FIRST_STRONG_ISOLATE", type := .byte, accessFlags := 25, slot := 58, constantValue := 0 }, { name := "DIRECTIONALITY_POP_DIRECTIONAL_ISOLATE", type := .byte, accessFlags := 25, slot := 59, constantValue := 0 }, { name := "MIN_HIGH_SURROGATE", type := .char, accessFlags := 25, slot := 60, constantValue := 0 }, { name := "MAX_HIGH_SURROGATE", type := .char, accessFlags := 25, slot := 61, constantValue := 0 }, { name := "MIN_LOW_SURROGATE", type := .char, accessFlags := 25, slot := 62, constantValue := 0 }, { name := "MAX_LOW_SURROGATE", type := .char, accessFlags := 25, slot := 63, constantValue := 0 }, { name := "MIN_SURROGATE", type := .char, accessFlags := 25, slot := 64, constantValue := 0 }, { name := "MAX_SURROGATE", type := .char, accessFlags := 25, slot := 65, constantValue := 0 }, { name := "MIN_SUPPLEMENTARY_CODE_POINT", type := .int, accessFlags := 25, slot := 66, constantValue := 0 }, { name := "MIN_CODE_POINT", type := .int, accessFlags := 25, slot := 67, constantValue := 0 }, { name := "MAX_CODE_POINT", type := .int, accessFlags := 25, slot := 68, constantValue := 0 }, { name := "value", type := .char, accessFlags := 18, slot := 0, constantValue := 0 }, { name := "serialVersionUID", type := .long, accessFlags := 26, slot := 69, constantValue := 0 }, { name := "SIZE", type := .int, accessFlags := 25, slot := 70, constantValue := 0 }, { name := "BYTES", type := .int, accessFlags := 25, slot := 71, constantValue := 0 }, { name := "$assertionsDisabled", type := .boolean, accessFlags := 4120, slot := 72, constantValue := 0 }]
  methods := #[k25m0]
  instanceTypes := #[.char]
  staticTypes := #[.int, .int, .char, .char, (.object "java/lang/Class"), .byte, .byte, .byte, .byte, .byte, .byte, .byte, .byte, .byte, .byte, .byte, .byte, .byte, .byte, .byte, .byte, .byte, .byte, .byte, .byte, .byte, .byte, .byte, .byte, .byte, .byte, .byte, .byte, .byte, .byte, .int, .byte, .byte, .byte, .byte, .byte, .byte, .byte, .byte, .byte, .byte, .byte, .byte, .byte, .byte, .byte, .byte, .byte, .byte, .byte, .byte, .byte, .byte, .byte, .byte, .char, .char, .char, .char, .char, .char, .int, .int, .int, .long, .int, .int, .boolean]
  resolved := Array.replicate 604 none
  statics := none }

def pool26 : Array CpInfo := pool [(9, u "<init>"), (6, .class_ 18), (1, u "java/lang/Object"), (0, u "()V"), (1, .class_ 23), (1, u "jdk/internal/util/ArraysSupport"), (0, u "LOG2_ARRAY_LONG_INDEX_SCALE"), (0, u "I"), (2, u "U"), (0, u "Ljdk/internal/misc/Unsafe;"), (8, u "BIG_ENDIAN"), (0, u "Z"), (8, u "LOG2_BYTE_BIT_SIZE"), (4, u "LOG2_ARRAY_INT_INDEX_SCALE"), (54, u "JLA"), (0, u "Ljdk/internal/access/JavaLangAccess;"), (11, u "LOG2_ARRAY_BOOLEAN_INDEX_SCALE"), (9, u "LOG2_ARRAY_BYTE_INDEX_SCALE"), (5, u "LOG2_ARRAY_CHAR_INDEX_SCALE"), (5, u "LOG2_ARRAY_SHORT_INDEX_SCALE"), (18, u "LOG2_ARRAY_FLOAT_INDEX_SCALE"), (24, u "LOG2_ARRAY_DOUBLE_INDEX_SCALE"), (6, .methodref 195 196), (0, .class_ 197), (0, .nameAndType 198 199), (0, u "java/lang/Math"), (0, u "max"), (0, u "(II)I"), (0, .integer 2147483639), (76, u "T_BOOLEAN"), (2, u "T_CHAR"), (1, u "T_FLOAT"), (1, u "T_DOUBLE"), (1, u "T_BYTE"), (1, u "T_SHORT"), (1, u "T_INT"), (1, u "T_LONG"), (1, u "SOFT_MAX_ARRAY_LENGTH"), (56, u "newLength"), (0, u "(III)I")] 25

def k26m0 : Method := { name := "<init>", desc := "()V", sig := { parameters := [], returnType := none }, accessFlags := 2, code := none }
def k26c1 : Code := { maxStack := 3, maxLocals := 4, code := jdk_48_method_27_code, exceptionTable := #[], attributes := #[] }
def k26m1 : Method := { name := "newLength", desc := "(III)I", sig := { parameters := [.int, .int, .int], returnType := some .int }, accessFlags := 9, code := some k26c1 }
/-- jdk/internal/util/ArraysSupport -/
def k26 : Class := { plain "jdk/internal/util/ArraysSupport" (some 0) with
  accessFlags := 33
  interfaces := #[]
  cf := some (fileOf pool26 21 #[] #[{ accessFlags := 2, nameIndex := 9, descriptorIndex := 19, attributes := #[] }, { accessFlags := 9, nameIndex := 351, descriptorIndex := 352, attributes := #[] }] 33 16 #[] #[{ accessFlags := 24, nameIndex := 28, descriptorIndex := 29, attributes := #[] }, { accessFlags := 26, nameIndex := 38, descriptorIndex := 39, attributes := #[] }, { accessFlags := 25, nameIndex := 121, descriptorIndex := 25, attributes := #[] }, { accessFlags := 25, nameIndex := 131, descriptorIndex := 25, attributes := #[] }, { accessFlags := 25, nameIndex := 137, descriptorIndex := 25, attributes := #[] }, { accessFlags := 25, nameIndex := 143, descriptorIndex := 25, attributes := #[] }, { accessFlags := 25, nameIndex := 53, descriptorIndex := 25, attributes := #[] }, { accessFlags := 25, nameIndex := 24, descriptorIndex := 25, attributes := #[] }, { accessFlags := 25, nameIndex := 162, descriptorIndex := 25, attributes := #[] }, { accessFlags := 25, nameIndex := 187, descriptorIndex := 25, attributes := #[] }, { accessFlags := 26, nameIndex := 48, descriptorIndex := 25, attributes := #[] }, { accessFlags := 25, nameIndex := 277, descriptorIndex := 25, attributes := #[] }, { accessFlags := 25, nameIndex := 280, descriptorIndex := 25, attributes := #[] }, { accessFlags := 25, nameIndex := 282, descriptorIndex := 25, attributes := #[] }, { accessFlags := 25, nameIndex := 284, descriptorIndex := 25, attributes := #[] }, { accessFlags := 25, nameIndex := 286, descriptorIndex := 25, attributes := #[] }, { accessFlags := 25, nameIndex := 288, descriptorIndex := 25, attributes := #[] }, { accessFlags := 25, nameIndex := 290, descriptorIndex := 25, attributes := #[] }, { accessFlags := 25, nameIndex := 292, descriptorIndex := 25, attributes := #[] }, { accessFlags := 26, nameIndex := 108, descriptorIndex := 109, attributes := #[] }, { accessFlags := 25, nameIndex := 294, descriptorIndex := 25, attributes := #[] }])
  fields := #[{ name := "U", type := (.object "jdk/internal/misc/Unsafe"), accessFlags := 24, slot := 0, constantValue := 0 }, { name := "BIG_ENDIAN", type := .boolean, accessFlags := 26, slot := 1, constantValue := 0 }, { name := "LOG2_ARRAY_BOOLEAN_INDEX_SCALE", type := .int, accessFlags := 25, slot := 2, constantValue := 0 }, { name := "LOG2_ARRAY_BYTE_INDEX_SCALE", type := .int, accessFlags := 25, slot := 3, constantValue := 0 }, { name := "LOG2_ARRAY_CHAR_INDEX_SCALE", type := .int, accessFlags := 25, slot := 4, constantValue := 0 }, { name := "LOG2_ARRAY_SHORT_INDEX_SCALE", type := .int, accessFlags := 25, slot := 5, constantValue := 0 }, { name := "LOG2_ARRAY_INT_INDEX_SCALE", type := .int, accessFlags := 25, slot := 6, constantValue := 0 }, { name := "LOG2_ARRAY_LONG_INDEX_SCALE", type := .int, accessFlags := 25, slot := 7, constantValue := 0 }, { name := "LOG2_ARRAY_FLOAT_INDEX_SCALE", type := .int, accessFlags := 25, slot := 8, constantValue := 0 }, { name := "LOG2_ARRAY_DOUBLE_INDEX_SCALE", type := .int, accessFlags := 25, slot := 9, constantValue := 0 }, { name := "LOG2_BYTE_BIT_SIZE", type := .int, accessFlags := 26, slot := 10, constantValue := 0 }, { name := "T_BOOLEAN", type := .int, accessFlags := 25, slot := 11, constantValue := 0 }, { name := "T_CHAR", type := .int, accessFlags := 25, slot := 12, constantValue := 0 }, { name := "T_FLOAT", type := .int, accessFlags := 25, slot := 13, constantValue := 0 }, { name := "T_DOUBLE", type := .int, accessFlags := 25, slot := 14, constantValue := 0 }, { name := "T_BYTE", type := .int, accessFlags := 25, slot := 15, constantValue := 0 }, { name := "T_SHORT", type := .int, accessFlags := 25, slot := 16, constantValue := 0 }, { name := "T_INT", type := .int, accessFlags := 25, slot := 17, constantValue := 0 }, { name := "T_LONG", type := .int, accessFlags := 25, slot := 18, constantValue := 0 }, { name := "JLA", type := (.object "jdk/internal/access/JavaLangAccess"), accessFlags := 26, slot := 19, constantValue := 0 }, { name := "SOFT_MAX_ARRAY_LENGTH", type := .int, accessFlags := 25, slot := 20, constantValue := 0 }]
  methods := #[k26m0, k26m1]
  instanceTypes := #[]
  staticTypes := #[(.object "jdk/internal/misc/Unsafe"), .boolean, .int, .int, .int, .int, .int, .int, .int, .int, .int, .int, .int, .int, .int, .int, .int, .int, .int, (.object "jdk/internal/access/JavaLangAccess"), .int]
  resolved := Array.replicate 378 none
  statics := none }

/-- the primitive byte -/
def k27 : Class := { plain "byte" none with kind := .primitive 'B', accessFlags := 0x411 }
/-- [B -/
def k28 : Class := { plain "[B" (some 0) with kind := .array 27 .byte, interfaces := #[22, 2], accessFlags := 1041 }

/-- the primitive char -/
def k29 : Class := { plain "char" none with kind := .primitive 'C', accessFlags := 0x411 }
/-- [C -/
def k30 : Class := { plain "[C" (some 0) with kind := .array 29 .char, interfaces := #[22, 2], accessFlags := 1041 }

/-- the primitive int -/
def k31 : Class := { plain "int" none with kind := .primitive 'I', accessFlags := 0x411 }
/-- [I -/
def k32 : Class := { plain "[I" (some 0) with kind := .array 31 .int, interfaces := #[22, 2], accessFlags := 1041 }

/-- [Ljava/lang/String; -/
def k33 : Class := { plain "[Ljava/lang/String;" (some 0) with kind := .array 7 (.object "java/lang/String"), interfaces := #[22, 2], accessFlags := 1041 }

def heap : Heap := #[{ cls := 7, slots := #[.long 0, .int 1, .null, .int 0, .null, .int 0, .int 0], vm := .statics 7 },
  { cls := 8, slots := #[.ref 6], vm := .statics 8 },
  { cls := 16, slots := #[.null, .null, .ref 7, .null, .null, .null], vm := .statics 16 },
  { cls := 20, slots := #[.ref 7, .null], vm := .statics 20 },
  { cls := 23, slots := #[.int 0, .int 8, .int 0, .int 1], vm := .statics 23 },
  { cls := 24, slots := #[.null, .null, .null], vm := .statics 24 },
  { cls := 30, slots := #[.int 48, .int 49, .int 50, .int 51, .int 52, .int 53, .int 54, .int 55, .int 56, .int 57, .int 65, .int 66, .int 67, .int 68, .int 69, .int 70], vm := .none },
  { cls := 20, slots := #[.null, .null, .null], vm := .none }]
def classes : Array Class := #[k0, k1, k2, k3, k4, k5, k6, k7, k8, k9, k10, k11, k12, k13, k14, k15, k16, k17, k18, k19, k20, k21, k22, k23, k24, k25, k26, k27, k28, k29, k30, k31, k32, k33]
def interned : List (Array UInt16 × Addr) := []
def slotsUsed : Nat := 42
def theMethod : MethodId := ⟨1, 1⟩
def args0 : Array Value := #[.int 5, .int 5, .int 5, .int 5]
def aboutOver (below : List Frame) : State where
  vm := { classes := classes, interned := interned.toArray }
  heap := heap
  slotsUsed := slotsUsed
  threads := #[{ frames := .invoking theMethod args0 :: below }]
def below0 : List Frame := [.native { method := ⟨0, 0⟩, args := #[] }]
def about1 : State := aboutOver below0
def p0 : Program := .bare "" "" ""
def e0 : Env := launch0.env 0 0 0
theorem w_frames : about1.frames = Frame.invoking theMethod args0 :: below0 := rfl
set_option maxRecDepth 65536 in
theorem w_args : argsFit about1.vm theMethod args0 = true := by decide +kernel
set_option maxRecDepth 65536 in
theorem w_heap : heapFits about1 = true := by decide +kernel
set_option maxRecDepth 65536 in
theorem w_runnable : about1.curStatus? = some .runnable := by decide +kernel
set_option maxRecDepth 65536 in
theorem w_alone : about1.alone = true := by decide +kernel
set_option maxRecDepth 65536 in
theorem w_named : about1.methodNamed? x = some theMethod := by decide +kernel
set_option maxRecDepth 65536 in
theorem w_hears : about1.hears theMethod below0 = true := by decide +kernel
set_option maxRecDepth 65536 in
theorem w_ripe : about1.ripe theMethod args0 below0 = true := by decide +kernel
theorem w_running : about1.status = .running := rfl
set_option maxRecDepth 65536 in
theorem w_room : about1.hasRoom e0.platform room_1 = true :=
  launch0.hasRoom_least _ room_1 (by decide +kernel) (by decide +kernel) (by decide +kernel) (by decide +kernel) (by decide +kernel) (by decide +kernel)
theorem allAtoms_all (ts : List Jvm.Cond) (a : Array Jvm.Value) (st : Jvm.State) : (allAtoms ts).before a st = ts.all (fun c => c.before a st) := by
  induction ts with
  | nil => rfl
  | cons c t ih =>
    show (Jvm.Cond.and c (allAtoms t)).before a st = _
    rw [Jvm.Cond.before_and, ih, List.all_cons]
def words1 : List Jvm.Cond := Jvm.Cond.code x code maxLocals ret :: tables_1
/-- a 'code' word, met by the world's own term for the bytes: nothing is compared byte by byte -/
theorem code_word {y : MethodName} {bytes : ByteArray} {mx : Nat} {rt : Option FieldType} {a : Array Value} {s : State} {m : MethodId} {meth : Method} {c : Code} (h1 : s.methodNamed? y = some m) (h2 : s.vm.method? m = some meth) (h3 : meth.code = some c) (h4 : c.code = bytes)
    (h5 : (c.maxLocals == mx && c.exceptionTable.isEmpty && decide (c.maxStack ≤ mostOperands) && decide (meth.sig.returnType = rt) && !meth.locks && decide (parseMethodDescriptor y.desc = some meth.sig)) = true) : (Jvm.Cond.code y bytes mx rt).before a s = true := by
  simp only [Bool.and_eq_true, beq_iff_eq, Bool.not_eq_true', decide_eq_true_eq] at h5
  obtain ⟨⟨⟨⟨⟨g1, g2⟩, g3⟩, g4⟩, g5⟩, g6⟩ := h5
  simp [Cond.before, Cond.holds, Cond.value, h1, h2, h3, h4, g1, g2, g3, g4, g5, g6]
def isCode : Jvm.Cond → Bool
  | .code _ _ _ _ => true
  | _ => false
theorem all_split {L : List Jvm.Cond} {P : Jvm.Cond → Bool} (h1 : L.all (fun c => isCode c || P c) = true) (h2 : ∀ c ∈ L.filter isCode, P c = true) : L.all P = true := by
  refine List.all_eq_true.mpr fun c hc => ?_
  have h := List.all_eq_true.mp h1 c hc
  rcases Bool.eq_false_or_eq_true (isCode c) with hi | hi
  · exact h2 c (List.mem_filter.mpr ⟨hc, hi⟩)
  · simpa [hi] using h
set_option maxRecDepth 65536 in
theorem w_c0 : (Jvm.Cond.code x code maxLocals ret).before args0 about1 = true := code_word (m := ⟨1, 1⟩) (meth := k1m1) (c := k1c1) (by decide +kernel) rfl rfl rfl (by decide +kernel)
set_option maxRecDepth 65536 in
theorem w_c1 : (Jvm.Cond.code ({ cls := "com/example/cohortwise/cohortwise/http/RequestsPathPinLaw", name := "ch", desc := "(I)C" } : Jvm.MethodName) method_3_code (2 : Nat) (Option.some Jvm.ClassFile.FieldType.char)).before args0 about1 = true := code_word (m := ⟨1, 2⟩) (meth := k1m2) (c := k1c2) (by decide +kernel) rfl rfl rfl (by decide +kernel)
set_option maxRecDepth 65536 in
theorem w_c2 : (Jvm.Cond.code ({ cls := "com/example/cohortwise/cohortwise/http/RequestsPathPinLaw", name := "seg", desc := "(ICC)Ljava/lang/String;" } : Jvm.MethodName) method_4_code (3 : Nat) (Option.some (Jvm.ClassFile.FieldType.object "java/lang/String"))).before args0 about1 = true := code_word (m := ⟨1, 3⟩) (meth := k1m3) (c := k1c3) (by decide +kernel) rfl rfl rfl (by decide +kernel)
set_option maxRecDepth 65536 in
theorem w_c3 : (Jvm.Cond.code ({ cls := "java/lang/String", name := "<init>", desc := "([C)V" } : Jvm.MethodName) jdk_42_method_3_code (2 : Nat) (Option.none : Option Jvm.ClassFile.FieldType)).before args0 about1 = true := code_word (m := ⟨7, 1⟩) (meth := k7m1) (c := k7c1) (by decide +kernel) rfl rfl rfl (by decide +kernel)
set_option maxRecDepth 65536 in
theorem w_c4 : (Jvm.Cond.code ({ cls := "java/lang/String", name := "<init>", desc := "([CIILjava/lang/Void;)V" } : Jvm.MethodName) jdk_42_method_149_code (6 : Nat) (Option.none : Option Jvm.ClassFile.FieldType)).before args0 about1 = true := code_word (m := ⟨7, 12⟩) (meth := k7m12) (c := k7c12) (by decide +kernel) rfl rfl rfl (by decide +kernel)
set_option maxRecDepth 65536 in
theorem w_c5 : (Jvm.Cond.code ({ cls := "java/lang/Object", name := "<init>", desc := "()V" } : Jvm.MethodName) object_method_1_code (1 : Nat) (Option.none : Option Jvm.ClassFile.FieldType)).before args0 about1 = true := code_word (m := ⟨0, 0⟩) (meth := k0m0) (c := k0c0) (by decide +kernel) rfl rfl rfl (by decide +kernel)
set_option maxRecDepth 65536 in
theorem w_c6 : (Jvm.Cond.code ({ cls := "com/example/cohortwise/cohortwise/http/Requests", name := "path", desc := "([Ljava/lang/String;)Ljava/lang/String;" } : Jvm.MethodName) prog_17_method_3_code (10 : Nat) (Option.some (Jvm.ClassFile.FieldType.object "java/lang/String"))).before args0 about1 = true := code_word (m := ⟨8, 1⟩) (meth := k8m1) (c := k8c1) (by decide +kernel) rfl rfl rfl (by decide +kernel)
set_option maxRecDepth 65536 in
theorem w_c7 : (Jvm.Cond.code ({ cls := "java/lang/StringBuilder", name := "<init>", desc := "()V" } : Jvm.MethodName) jdk_67_method_1_code (1 : Nat) (Option.none : Option Jvm.ClassFile.FieldType)).before args0 about1 = true := code_word (m := ⟨11, 0⟩) (meth := k11m0) (c := k11c0) (by decide +kernel) rfl rfl rfl (by decide +kernel)
set_option maxRecDepth 65536 in
theorem w_c8 : (Jvm.Cond.code ({ cls := "java/lang/AbstractStringBuilder", name := "<init>", desc := "(I)V" } : Jvm.MethodName) jdk_68_method_2_code (2 : Nat) (Option.none : Option Jvm.ClassFile.FieldType)).before args0 about1 = true := code_word (m := ⟨10, 1⟩) (meth := k10m1) (c := k10c1) (by decide +kernel) rfl rfl rfl (by decide +kernel)
set_option maxRecDepth 65536 in
theorem w_c9 : (Jvm.Cond.code ({ cls := "java/lang/StringBuilder", name := "toString", desc := "()Ljava/lang/String;" } : Jvm.MethodName) jdk_67_method_42_code (1 : Nat) (Option.some (Jvm.ClassFile.FieldType.object "java/lang/String"))).before args0 about1 = true := code_word (m := ⟨11, 2⟩) (meth := k11m2) (c := k11c2) (by decide +kernel) rfl rfl rfl (by decide +kernel)
set_option maxRecDepth 65536 in
theorem w_c10 : (Jvm.Cond.code ({ cls := "java/lang/String", name := "<init>", desc := "(Ljava/lang/StringBuilder;)V" } : Jvm.MethodName) jdk_42_method_53_code (2 : Nat) (Option.none : Option Jvm.ClassFile.FieldType)).before args0 about1 = true := code_word (m := ⟨7, 5⟩) (meth := k7m5) (c := k7c5) (by decide +kernel) rfl rfl rfl (by decide +kernel)
set_option maxRecDepth 65536 in
theorem w_c11 : (Jvm.Cond.code ({ cls := "java/lang/String", name := "<init>", desc := "(Ljava/lang/AbstractStringBuilder;Ljava/lang/Void;)V" } : Jvm.MethodName) jdk_42_method_150_code (5 : Nat) (Option.none : Option Jvm.ClassFile.FieldType)).before args0 about1 = true := code_word (m := ⟨7, 13⟩) (meth := k7m13) (c := k7c13) (by decide +kernel) rfl rfl rfl (by decide +kernel)
set_option maxRecDepth 65536 in
theorem w_c12 : (Jvm.Cond.code ({ cls := "java/lang/AbstractStringBuilder", name := "getValue", desc := "()[B" } : Jvm.MethodName) jdk_68_method_64_code (1 : Nat) (Option.some (Jvm.ClassFile.FieldType.array Jvm.ClassFile.FieldType.byte))).before args0 about1 = true := code_word (m := ⟨10, 6⟩) (meth := k10m6) (c := k10c6) (by decide +kernel) rfl rfl rfl (by decide +kernel)
set_option maxRecDepth 65536 in
theorem w_c13 : (Jvm.Cond.code ({ cls := "java/lang/StringBuilder", name := "length", desc := "()I" } : Jvm.MethodName) jdk_67_method_93_code (1 : Nat) (Option.some Jvm.ClassFile.FieldType.int)).before args0 about1 = true := code_word (m := ⟨11, 3⟩) (meth := k11m3) (c := k11c3) (by decide +kernel) rfl rfl rfl (by decide +kernel)
set_option maxRecDepth 65536 in
theorem w_c14 : (Jvm.Cond.code ({ cls := "java/lang/AbstractStringBuilder", name := "length", desc := "()I" } : Jvm.MethodName) jdk_68_method_6_code (1 : Nat) (Option.some Jvm.ClassFile.FieldType.int)).before args0 about1 = true := code_word (m := ⟨10, 2⟩) (meth := k10m2) (c := k10c2) (by decide +kernel) rfl rfl rfl (by decide +kernel)
set_option maxRecDepth 65536 in
theorem w_c15 : (Jvm.Cond.code ({ cls := "java/lang/AbstractStringBuilder", name := "isLatin1", desc := "()Z" } : Jvm.MethodName) jdk_68_method_68_code (1 : Nat) (Option.some Jvm.ClassFile.FieldType.boolean)).before args0 about1 = true := code_word (m := ⟨10, 7⟩) (meth := k10m7) (c := k10c7) (by decide +kernel) rfl rfl rfl (by decide +kernel)
set_option maxRecDepth 65536 in
theorem w_c16 : (Jvm.Cond.code ({ cls := "java/util/Arrays", name := "copyOfRange", desc := "([BII)[B" } : Jvm.MethodName) jdk_65_method_132_code (3 : Nat) (Option.some (Jvm.ClassFile.FieldType.array Jvm.ClassFile.FieldType.byte))).before args0 about1 = true := code_word (m := ⟨12, 3⟩) (meth := k12m3) (c := k12c3) (by decide +kernel) rfl rfl rfl (by decide +kernel)
set_option maxRecDepth 65536 in
theorem w_c17 : (Jvm.Cond.code ({ cls := "java/util/Arrays", name := "copyOfRangeByte", desc := "([BII)[B" } : Jvm.MethodName) jdk_65_method_133_code (5 : Nat) (Option.some (Jvm.ClassFile.FieldType.array Jvm.ClassFile.FieldType.byte))).before args0 about1 = true := code_word (m := ⟨12, 4⟩) (meth := k12m4) (c := k12c4) (by decide +kernel) rfl rfl rfl (by decide +kernel)
set_option maxRecDepth 65536 in
theorem w_c18 : (Jvm.Cond.code ({ cls := "java/util/Arrays", name := "checkLength", desc := "(II)V" } : Jvm.MethodName) jdk_65_method_131_code (2 : Nat) (Option.none : Option Jvm.ClassFile.FieldType)).before args0 about1 = true := code_word (m := ⟨12, 2⟩) (meth := k12m2) (c := k12c2) (by decide +kernel) rfl rfl rfl (by decide +kernel)
set_option maxRecDepth 65536 in
theorem w_c19 : (Jvm.Cond.code ({ cls := "java/lang/Math", name := "min", desc := "(II)I" } : Jvm.MethodName) jdk_29_method_69_code (2 : Nat) (Option.some Jvm.ClassFile.FieldType.int)).before args0 about1 = true := code_word (m := ⟨13, 2⟩) (meth := k13m2) (c := k13c2) (by decide +kernel) rfl rfl rfl (by decide +kernel)
set_option maxRecDepth 65536 in
theorem w_c20 : (Jvm.Cond.code ({ cls := "java/lang/String", name := "length", desc := "()I" } : Jvm.MethodName) jdk_42_method_54_code (1 : Nat) (Option.some Jvm.ClassFile.FieldType.int)).before args0 about1 = true := code_word (m := ⟨7, 6⟩) (meth := k7m6) (c := k7c6) (by decide +kernel) rfl rfl rfl (by decide +kernel)
set_option maxRecDepth 65536 in
theorem w_c21 : (Jvm.Cond.code ({ cls := "java/lang/String", name := "coder", desc := "()B" } : Jvm.MethodName) jdk_42_method_152_code (1 : Nat) (Option.some Jvm.ClassFile.FieldType.byte)).before args0 about1 = true := code_word (m := ⟨7, 15⟩) (meth := k7m15) (c := k7c15) (by decide +kernel) rfl rfl rfl (by decide +kernel)
set_option maxRecDepth 65536 in
theorem w_c22 : (Jvm.Cond.code ({ cls := "java/lang/String", name := "valueOf", desc := "(C)Ljava/lang/String;" } : Jvm.MethodName) jdk_42_method_139_code (1 : Nat) (Option.some (Jvm.ClassFile.FieldType.object "java/lang/String"))).before args0 about1 = true := code_word (m := ⟨7, 11⟩) (meth := k7m11) (c := k7c11) (by decide +kernel) rfl rfl rfl (by decide +kernel)
set_option maxRecDepth 65536 in
theorem w_c23 : (Jvm.Cond.code ({ cls := "java/lang/StringLatin1", name := "canEncode", desc := "(C)Z" } : Jvm.MethodName) jdk_43_method_3_code (1 : Nat) (Option.some Jvm.ClassFile.FieldType.boolean)).before args0 about1 = true := code_word (m := ⟨15, 2⟩) (meth := k15m2) (c := k15c2) (by decide +kernel) rfl rfl rfl (by decide +kernel)
set_option maxRecDepth 65536 in
theorem w_c24 : (Jvm.Cond.code ({ cls := "java/lang/StringLatin1", name := "toBytes", desc := "(C)[B" } : Jvm.MethodName) jdk_43_method_46_code (1 : Nat) (Option.some (Jvm.ClassFile.FieldType.array Jvm.ClassFile.FieldType.byte))).before args0 about1 = true := code_word (m := ⟨15, 6⟩) (meth := k15m6) (c := k15c6) (by decide +kernel) rfl rfl rfl (by decide +kernel)
set_option maxRecDepth 65536 in
theorem w_c25 : (Jvm.Cond.code ({ cls := "java/lang/String", name := "<init>", desc := "([BB)V" } : Jvm.MethodName) jdk_42_method_151_code (3 : Nat) (Option.none : Option Jvm.ClassFile.FieldType)).before args0 about1 = true := code_word (m := ⟨7, 14⟩) (meth := k7m14) (c := k7c14) (by decide +kernel) rfl rfl rfl (by decide +kernel)
set_option maxRecDepth 65536 in
theorem w_c26 : (Jvm.Cond.code ({ cls := "java/lang/StringBuilder", name := "append", desc := "(C)Ljava/lang/StringBuilder;" } : Jvm.MethodName) jdk_67_method_14_code (2 : Nat) (Option.some (Jvm.ClassFile.FieldType.object "java/lang/StringBuilder"))).before args0 about1 = true := code_word (m := ⟨11, 1⟩) (meth := k11m1) (c := k11c1) (by decide +kernel) rfl rfl rfl (by decide +kernel)
set_option maxRecDepth 65536 in
theorem w_c27 : (Jvm.Cond.code ({ cls := "java/lang/AbstractStringBuilder", name := "append", desc := "(C)Ljava/lang/AbstractStringBuilder;" } : Jvm.MethodName) jdk_68_method_31_code (2 : Nat) (Option.some (Jvm.ClassFile.FieldType.object "java/lang/AbstractStringBuilder"))).before args0 about1 = true := code_word (m := ⟨10, 5⟩) (meth := k10m5) (c := k10c5) (by decide +kernel) rfl rfl rfl (by decide +kernel)
set_option maxRecDepth 65536 in
theorem w_c28 : (Jvm.Cond.code ({ cls := "java/lang/AbstractStringBuilder", name := "ensureCapacityInternal", desc := "(I)V" } : Jvm.MethodName) jdk_68_method_9_code (3 : Nat) (Option.none : Option Jvm.ClassFile.FieldType)).before args0 about1 = true := code_word (m := ⟨10, 3⟩) (meth := k10m3) (c := k10c3) (by decide +kernel) rfl rfl rfl (by decide +kernel)
set_option maxRecDepth 65536 in
theorem w_c29 : (Jvm.Cond.code ({ cls := "java/lang/String", name := "getBytes", desc := "(Ljava/nio/charset/Charset;)[B" } : Jvm.MethodName) jdk_42_method_64_code (2 : Nat) (Option.some (Jvm.ClassFile.FieldType.array Jvm.ClassFile.FieldType.byte))).before args0 about1 = true := code_word (m := ⟨7, 8⟩) (meth := k7m8) (c := k7c8) (by decide +kernel) rfl rfl rfl (by decide +kernel)
set_option maxRecDepth 65536 in
theorem w_c30 : (Jvm.Cond.code ({ cls := "java/lang/String", name := "encode", desc := "(Ljava/nio/charset/Charset;B[B)[B" } : Jvm.MethodName) jdk_42_method_18_code (3 : Nat) (Option.some (Jvm.ClassFile.FieldType.array Jvm.ClassFile.FieldType.byte))).before args0 about1 = true := code_word (m := ⟨7, 2⟩) (meth := k7m2) (c := k7c2) (by decide +kernel) rfl rfl rfl (by decide +kernel)
set_option maxRecDepth 65536 in
theorem w_c31 : (Jvm.Cond.code ({ cls := "java/lang/String", name := "encodeUTF8", desc := "(B[BZ)[B" } : Jvm.MethodName) jdk_42_method_46_code (9 : Nat) (Option.some (Jvm.ClassFile.FieldType.array Jvm.ClassFile.FieldType.byte))).before args0 about1 = true := code_word (m := ⟨7, 3⟩) (meth := k7m3) (c := k7c3) (by decide +kernel) rfl rfl rfl (by decide +kernel)
set_option maxRecDepth 65536 in
theorem w_c32 : (Jvm.Cond.code ({ cls := "java/lang/StringCoding", name := "hasNegatives", desc := "([BII)Z" } : Jvm.MethodName) jdk_123_method_2_code (3 : Nat) (Option.some Jvm.ClassFile.FieldType.boolean)).before args0 about1 = true := code_word (m := ⟨21, 1⟩) (meth := k21m1) (c := k21c1) (by decide +kernel) rfl rfl rfl (by decide +kernel)
set_option maxRecDepth 65536 in
theorem w_c33 : (Jvm.Cond.code ({ cls := "java/lang/StringCoding", name := "countPositives", desc := "([BII)I" } : Jvm.MethodName) jdk_123_method_3_code (5 : Nat) (Option.some Jvm.ClassFile.FieldType.int)).before args0 about1 = true := code_word (m := ⟨21, 2⟩) (meth := k21m2) (c := k21c2) (by decide +kernel) rfl rfl rfl (by decide +kernel)
set_option maxRecDepth 65536 in
theorem w_c34 : (Jvm.Cond.code ({ cls := "java/lang/StringUTF16", name := "newBytesFor", desc := "(I)[B" } : Jvm.MethodName) jdk_52_method_2_code (1 : Nat) (Option.some (Jvm.ClassFile.FieldType.array Jvm.ClassFile.FieldType.byte))).before args0 about1 = true := code_word (m := ⟨23, 1⟩) (meth := k23m1) (c := k23c1) (by decide +kernel) rfl rfl rfl (by decide +kernel)
set_option maxRecDepth 65536 in
theorem w_c35 : (Jvm.Cond.code ({ cls := "java/lang/StringUTF16", name := "newBytesLength", desc := "(I)I" } : Jvm.MethodName) jdk_52_method_3_code (1 : Nat) (Option.some Jvm.ClassFile.FieldType.int)).before args0 about1 = true := code_word (m := ⟨23, 2⟩) (meth := k23m2) (c := k23c2) (by decide +kernel) rfl rfl rfl (by decide +kernel)
set_option maxRecDepth 65536 in
theorem w_c36 : (Jvm.Cond.code ({ cls := "java/lang/String", name := "indexOf", desc := "(I)I" } : Jvm.MethodName) jdk_42_method_79_code (2 : Nat) (Option.some Jvm.ClassFile.FieldType.int)).before args0 about1 = true := code_word (m := ⟨7, 9⟩) (meth := k7m9) (c := k7c9) (by decide +kernel) rfl rfl rfl (by decide +kernel)
set_option maxRecDepth 65536 in
theorem w_c37 : (Jvm.Cond.code ({ cls := "java/lang/String", name := "indexOf", desc := "(II)I" } : Jvm.MethodName) jdk_42_method_80_code (3 : Nat) (Option.some Jvm.ClassFile.FieldType.int)).before args0 about1 = true := code_word (m := ⟨7, 10⟩) (meth := k7m10) (c := k7c10) (by decide +kernel) rfl rfl rfl (by decide +kernel)
set_option maxRecDepth 65536 in
theorem w_c38 : (Jvm.Cond.code ({ cls := "java/lang/String", name := "isLatin1", desc := "()Z" } : Jvm.MethodName) jdk_42_method_154_code (1 : Nat) (Option.some Jvm.ClassFile.FieldType.boolean)).before args0 about1 = true := code_word (m := ⟨7, 16⟩) (meth := k7m16) (c := k7c16) (by decide +kernel) rfl rfl rfl (by decide +kernel)
set_option maxRecDepth 65536 in
theorem w_c39 : (Jvm.Cond.code ({ cls := "java/lang/StringLatin1", name := "indexOf", desc := "([BIII)I" } : Jvm.MethodName) jdk_43_method_22_code (4 : Nat) (Option.some Jvm.ClassFile.FieldType.int)).before args0 about1 = true := code_word (m := ⟨15, 4⟩) (meth := k15m4) (c := k15c4) (by decide +kernel) rfl rfl rfl (by decide +kernel)
set_option maxRecDepth 65536 in
theorem w_c40 : (Jvm.Cond.code ({ cls := "java/lang/StringLatin1", name := "canEncode", desc := "(I)Z" } : Jvm.MethodName) jdk_43_method_4_code (1 : Nat) (Option.some Jvm.ClassFile.FieldType.boolean)).before args0 about1 = true := code_word (m := ⟨15, 3⟩) (meth := k15m3) (c := k15c3) (by decide +kernel) rfl rfl rfl (by decide +kernel)
set_option maxRecDepth 65536 in
theorem w_c41 : (Jvm.Cond.code ({ cls := "com/example/cohortwise/cohortwise/http/RequestsPathPinLaw", name := "segChk", desc := "(Ljava/lang/String;IICC)I" } : Jvm.MethodName) method_9_code (6 : Nat) (Option.some Jvm.ClassFile.FieldType.int)).before args0 about1 = true := code_word (m := ⟨1, 8⟩) (meth := k1m8) (c := k1c8) (by decide +kernel) rfl rfl rfl (by decide +kernel)
set_option maxRecDepth 65536 in
theorem w_c42 : (Jvm.Cond.code ({ cls := "java/lang/String", name := "charAt", desc := "(I)C" } : Jvm.MethodName) jdk_42_method_56_code (2 : Nat) (Option.some Jvm.ClassFile.FieldType.char)).before args0 about1 = true := code_word (m := ⟨7, 7⟩) (meth := k7m7) (c := k7c7) (by decide +kernel) rfl rfl rfl (by decide +kernel)
set_option maxRecDepth 65536 in
theorem w_c43 : (Jvm.Cond.code ({ cls := "java/lang/StringLatin1", name := "charAt", desc := "([BI)C" } : Jvm.MethodName) jdk_43_method_2_code (2 : Nat) (Option.some Jvm.ClassFile.FieldType.char)).before args0 about1 = true := code_word (m := ⟨15, 1⟩) (meth := k15m1) (c := k15c1) (by decide +kernel) rfl rfl rfl (by decide +kernel)
set_option maxRecDepth 65536 in
theorem w_c44 : (Jvm.Cond.code ({ cls := "java/lang/String", name := "checkIndex", desc := "(II)V" } : Jvm.MethodName) jdk_42_method_155_code (2 : Nat) (Option.none : Option Jvm.ClassFile.FieldType)).before args0 about1 = true := code_word (m := ⟨7, 17⟩) (meth := k7m17) (c := k7c17) (by decide +kernel) rfl rfl rfl (by decide +kernel)
set_option maxRecDepth 65536 in
theorem w_c45 : (Jvm.Cond.code ({ cls := "jdk/internal/util/Preconditions", name := "checkIndex", desc := "(IILjava/util/function/BiFunction;)I" } : Jvm.MethodName) jdk_41_method_11_code (3 : Nat) (Option.some Jvm.ClassFile.FieldType.int)).before args0 about1 = true := code_word (m := ⟨24, 1⟩) (meth := k24m1) (c := k24c1) (by decide +kernel) rfl rfl rfl (by decide +kernel)
set_option maxRecDepth 65536 in
theorem w_c46 : (Jvm.Cond.code ({ cls := "com/example/cohortwise/cohortwise/http/RequestsPathPinLaw", name := "one", desc := "(Ljava/lang/String;II)I" } : Jvm.MethodName) method_8_code (3 : Nat) (Option.some Jvm.ClassFile.FieldType.int)).before args0 about1 = true := code_word (m := ⟨1, 7⟩) (meth := k1m7) (c := k1c7) (by decide +kernel) rfl rfl rfl (by decide +kernel)
set_option maxRecDepth 65536 in
theorem w_c47 : (Jvm.Cond.code ({ cls := "com/example/cohortwise/cohortwise/http/RequestsPathPinLaw", name := "esc", desc := "(Ljava/lang/String;II)I" } : Jvm.MethodName) method_7_code (3 : Nat) (Option.some Jvm.ClassFile.FieldType.int)).before args0 about1 = true := code_word (m := ⟨1, 6⟩) (meth := k1m6) (c := k1c6) (by decide +kernel) rfl rfl rfl (by decide +kernel)
set_option maxRecDepth 65536 in
theorem w_c48 : (Jvm.Cond.code ({ cls := "com/example/cohortwise/cohortwise/http/RequestsPathPinLaw", name := "hex", desc := "(I)C" } : Jvm.MethodName) method_5_code (1 : Nat) (Option.some Jvm.ClassFile.FieldType.char)).before args0 about1 = true := code_word (m := ⟨1, 4⟩) (meth := k1m4) (c := k1c4) (by decide +kernel) rfl rfl rfl (by decide +kernel)
set_option maxRecDepth 65536 in
theorem w_c49 : (Jvm.Cond.code ({ cls := "java/lang/StringUTF16", name := "compress", desc := "([CII)[B" } : Jvm.MethodName) jdk_52_method_16_code (6 : Nat) (Option.some (Jvm.ClassFile.FieldType.array Jvm.ClassFile.FieldType.byte))).before args0 about1 = true := code_word (m := ⟨23, 7⟩) (meth := k23m7) (c := k23c7) (by decide +kernel) rfl rfl rfl (by decide +kernel)
set_option maxRecDepth 65536 in
theorem w_c50 : (Jvm.Cond.code ({ cls := "java/lang/StringUTF16", name := "compress", desc := "([CI[BII)I" } : Jvm.MethodName) jdk_52_method_21_code (7 : Nat) (Option.some Jvm.ClassFile.FieldType.int)).before args0 about1 = true := code_word (m := ⟨23, 8⟩) (meth := k23m8) (c := k23c8) (by decide +kernel) rfl rfl rfl (by decide +kernel)
set_option maxRecDepth 65536 in
theorem w_c51 : (Jvm.Cond.code ({ cls := "java/lang/StringUTF16", name := "toBytes", desc := "([CII)[B" } : Jvm.MethodName) jdk_52_method_14_code (5 : Nat) (Option.some (Jvm.ClassFile.FieldType.array Jvm.ClassFile.FieldType.byte))).before args0 about1 = true := code_word (m := ⟨23, 5⟩) (meth := k23m5) (c := k23c5) (by decide +kernel) rfl rfl rfl (by decide +kernel)
set_option maxRecDepth 65536 in
theorem w_c52 : (Jvm.Cond.code ({ cls := "java/lang/StringUTF16", name := "putChar", desc := "([BII)V" } : Jvm.MethodName) jdk_52_method_4_code (3 : Nat) (Option.none : Option Jvm.ClassFile.FieldType)).before args0 about1 = true := code_word (m := ⟨23, 3⟩) (meth := k23m3) (c := k23c3) (by decide +kernel) rfl rfl rfl (by decide +kernel)
set_option maxRecDepth 65536 in
theorem w_c53 : (Jvm.Cond.code ({ cls := "java/lang/StringUTF16", name := "getChar", desc := "([BI)C" } : Jvm.MethodName) jdk_52_method_5_code (2 : Nat) (Option.some Jvm.ClassFile.FieldType.char)).before args0 about1 = true := code_word (m := ⟨23, 4⟩) (meth := k23m4) (c := k23c4) (by decide +kernel) rfl rfl rfl (by decide +kernel)
set_option maxRecDepth 65536 in
theorem w_c54 : (Jvm.Cond.code ({ cls := "java/lang/StringUTF16", name := "coderFromArrayLen", desc := "([BI)B" } : Jvm.MethodName) jdk_52_method_15_code (2 : Nat) (Option.some Jvm.ClassFile.FieldType.byte)).before args0 about1 = true := code_word (m := ⟨23, 6⟩) (meth := k23m6) (c := k23c6) (by decide +kernel) rfl rfl rfl (by decide +kernel)
set_option maxRecDepth 65536 in
theorem w_c55 : (Jvm.Cond.code ({ cls := "java/lang/String", name := "encodeUTF8_UTF16", desc := "([BZ)[B" } : Jvm.MethodName) jdk_42_method_47_code (9 : Nat) (Option.some (Jvm.ClassFile.FieldType.array Jvm.ClassFile.FieldType.byte))).before args0 about1 = true := code_word (m := ⟨7, 4⟩) (meth := k7m4) (c := k7c4) (by decide +kernel) rfl rfl rfl (by decide +kernel)
set_option maxRecDepth 65536 in
theorem w_c56 : (Jvm.Cond.code ({ cls := "java/lang/Character", name := "isSurrogate", desc := "(C)Z" } : Jvm.MethodName) jdk_89_method_16_code (1 : Nat) (Option.some Jvm.ClassFile.FieldType.boolean)).before args0 about1 = true := code_word (m := ⟨25, 0⟩) (meth := k25m0) (c := k25c0) (by decide +kernel) rfl rfl rfl (by decide +kernel)
set_option maxRecDepth 65536 in
theorem w_c57 : (Jvm.Cond.code ({ cls := "java/lang/AbstractStringBuilder", name := "newCapacity", desc := "(I)I" } : Jvm.MethodName) jdk_68_method_10_code (6 : Nat) (Option.some Jvm.ClassFile.FieldType.int)).before args0 about1 = true := code_word (m := ⟨10, 4⟩) (meth := k10m4) (c := k10c4) (by decide +kernel) rfl rfl rfl (by decide +kernel)
set_option maxRecDepth 65536 in
theorem w_c58 : (Jvm.Cond.code ({ cls := "jdk/internal/util/ArraysSupport", name := "newLength", desc := "(III)I" } : Jvm.MethodName) jdk_48_method_27_code (4 : Nat) (Option.some Jvm.ClassFile.FieldType.int)).before args0 about1 = true := code_word (m := ⟨26, 1⟩) (meth := k26m1) (c := k26c1) (by decide +kernel) rfl rfl rfl (by decide +kernel)
set_option maxRecDepth 65536 in
theorem w_c59 : (Jvm.Cond.code ({ cls := "java/lang/Math", name := "max", desc := "(II)I" } : Jvm.MethodName) jdk_29_method_65_code (2 : Nat) (Option.some Jvm.ClassFile.FieldType.int)).before args0 about1 = true := code_word (m := ⟨13, 1⟩) (meth := k13m1) (c := k13c1) (by decide +kernel) rfl rfl rfl (by decide +kernel)
set_option maxRecDepth 65536 in
theorem w_c60 : (Jvm.Cond.code ({ cls := "java/util/Arrays", name := "copyOf", desc := "([BI)[B" } : Jvm.MethodName) jdk_65_method_121_code (3 : Nat) (Option.some (Jvm.ClassFile.FieldType.array Jvm.ClassFile.FieldType.byte))).before args0 about1 = true := code_word (m := ⟨12, 1⟩) (meth := k12m1) (c := k12c1) (by decide +kernel) rfl rfl rfl (by decide +kernel)
set_option maxRecDepth 65536 in
theorem w_c61 : (Jvm.Cond.code ({ cls := "java/lang/StringLatin1", name := "indexOfChar", desc := "([BIII)I" } : Jvm.MethodName) jdk_43_method_23_code (6 : Nat) (Option.some Jvm.ClassFile.FieldType.int)).before args0 about1 = true := code_word (m := ⟨15, 5⟩) (meth := k15m5) (c := k15c5) (by decide +kernel) rfl rfl rfl (by decide +kernel)
set_option maxRecDepth 65536 in
theorem w_c62 : (Jvm.Cond.code ({ cls := "com/example/cohortwise/cohortwise/http/RequestsPathPinLaw", name := "unreserved", desc := "(I)Z" } : Jvm.MethodName) method_6_code (1 : Nat) (Option.some Jvm.ClassFile.FieldType.boolean)).before args0 about1 = true := code_word (m := ⟨1, 5⟩) (meth := k1m5) (c := k1c5) (by decide +kernel) rfl rfl rfl (by decide +kernel)
set_option maxRecDepth 65536 in
theorem w_c63 : (Jvm.Cond.code ({ cls := "java/lang/StringUTF16", name := "toBytes", desc := "(C)[B" } : Jvm.MethodName) jdk_52_method_24_code (2 : Nat) (Option.some (Jvm.ClassFile.FieldType.array Jvm.ClassFile.FieldType.byte))).before args0 about1 = true := code_word (m := ⟨23, 9⟩) (meth := k23m9) (c := k23c9) (by decide +kernel) rfl rfl rfl (by decide +kernel)
def codes1 : List Jvm.Cond := [Jvm.Cond.code x code maxLocals ret, Jvm.Cond.code ({ cls := "com/example/cohortwise/cohortwise/http/RequestsPathPinLaw", name := "ch", desc := "(I)C" } : Jvm.MethodName) method_3_code (2 : Nat) (Option.some Jvm.ClassFile.FieldType.char), Jvm.Cond.code ({ cls := "com/example/cohortwise/cohortwise/http/RequestsPathPinLaw", name := "seg", desc := "(ICC)Ljava/lang/String;" } : Jvm.MethodName) method_4_code (3 : Nat) (Option.some (Jvm.ClassFile.FieldType.object "java/lang/String")), Jvm.Cond.code ({ cls := "java/lang/String", name := "<init>", desc := "([C)V" } : Jvm.MethodName) jdk_42_method_3_code (2 : Nat) (Option.none : Option Jvm.ClassFile.FieldType), Jvm.Cond.code ({ cls := "java/lang/String", name := "<init>", desc := "([CIILjava/lang/Void;)V" } : Jvm.MethodName) jdk_42_method_149_code (6 : Nat) (Option.none : Option Jvm.ClassFile.FieldType), Jvm.Cond.code ({ cls := "java/lang/Object", name := "<init>", desc := "()V" } : Jvm.MethodName) object_method_1_code (1 : Nat) (Option.none : Option Jvm.ClassFile.FieldType), Jvm.Cond.code ({ cls := "com/example/cohortwise/cohortwise/http/Requests", name := "path", desc := "([Ljava/lang/String;)Ljava/lang/String;" } : Jvm.MethodName) prog_17_method_3_code (10 : Nat) (Option.some (Jvm.ClassFile.FieldType.object "java/lang/String")), Jvm.Cond.code ({ cls := "java/lang/StringBuilder", name := "<init>", desc := "()V" } : Jvm.MethodName) jdk_67_method_1_code (1 : Nat) (Option.none : Option Jvm.ClassFile.FieldType), Jvm.Cond.code ({ cls := "java/lang/AbstractStringBuilder", name := "<init>", desc := "(I)V" } : Jvm.MethodName) jdk_68_method_2_code (2 : Nat) (Option.none : Option Jvm.ClassFile.FieldType), Jvm.Cond.code ({ cls := "java/lang/StringBuilder", name := "toString", desc := "()Ljava/lang/String;" } : Jvm.MethodName) jdk_67_method_42_code (1 : Nat) (Option.some (Jvm.ClassFile.FieldType.object "java/lang/String")), Jvm.Cond.code ({ cls := "java/lang/String", name := "<init>", desc := "(Ljava/lang/StringBuilder;)V" } : Jvm.MethodName) jdk_42_method_53_code (2 : Nat) (Option.none : Option Jvm.ClassFile.FieldType), Jvm.Cond.code ({ cls := "java/lang/String", name := "<init>", desc := "(Ljava/lang/AbstractStringBuilder;Ljava/lang/Void;)V" } : Jvm.MethodName) jdk_42_method_150_code (5 : Nat) (Option.none : Option Jvm.ClassFile.FieldType), Jvm.Cond.code ({ cls := "java/lang/AbstractStringBuilder", name := "getValue", desc := "()[B" } : Jvm.MethodName) jdk_68_method_64_code (1 : Nat) (Option.some (Jvm.ClassFile.FieldType.array Jvm.ClassFile.FieldType.byte)), Jvm.Cond.code ({ cls := "java/lang/StringBuilder", name := "length", desc := "()I" } : Jvm.MethodName) jdk_67_method_93_code (1 : Nat) (Option.some Jvm.ClassFile.FieldType.int), Jvm.Cond.code ({ cls := "java/lang/AbstractStringBuilder", name := "length", desc := "()I" } : Jvm.MethodName) jdk_68_method_6_code (1 : Nat) (Option.some Jvm.ClassFile.FieldType.int), Jvm.Cond.code ({ cls := "java/lang/AbstractStringBuilder", name := "isLatin1", desc := "()Z" } : Jvm.MethodName) jdk_68_method_68_code (1 : Nat) (Option.some Jvm.ClassFile.FieldType.boolean), Jvm.Cond.code ({ cls := "java/util/Arrays", name := "copyOfRange", desc := "([BII)[B" } : Jvm.MethodName) jdk_65_method_132_code (3 : Nat) (Option.some (Jvm.ClassFile.FieldType.array Jvm.ClassFile.FieldType.byte)), Jvm.Cond.code ({ cls := "java/util/Arrays", name := "copyOfRangeByte", desc := "([BII)[B" } : Jvm.MethodName) jdk_65_method_133_code (5 : Nat) (Option.some (Jvm.ClassFile.FieldType.array Jvm.ClassFile.FieldType.byte)), Jvm.Cond.code ({ cls := "java/util/Arrays", name := "checkLength", desc := "(II)V" } : Jvm.MethodName) jdk_65_method_131_code (2 : Nat) (Option.none : Option Jvm.ClassFile.FieldType), Jvm.Cond.code ({ cls := "java/lang/Math", name := "min", desc := "(II)I" } : Jvm.MethodName) jdk_29_method_69_code (2 : Nat) (Option.some Jvm.ClassFile.FieldType.int), Jvm.Cond.code ({ cls := "java/lang/String", name := "length", desc := "()I" } : Jvm.MethodName) jdk_42_method_54_code (1 : Nat) (Option.some Jvm.ClassFile.FieldType.int), Jvm.Cond.code ({ cls := "java/lang/String", name := "coder", desc := "()B" } : Jvm.MethodName) jdk_42_method_152_code (1 : Nat) (Option.some Jvm.ClassFile.FieldType.byte), Jvm.Cond.code ({ cls := "java/lang/String", name := "valueOf", desc := "(C)Ljava/lang/String;" } : Jvm.MethodName) jdk_42_method_139_code (1 : Nat) (Option.some (Jvm.ClassFile.FieldType.object "java/lang/String")), Jvm.Cond.code ({ cls := "java/lang/StringLatin1", name := "canEncode", desc := "(C)Z" } : Jvm.MethodName) jdk_43_method_3_code (1 : Nat) (Option.some Jvm.ClassFile.FieldType.boolean), Jvm.Cond.code ({ cls := "java/lang/StringLatin1", name := "toBytes", desc := "(C)[B" } : Jvm.MethodName) jdk_43_method_46_code (1 : Nat) (Option.some (Jvm.ClassFile.FieldType.array Jvm.ClassFile.FieldType.byte)), Jvm.Cond.code ({ cls := "java/lang/String", name := "<init>", desc := "([BB)V" } : Jvm.MethodName) jdk_42_method_151_code (3 : Nat) (Option.none : Option Jvm.ClassFile.FieldType), Jvm.Cond.code ({ cls := "java/lang/StringBuilder", name := "append", desc := "(C)Ljava/lang/StringBuilder;" } : Jvm.MethodName) jdk_67_method_14_code (2 : Nat) (Option.some (Jvm.ClassFile.FieldType.object "java/lang/StringBuilder")), Jvm.Cond.code ({ cls := "java/lang/AbstractStringBuilder", name := "append", desc := "(C)Ljava/lang/AbstractStringBuilder;" } : Jvm.MethodName) jdk_68_method_31_code (2 : Nat) (Option.some (Jvm.ClassFile.FieldType.object "java/lang/AbstractStringBuilder")), Jvm.Cond.code ({ cls := "java/lang/AbstractStringBuilder", name := "ensureCapacityInternal", desc := "(I)V" } : Jvm.MethodName) jdk_68_method_9_code (3 : Nat) (Option.none : Option Jvm.ClassFile.FieldType), Jvm.Cond.code ({ cls := "java/lang/String", name := "getBytes", desc := "(Ljava/nio/charset/Charset;)[B" } : Jvm.MethodName) jdk_42_method_64_code (2 : Nat) (Option.some (Jvm.ClassFile.FieldType.array Jvm.ClassFile.FieldType.byte)), Jvm.Cond.code ({ cls := "java/lang/String", name := "encode", desc := "(Ljava/nio/charset/Charset;B[B)[B" } : Jvm.MethodName) jdk_42_method_18_code (3 : Nat) (Option.some (Jvm.ClassFile.FieldType.array Jvm.ClassFile.FieldType.byte)), Jvm.Cond.code ({ cls := "java/lang/String", name := "encodeUTF8", desc := "(B[BZ)[B" } : Jvm.MethodName) jdk_42_method_46_code (9 : Nat) (Option.some (Jvm.ClassFile.FieldType.array Jvm.ClassFile.FieldType.byte)), Jvm.Cond.code ({ cls := "java/lang/StringCoding", name := "hasNegatives", desc := "([BII)Z" } : Jvm.MethodName) jdk_123_method_2_code (3 : Nat) (Option.some Jvm.ClassFile.FieldType.boolean), Jvm.Cond.code ({ cls := "java/lang/StringCoding", name := "countPositives", desc := "([BII)I" } : Jvm.MethodName) jdk_123_method_3_code (5 : Nat) (Option.some Jvm.ClassFile.FieldType.int), Jvm.Cond.code ({ cls := "java/lang/StringUTF16", name := "newBytesFor", desc := "(I)[B" } : Jvm.MethodName) jdk_52_method_2_code (1 : Nat) (Option.some (Jvm.ClassFile.FieldType.array Jvm.ClassFile.FieldType.byte)), Jvm.Cond.code ({ cls := "java/lang/StringUTF16", name := "newBytesLength", desc := "(I)I" } : Jvm.MethodName) jdk_52_method_3_code (1 : Nat) (Option.some Jvm.ClassFile.FieldType.int), Jvm.Cond.code ({ cls := "java/lang/String", name := "indexOf", desc := "(I)I" } : Jvm.MethodName) jdk_42_method_79_code (2 : Nat) (Option.some Jvm.ClassFile.FieldType.int), Jvm.Cond.code ({ cls := "java/lang/String", name := "indexOf", desc := "(II)I" } : Jvm.MethodName) jdk_42_method_80_code (3 : Nat) (Option.some Jvm.ClassFile.FieldType.int), Jvm.Cond.code ({ cls := "java/lang/String", name := "isLatin1", desc := "()Z" } : Jvm.MethodName) jdk_42_method_154_code (1 : Nat) (Option.some Jvm.ClassFile.FieldType.boolean), Jvm.Cond.code ({ cls := "java/lang/StringLatin1", name := "indexOf", desc := "([BIII)I" } : Jvm.MethodName) jdk_43_method_22_code (4 : Nat) (Option.some Jvm.ClassFile.FieldType.int), Jvm.Cond.code ({ cls := "java/lang/StringLatin1", name := "canEncode", desc := "(I)Z" } : Jvm.MethodName) jdk_43_method_4_code (1 : Nat) (Option.some Jvm.ClassFile.FieldType.boolean), Jvm.Cond.code ({ cls := "com/example/cohortwise/cohortwise/http/RequestsPathPinLaw", name := "segChk", desc := "(Ljava/lang/String;IICC)I" } : Jvm.MethodName) method_9_code (6 : Nat) (Option.some Jvm.ClassFile.FieldType.int), Jvm.Cond.code ({ cls := "java/lang/String", name := "charAt", desc := "(I)C" } : Jvm.MethodName) jdk_42_method_56_code (2 : Nat) (Option.some Jvm.ClassFile.FieldType.char), Jvm.Cond.code ({ cls := "java/lang/StringLatin1", name := "charAt", desc := "([BI)C" } : Jvm.MethodName) jdk_43_method_2_code (2 : Nat) (Option.some Jvm.ClassFile.FieldType.char), Jvm.Cond.code ({ cls := "java/lang/String", name := "checkIndex", desc := "(II)V" } : Jvm.MethodName) jdk_42_method_155_code (2 : Nat) (Option.none : Option Jvm.ClassFile.FieldType), Jvm.Cond.code ({ cls := "jdk/internal/util/Preconditions", name := "checkIndex", desc := "(IILjava/util/function/BiFunction;)I" } : Jvm.MethodName) jdk_41_method_11_code (3 : Nat) (Option.some Jvm.ClassFile.FieldType.int), Jvm.Cond.code ({ cls := "com/example/cohortwise/cohortwise/http/RequestsPathPinLaw", name := "one", desc := "(Ljava/lang/String;II)I" } : Jvm.MethodName) method_8_code (3 : Nat) (Option.some Jvm.ClassFile.FieldType.int), Jvm.Cond.code ({ cls := "com/example/cohortwise/cohortwise/http/RequestsPathPinLaw", name := "esc", desc := "(Ljava/lang/String;II)I" } : Jvm.MethodName) method_7_code (3 : Nat) (Option.some Jvm.ClassFile.FieldType.int), Jvm.Cond.code ({ cls := "com/example/cohortwise/cohortwise/http/RequestsPathPinLaw", name := "hex", desc := "(I)C" } : Jvm.MethodName) method_5_code (1 : Nat) (Option.some Jvm.ClassFile.FieldType.char), Jvm.Cond.code ({ cls := "java/lang/StringUTF16", name := "compress", desc := "([CII)[B" } : Jvm.MethodName) jdk_52_method_16_code (6 : Nat) (Option.some (Jvm.ClassFile.FieldType.array Jvm.ClassFile.FieldType.byte)), Jvm.Cond.code ({ cls := "java/lang/StringUTF16", name := "compress", desc := "([CI[BII)I" } : Jvm.MethodName) jdk_52_method_21_code (7 : Nat) (Option.some Jvm.ClassFile.FieldType.int), Jvm.Cond.code ({ cls := "java/lang/StringUTF16", name := "toBytes", desc := "([CII)[B" } : Jvm.MethodName) jdk_52_method_14_code (5 : Nat) (Option.some (Jvm.ClassFile.FieldType.array Jvm.ClassFile.FieldType.byte)), Jvm.Cond.code ({ cls := "java/lang/StringUTF16", name := "putChar", desc := "([BII)V" } : Jvm.MethodName) jdk_52_method_4_code (3 : Nat) (Option.none : Option Jvm.ClassFile.FieldType), Jvm.Cond.code ({ cls := "java/lang/StringUTF16", name := "getChar", desc := "([BI)C" } : Jvm.MethodName) jdk_52_method_5_code (2 : Nat) (Option.some Jvm.ClassFile.FieldType.char), Jvm.Cond.code ({ cls := "java/lang/StringUTF16", name := "coderFromArrayLen", desc := "([BI)B" } : Jvm.MethodName) jdk_52_method_15_code (2 : Nat) (Option.some Jvm.ClassFile.FieldType.byte), Jvm.Cond.code ({ cls := "java/lang/String", name := "encodeUTF8_UTF16", desc := "([BZ)[B" } : Jvm.MethodName) jdk_42_method_47_code (9 : Nat) (Option.some (Jvm.ClassFile.FieldType.array Jvm.ClassFile.FieldType.byte)), Jvm.Cond.code ({ cls := "java/lang/Character", name := "isSurrogate", desc := "(C)Z" } : Jvm.MethodName) jdk_89_method_16_code (1 : Nat) (Option.some Jvm.ClassFile.FieldType.boolean), Jvm.Cond.code ({ cls := "java/lang/AbstractStringBuilder", name := "newCapacity", desc := "(I)I" } : Jvm.MethodName) jdk_68_method_10_code (6 : Nat) (Option.some Jvm.ClassFile.FieldType.int), Jvm.Cond.code ({ cls := "jdk/internal/util/ArraysSupport", name := "newLength", desc := "(III)I" } : Jvm.MethodName) jdk_48_method_27_code (4 : Nat) (Option.some Jvm.ClassFile.FieldType.int), Jvm.Cond.code ({ cls := "java/lang/Math", name := "max", desc := "(II)I" } : Jvm.MethodName) jdk_29_method_65_code (2 : Nat) (Option.some Jvm.ClassFile.FieldType.int), Jvm.Cond.code ({ cls := "java/util/Arrays", name := "copyOf", desc := "([BI)[B" } : Jvm.MethodName) jdk_65_method_121_code (3 : Nat) (Option.some (Jvm.ClassFile.FieldType.array Jvm.ClassFile.FieldType.byte)), Jvm.Cond.code ({ cls := "java/lang/StringLatin1", name := "indexOfChar", desc := "([BIII)I" } : Jvm.MethodName) jdk_43_method_23_code (6 : Nat) (Option.some Jvm.ClassFile.FieldType.int), Jvm.Cond.code ({ cls := "com/example/cohortwise/cohortwise/http/RequestsPathPinLaw", name := "unreserved", desc := "(I)Z" } : Jvm.MethodName) method_6_code (1 : Nat) (Option.some Jvm.ClassFile.FieldType.boolean), Jvm.Cond.code ({ cls := "java/lang/StringUTF16", name := "toBytes", desc := "(C)[B" } : Jvm.MethodName) jdk_52_method_24_code (2 : Nat) (Option.some (Jvm.ClassFile.FieldType.array Jvm.ClassFile.FieldType.byte))]
set_option maxRecDepth 65536 in
theorem codes_eq : words1.filter isCode = codes1 := rfl
theorem w_codes : ∀ c ∈ words1.filter isCode, c.before args0 about1 = true := by
  rw [codes_eq]
  intro c hc
  simp only [codes1, List.mem_cons, List.not_mem_nil, or_false] at hc
  rcases hc with rfl | rfl | rfl | rfl | rfl | rfl | rfl | rfl | rfl | rfl | rfl | rfl | rfl | rfl | rfl | rfl | rfl | rfl | rfl | rfl | rfl | rfl | rfl | rfl | rfl | rfl | rfl | rfl | rfl | rfl | rfl | rfl | rfl | rfl | rfl | rfl | rfl | rfl | rfl | rfl | rfl | rfl | rfl | rfl | rfl | rfl | rfl | rfl | rfl | rfl | rfl | rfl | rfl | rfl | rfl | rfl | rfl | rfl | rfl | rfl | rfl | rfl | rfl | rfl
  · exact w_c0
  · exact w_c1
  · exact w_c2
  · exact w_c3
  · exact w_c4
  · exact w_c5
  · exact w_c6
  · exact w_c7
  · exact w_c8
  · exact w_c9
  · exact w_c10
  · exact w_c11
  · exact w_c12
  · exact w_c13
  · exact w_c14
  · exact w_c15
  · exact w_c16
  · exact w_c17
  · exact w_c18
  · exact w_c19
  · exact w_c20
  · exact w_c21
  · exact w_c22
  · exact w_c23
  · exact w_c24
  · exact w_c25
  · exact w_c26
  · exact w_c27
  · exact w_c28
  · exact w_c29
  · exact w_c30
  · exact w_c31
  · exact w_c32
  · exact w_c33
  · exact w_c34
  · exact w_c35
  · exact w_c36
  · exact w_c37
  · exact w_c38
  · exact w_c39
  · exact w_c40
  · exact w_c41
  · exact w_c42
  · exact w_c43
  · exact w_c44
  · exact w_c45
  · exact w_c46
  · exact w_c47
  · exact w_c48
  · exact w_c49
  · exact w_c50
  · exact w_c51
  · exact w_c52
  · exact w_c53
  · exact w_c54
  · exact w_c55
  · exact w_c56
  · exact w_c57
  · exact w_c58
  · exact w_c59
  · exact w_c60
  · exact w_c61
  · exact w_c62
  · exact w_c63
set_option maxRecDepth 65536 in
theorem w_t1 : (words1.take 24).all (fun c => isCode c || c.before args0 about1) = true := by decide +kernel
set_option maxRecDepth 65536 in
theorem w_t2 : ((words1.drop 24).take 24).all (fun c => isCode c || c.before args0 about1) = true := by decide +kernel
set_option maxRecDepth 65536 in
theorem w_t3 : (((words1.drop 24).drop 24).take 24).all (fun c => isCode c || c.before args0 about1) = true := by decide +kernel
set_option maxRecDepth 65536 in
theorem w_t4 : ((((words1.drop 24).drop 24).drop 24).take 24).all (fun c => isCode c || c.before args0 about1) = true := by decide +kernel
set_option maxRecDepth 65536 in
theorem w_t5 : (((((words1.drop 24).drop 24).drop 24).drop 24).take 24).all (fun c => isCode c || c.before args0 about1) = true := by decide +kernel
set_option maxRecDepth 65536 in
theorem w_t6 : ((((((words1.drop 24).drop 24).drop 24).drop 24).drop 24).take 24).all (fun c => isCode c || c.before args0 about1) = true := by decide +kernel
set_option maxRecDepth 65536 in
theorem w_t7 : (((((((words1.drop 24).drop 24).drop 24).drop 24).drop 24).drop 24).take 24).all (fun c => isCode c || c.before args0 about1) = true := by decide +kernel
set_option maxRecDepth 65536 in
theorem w_t8 : ((((((((words1.drop 24).drop 24).drop 24).drop 24).drop 24).drop 24).drop 24).take 24).all (fun c => isCode c || c.before args0 about1) = true := by decide +kernel
set_option maxRecDepth 65536 in
theorem w_t9 : (((((((((words1.drop 24).drop 24).drop 24).drop 24).drop 24).drop 24).drop 24).drop 24).take 24).all (fun c => isCode c || c.before args0 about1) = true := by decide +kernel
set_option maxRecDepth 65536 in
theorem w_t10 : ((((((((((words1.drop 24).drop 24).drop 24).drop 24).drop 24).drop 24).drop 24).drop 24).drop 24).take 24).all (fun c => isCode c || c.before args0 about1) = true := by decide +kernel
set_option maxRecDepth 65536 in
theorem w_t11 : (((((((((((words1.drop 24).drop 24).drop 24).drop 24).drop 24).drop 24).drop 24).drop 24).drop 24).drop 24).take 24).all (fun c => isCode c || c.before args0 about1) = true := by decide +kernel
set_option maxRecDepth 65536 in
theorem w_t12 : ((((((((((((words1.drop 24).drop 24).drop 24).drop 24).drop 24).drop 24).drop 24).drop 24).drop 24).drop 24).drop 24).take 24).all (fun c => isCode c || c.before args0 about1) = true := by decide +kernel
set_option maxRecDepth 65536 in
theorem w_t13 : ((((((((((((words1.drop 24).drop 24).drop 24).drop 24).drop 24).drop 24).drop 24).drop 24).drop 24).drop 24).drop 24).drop 24).all (fun c => isCode c || c.before args0 about1) = true := by decide +kernel
theorem w_tables : (allAtoms (Jvm.Cond.code x code maxLocals ret :: tables_1)).before args0 about1 = true := by
  rw [allAtoms_all]
  show words1.all (fun c => c.before args0 about1) = true
  refine all_split ?_ w_codes
  rw [← List.take_append_drop 24 words1, List.all_append, w_t1, ← List.take_append_drop 24 (words1.drop 24), List.all_append, w_t2, ← List.take_append_drop 24 ((words1.drop 24).drop 24), List.all_append, w_t3, ← List.take_append_drop 24 (((words1.drop 24).drop 24).drop 24), List.all_append, w_t4, ← List.take_append_drop 24 ((((words1.drop 24).drop 24).drop 24).drop 24), List.all_append, w_t5, ← List.take_append_drop 24 (((((words1.drop 24).drop 24).drop 24).drop 24).drop 24), List.all_append, w_t6, ← List.take_append_drop 24 ((((((words1.drop 24).drop 24).drop 24).drop 24).drop 24).drop 24), List.all_append, w_t7, ← List.take_append_drop 24 (((((((words1.drop 24).drop 24).drop 24).drop 24).drop 24).drop 24).drop 24), List.all_append, w_t8, ← List.take_append_drop 24 ((((((((words1.drop 24).drop 24).drop 24).drop 24).drop 24).drop 24).drop 24).drop 24), List.all_append, w_t9, ← List.take_append_drop 24 (((((((((words1.drop 24).drop 24).drop 24).drop 24).drop 24).drop 24).drop 24).drop 24).drop 24), List.all_append, w_t10, ← List.take_append_drop 24 ((((((((((words1.drop 24).drop 24).drop 24).drop 24).drop 24).drop 24).drop 24).drop 24).drop 24).drop 24), List.all_append, w_t11, ← List.take_append_drop 24 (((((((((((words1.drop 24).drop 24).drop 24).drop 24).drop 24).drop 24).drop 24).drop 24).drop 24).drop 24).drop 24), List.all_append, w_t12, w_t13]
  rfl
set_option maxRecDepth 65536 in
theorem w_rest : rest_1_c.before args0 about1 = true := by decide +kernel
set_option maxRecDepth 65536 in
theorem w_case : (Jvm.Cond.and given_1 narrow_1).before args0 about1 = true := by decide +kernel
set_option maxRecDepth 65536 in
theorem w_consts : constsHeld consts_1 about1 := Jvm.Lit.constsHeldB_iff.mp (by decide +kernel)
theorem w_applies : (headSpec (Jvm.Cond.code x code maxLocals ret :: tables_1) room_1).applies x e0.platform about1 = true :=
  (Spec.applies_iff w_frames).mpr ⟨w_running, w_runnable, w_alone, w_named, w_hears, w_ripe, w_room, w_tables⟩
theorem atStart : AtStart classFile x code maxLocals ret World_1 tables_1 room_1 Calls_1 rest_1 Pre_1 launch0 p0 e0 about1 theMethod args0 below0 :=
  ⟨lists_1, trivial, launch0.admits_env _ _ _, launch0.least_env, fairChoices_fair.cas, fairChoices_fair.clock, w_frames, w_args, w_heap, w_applies, ⟨w_consts, trivial⟩, w_rest, w_case⟩
end start1
theorem witness_1 : WitnessClaimed_1 := ⟨start1.p0, start1.e0, start1.about1, start1.theMethod, start1.args0, start1.below0, start1.atStart⟩
end Jvm.Pilot.@@N@@
